import PyProof.Rows.All
import Wide.All
import OpenK.AllK
import Wide.FinOn
import PySem.Challenge.RW_pa0017_01
set_option Elab.async false
set_option maxRecDepth 100000
set_option maxHeartbeats 8000000
set_option linter.unusedVariables false
section
open PySem PySem.W PyProof.Rows
namespace Mine
theorem if_tt {a b : Prop} (h : a) : if true = true then a else b := by rw [if_pos rfl]; exact h
theorem if_ff {a b : Prop} (h : b) : if false = true then a else b := by rw [if_neg (by decide)]; exact h
theorem if_ff' {a b : Prop} (h : b) : if False then a else b := by rw [if_neg not_false]; exact h
theorem if_tt' {a b : Prop} (h : a) : if True then a else b := by rw [if_pos True.intro]; exact h
section
variable {M : Model} {A : Around} {E : Value → Shared → Prop} {s : Shared} {Q : Value → Shared → Prop}
theorem is_type {n : String} (h : Q (.bool true) s) : wpAny M A (compareOp .Is (.type n) (.type n)) Q E s := by
  have hp : plainIs (.type n) (.type n) = true := rfl
  with_reducible exact wpAny_is_self hp h
theorem isNot_type {n : String} (h : Q (.bool false) s) : wpAny M A (compareOp .IsNot (.type n) (.type n)) Q E s := by
  have hp : plainIs (.type n) (.type n) = true := rfl
  with_reducible exact wpAny_isNot_self hp h
end
end Mine
end
open PySem PySem.W PyProof.Rows
local macro_rules | `(tactic| walk_at "ite") => `(tactic| first | with_reducible refine Mine.if_tt ?_ | with_reducible refine Mine.if_ff ?_ | with_reducible refine Mine.if_tt' ?_ | with_reducible refine Mine.if_ff' ?_)
section
open PySem PySem.W PyProof.Rows
namespace Mine
/-! running a tree at the foot of the top's stack, step by step, with the steps told -/
section goes
variable {p : Program} {w : World} {n₀ : Nat} {ann : Option Value} {body : List Stmt} {env : Env} {q : Pos} {α β : Type}
/-- the tree x, at the foot of the stack, comes in m steps from s to s' and a, whatever stands behind it; the place in the text is as it was -/
def Goes (p : Program) (w : World) (n₀ : Nat) (ann : Option Value) (body : List Stmt) (env : Env) (q : Pos) (m : Nat) (s : Shared) (x : Sem α) (s' : Shared) (a : α) : Prop :=
  ∀ (K : α → Sem Fin) (H : Value → Sem Fin) (gd : Bool → Bool) (lv : List Value → List Value) (pos : Pos) (N : Nat) (r : Shared),
    topRun treeTable p w n₀ ann N s' ⟨K a, .body body env, pos, [topFrame q]⟩ = some r →
    topRun treeTable p w n₀ ann (m + N) s ⟨x.wrap K H gd lv, .body body env, pos, [topFrame q]⟩ = some r
theorem goes_pure {s : Shared} {a : α} : Goes p w n₀ ann body env q 0 s (pure a) s a := by
  intro K H gd lv pos N r h
  rw [Nat.zero_add]; exact h
theorem goes_bind {m₁ m₂ : Nat} {s s₁ s₂ : Shared} {x : Sem α} {f : α → Sem β} {a : α} {b : β} (h1 : Goes p w n₀ ann body env q m₁ s x s₁ a) (h2 : Goes p w n₀ ann body env q m₂ s₁ (f a) s₂ b) :
    Goes p w n₀ ann body env q (m₁ + m₂) s (x >>= f) s₂ b := by
  intro K H gd lv pos N r h
  rw [Sem.bind_eq_wrap', Sem.wrap_wrap, Nat.add_assoc]
  exact h1 _ _ _ _ pos _ r (h2 K H gd lv pos N r h)
theorem goes_wrapped {m : Nat} {s s' : Shared} {x : Sem α} {a : α} {H : Value → Sem α} {gd : Bool → Bool} {lv : List Value → List Value} (h : Goes p w n₀ ann body env q m s x s' a) :
    Goes p w n₀ ann body env q m s (x.wrap .pure H gd lv) s' a := by
  intro K H' gd' lv' pos N r hN
  rw [Sem.wrap_wrap]
  exact h _ _ _ _ pos N r hN
theorem goes_onRaise {m : Nat} {s s' : Shared} {x : Sem α} {a : α} {k : Value → Sem Unit} (h : Goes p w n₀ ann body env q m s x s' a) : Goes p w n₀ ann body env q m s (x.onRaise k) s' a := by
  rw [Sem.onRaise_eq_wrap]; exact goes_wrapped h
theorem goes_holding {m : Nat} {s s' : Shared} {x : Sem α} {a : α} {vs : List Value} (h : Goes p w n₀ ann body env q m s x s' a) : Goes p w n₀ ann body env q m s (holding vs x) s' a := by
  unfold holding
  split
  · exact h
  · rw [Sem.keep_eq_wrap]; exact goes_wrapped h
theorem goes_step {m : Nat} {s s₁ s₂ : Shared} {x y : Sem α} {a : α}
    (h1 : ∀ (K : α → Sem Fin) H gd lv pos, stepOk n₀ ann ⟨x.wrap K H gd lv, .body body env, pos, [topFrame q]⟩ = true ∧
      step (denote treeTable) p w s ⟨x.wrap K H gd lv, .body body env, pos, [topFrame q]⟩ = .go s₁ ⟨y.wrap K H gd lv, .body body env, pos, [topFrame q]⟩)
    (h2 : Goes p w n₀ ann body env q m s₁ y s₂ a) : Goes p w n₀ ann body env q (m + 1) s x s₂ a := by
  intro K H gd lv pos N r h
  rw [show m + 1 + N = m + N + 1 by omega]
  obtain ⟨e1, e2⟩ := h1 K H gd lv pos
  unfold topRun
  rw [e1, e2]
  exact h2 K H gd lv pos N r h
theorem goes_loadPart {s : Shared} {a : Addr} {part : Option Value} {o : Obj} (ho : s.heap.get? a = some o) : Goes p w n₀ ann body env q 1 s (loadPart a part) s o := by
  obtain ⟨heap, gens, drawn, toks, os⟩ := s
  refine goes_step (m := 0) (y := pure o) (fun K H gd lv pos => ⟨rfl, ?_⟩) goes_pure
  show step (denote treeTable) p w ⟨heap, gens, drawn, toks, os⟩ ⟨.load a part _, _, pos, _⟩ = _
  simp only [step, show heap.get? a = some o from ho]
  rfl
theorem goes_updatePart {s : Shared} {a : Addr} {part : Option Value} {f : Obj → Obj} (ho : (s.heap.get? a).isSome = true) (ha : n₀ ≤ a) :
    Goes p w n₀ ann body env q 1 s (updatePart a part f) { s with heap := s.heap.update a f } () := by
  obtain ⟨heap, gens, drawn, toks, os⟩ := s
  refine goes_step (m := 0) (y := pure ()) (fun K H gd lv pos => ⟨?_, ?_⟩) goes_pure
  · show (_ && (Nat.ble n₀ a || _ || _ || _)) = true
    rw [show Nat.ble n₀ a = true from Nat.ble_eq_true_of_le ha]
    rfl
  · show step (denote treeTable) p w ⟨heap, gens, drawn, toks, os⟩ ⟨.update a part f _, _, pos, _⟩ = _
    simp only [step, show (heap.get? a).isSome = true from ho, if_true]
    rfl
theorem goes_of_eq {m : Nat} {s s' : Shared} {x y : Sem α} {a : α} (e : x = y) (h : Goes p w n₀ ann body env q m s y s' a) : Goes p w n₀ ann body env q m s x s' a := e ▸ h
end goes
end Mine
end
section
open PySem PySem.W PyProof.Rows
namespace Mine
theorem heap_raw {h : Heap} {d : Addr} {o : Obj} (ho : h.get? d = some o) : h.objs[d]? = some o := by
  unfold Heap.get? at ho
  split at ho
  · cases ho
  · exact ho
theorem update_const {h : Heap} {d : Addr} {o : Obj} {f : Obj → Obj} (ho : h.get? d = some o) : h.update d f = h.update d (fun _ => f o) := by
  have hr := heap_raw ho
  obtain ⟨objs, l⟩ := h
  show Heap.mk _ _ = Heap.mk _ _
  refine congrArg (Heap.mk · l) (Array.ext_getElem? fun i => ?_)
  rw [Array.getElem?_modify, Array.getElem?_modify]
  by_cases e : d = i
  · subst e; rw [if_pos rfl, if_pos rfl, show objs[d]? = some o from hr]; rfl
  · rw [if_neg e, if_neg e]
theorem update_twice {h : Heap} {d : Addr} {a b : Obj} : (h.update d (fun _ => a)).update d (fun _ => b) = h.update d (fun _ => b) := by
  obtain ⟨objs, l⟩ := h
  show Heap.mk _ _ = Heap.mk _ _
  refine congrArg (Heap.mk · l) (Array.ext_getElem? fun i => ?_)
  rw [Array.getElem?_modify, Array.getElem?_modify, Array.getElem?_modify]
  by_cases e : d = i
  · subst e; simp only [if_true]; cases objs[d]? <;> rfl
  · rw [if_neg e, if_neg e, if_neg e]
theorem update_id {h : Heap} {d : Addr} {o : Obj} (ho : h.get? d = some o) : h.update d (fun _ => o) = h := by
  have hr := heap_raw ho
  obtain ⟨objs, l⟩ := h
  show Heap.mk _ _ = Heap.mk _ _
  refine congrArg (Heap.mk · l) (Array.ext_getElem? fun i => ?_)
  rw [Array.getElem?_modify]
  by_cases e : d = i
  · subst e; rw [if_pos rfl, show objs[d]? = some o from hr]; rfl
  · rw [if_neg e]
def dictO (es : List DictEntry) (k : Nat) : Obj := ⟨.type "dict", none, .dict ⟨es⟩ k, ⟨[]⟩⟩
theorem get_dictO {h : Heap} {d : Addr} {o : Obj} {es : List DictEntry} {k : Nat} (ho : h.get? d = some o) : (h.update d (fun _ => dictO es k)).get? d = some (dictO es k) := by
  have hr := heap_raw ho
  obtain ⟨objs, l⟩ := h
  show (match (objs.modify d _)[d]? with | some ⟨_, _, .freed, _⟩ => none | o => o) = _
  rw [Array.getElem?_modify, if_pos rfl, show objs[d]? = some o from hr]
  rfl
section
variable {p : Program} {w : World} {n₀ : Nat} {ann : Option Value} {body : List Stmt} {env : Env} {q : Pos} {α β : Type}
theorem goes_dictEntries {s : Shared} {a : Addr} {part : Option Value} {o : Obj} {es : Array DictEntry} {k : Nat} (ho : s.heap.get? a = some o) (hd : o.data = .dict es k) :
    Goes p w n₀ ann body env q 1 s (dictEntries a part) s es := by
  unfold dictEntries
  refine goes_bind (m₂ := 0) (goes_loadPart ho) ?_
  rw [hd]; exact goes_pure
theorem goes_dictEpoch {s : Shared} {a : Addr} {part : Option Value} {o : Obj} {es : Array DictEntry} {k : Nat} (ho : s.heap.get? a = some o) (hd : o.data = .dict es k) :
    Goes p w n₀ ann body env q 1 s (dictEpoch a part) s k := by
  unfold dictEpoch
  refine goes_bind (m₂ := 0) (goes_loadPart ho) ?_
  rw [hd]; exact goes_pure
def freshIn (es : List DictEntry) (h : Int) : Bool := es.all fun e => decide (e.hash ≠ h)
def isInt : Value → Bool
  | .int .. => true
  | _ => false
theorem isInt_is {v : Value} (h : isInt v = true) : ∃ i t, v = .int i t := by
  cases v <;> first | exact ⟨_, _, rfl⟩ | cases h
theorem places_nil {es : List DictEntry} {h : Int} (hf : freshIn es h = true) : placesWithHash (Array.mk es).size (fun i => (Array.mk es)[i]?.map (·.hash)) h = [] := by
  unfold placesWithHash
  rw [List.filter_eq_nil_iff]
  intro i hi
  have hi' : i < es.length := by simpa using hi
  have : (Array.mk es)[i]? = some es[i] := by simp [hi']
  show ¬(Option.map (fun x => x.hash) (Array.mk es)[i]? == some h) = true
  rw [this]
  have hm := List.all_eq_true.mp hf es[i] (List.getElem_mem hi')
  simpa using hm
theorem goes_find_none {s : Shared} {d : Addr} {es : List DictEntry} {k : Nat} {h i : Int} {t : Tok} (ho : s.heap.get? d = some (dictO es k)) (hf : freshIn es h = true) :
    Goes p w n₀ ann body env q 1 s (dictFind d (.int i t) h) s none := by
  unfold dictFind
  refine goes_holding ?_
  refine goes_bind (m₂ := 0) (goes_dictEntries ho rfl) ?_
  dsimp only
  rw [places_nil hf]
  exact goes_pure
theorem goes_put {s : Shared} {d : Addr} {es : List DictEntry} {k : Nat} {h i : Int} {t : Tok} {v : Value} (ho : s.heap.get? d = some (dictO es k)) (hf : freshIn es h = true) (hn : n₀ ≤ d) (hs : es.length < 10000) :
    Goes p w n₀ ann body env q 4 s (dictPut d h (.int i t) v) { s with heap := s.heap.update d (fun _ => dictO (es ++ [⟨h, .int i t, v⟩]) (k + 1)) } () := by
  unfold dictPut
  refine goes_bind (m₁ := 1) (m₂ := 3) (goes_find_none ho hf) ?_
  dsimp only
  unfold updateDictKeys
  refine goes_bind (m₁ := 1) (m₂ := 2) (goes_loadPart ho) ?_
  have e : s.heap.update d (Obj.mapDictKeys (·.push ⟨h, .int i t, v⟩)) = s.heap.update d (fun _ => dictO (es ++ [⟨h, .int i t, v⟩]) (k + 1)) := (update_const ho).trans (by simp [Obj.mapDictKeys, dictO])
  refine goes_bind (m₁ := 1) (m₂ := 1) (goes_updatePart (by rw [ho]; rfl) hn) ?_
  rw [e]
  unfold lookBehind
  refine goes_bind (m₁ := 1) (m₂ := 0) (goes_loadPart (o := dictO (es ++ [⟨h, .int i t, v⟩]) (k + 1)) (get_dictO ho)) ?_
  have hp : (dictO (es ++ [⟨h, .int i t, v⟩]) (k + 1)).data.pastItsLine = none := by
    show (if (Array.mk (es ++ [(⟨h, .int i t, v⟩ : DictEntry)])).size > sizeLine + 1 then some "dict:memory" else none) = none
    rw [if_neg]
    have : (Array.mk (es ++ [(⟨h, .int i t, v⟩ : DictEntry)])).size = es.length + 1 := by simp
    rw [this]; unfold sizeLine; omega
  rw [hp]; exact goes_pure
/-- the entries of the second, none of whose hashes the first holds, and no two alike -/
def apartIn : List DictEntry → List DictEntry → Bool
  | _, [] => true
  | es, e :: r => freshIn es e.hash && isInt e.key && freshIn r e.hash && apartIn es r
theorem freshIn_append {es : List DictEntry} {e : DictEntry} {h : Int} (h1 : freshIn es h = true) (h2 : e.hash ≠ h) : freshIn (es ++ [e]) h = true := by
  unfold freshIn at *
  rw [List.all_append, h1]
  simpa using h2
theorem apartIn_step {es r : List DictEntry} {e : DictEntry} : apartIn es r = true → freshIn r e.hash = true → apartIn (es ++ [e]) r = true := by
  induction r with
  | nil => intro _ _; rfl
  | cons x r ih =>
    intro h hf
    simp only [apartIn, Bool.and_eq_true] at h ⊢
    obtain ⟨⟨⟨h1, h2⟩, h3⟩, h4⟩ := h
    have hf' : decide (x.hash ≠ e.hash) = true ∧ freshIn r e.hash = true := by
      unfold freshIn at hf ⊢
      rw [List.all_cons, Bool.and_eq_true] at hf
      exact hf
    exact ⟨⟨⟨freshIn_append h1 (fun q => (of_decide_eq_true hf'.1) q.symm), h2⟩, h3⟩, ih h4 hf'.2⟩
theorem goes_forIn_nil {s : Shared} {g : Nat → PUnit → Sem (ForInStep PUnit)} : Goes p w n₀ ann body env q 0 s (forIn ([] : List Nat) PUnit.unit g) s PUnit.unit := goes_pure
theorem goes_forIn_cons {m₁ m₂ : Nat} {s s₁ s₂ : Shared} {i : Nat} {l : List Nat} {g : Nat → PUnit → Sem (ForInStep PUnit)} (h1 : Goes p w n₀ ann body env q m₁ s (g i PUnit.unit) s₁ (.yield PUnit.unit))
    (h2 : Goes p w n₀ ann body env q m₂ s₁ (forIn l PUnit.unit g) s₂ PUnit.unit) : Goes p w n₀ ann body env q (m₁ + m₂) s (forIn (i :: l) PUnit.unit g) s₂ PUnit.unit := by
  rw [List.forIn_cons]
  exact goes_bind h1 h2
theorem goes_pure_bind {m : Nat} {s s' : Shared} {a : α} {f : α → Sem β} {b : β} (h : Goes p w n₀ ann body env q m s (f a) s' b) : Goes p w n₀ ann body env q m s (pure a >>= f) s' b := h
theorem goes_at {m : Nat} {s s' a b : Shared} {x : Sem α} {v : α} (e : s = a) (e' : s' = b) (h : Goes p w n₀ ann body env q m a x b v) : Goes p w n₀ ann body env q m s x s' v := by
  subst e; subst e'; exact h
theorem goes_range {c n : Nat} {St : Nat → Shared} {g : Nat → PUnit → Sem (ForInStep PUnit)} (h : ∀ j, j < n → Goes p w n₀ ann body env q c (St j) (g j PUnit.unit) (St (j + 1)) (.yield PUnit.unit)) :
    ∀ m j, j + m = n → Goes p w n₀ ann body env q (c * m) (St j) (forIn (List.range' j m) PUnit.unit g) (St n) PUnit.unit
  | 0, j, e => by
    have : j = n := by omega
    subst this
    exact goes_forIn_nil
  | m + 1, j, e => by
    rw [List.range'_succ, show c * (m + 1) = c + c * m by rw [Nat.mul_succ, Nat.add_comm]]
    exact goes_forIn_cons (h j (by omega)) (goes_range h m (j + 1) (by omega))
theorem apartIn_drop {es es' : List DictEntry} (h : apartIn es es' = true) : ∀ j e, es'[j]? = some e → freshIn (es ++ es'.take j) e.hash = true ∧ isInt e.key = true := by
  induction es' generalizing es with
  | nil => intro j e he; simp at he
  | cons x r ih =>
    intro j e he
    simp only [apartIn, Bool.and_eq_true] at h
    obtain ⟨⟨⟨h1, h2⟩, h3⟩, h4⟩ := h
    cases j with
    | zero =>
      simp only [List.getElem?_cons_zero, Option.some.injEq] at he
      subst he
      simpa using ⟨h1, h2⟩
    | succ j =>
      simp only [List.getElem?_cons_succ] at he
      have := ih (es := es ++ [x]) (apartIn_step h4 h3) j e he
      simpa using this
theorem goes_merge {s : Shared} {d sub : Addr} {es es' : List DictEntry} {k k' : Nat} (hd : s.heap.get? d = some (dictO es k)) (hs : s.heap.get? sub = some (dictO es' k')) (hne : sub ≠ d) (hsys : (sub == sysModules) = false)
    (hn : n₀ ≤ d) (hes : es.isEmpty = false) (ha : apartIn es es' = true) (hl : es.length + es'.length < 10000) :
    Goes p w n₀ ann body env q (5 + 6 * es'.length) s (mergeMapping d (.ref sub) false) { s with heap := s.heap.update d (fun _ => dictO (es ++ es') (k + es'.length)) } () := by
  unfold mergeMapping
  have ht : Goes p w n₀ ann body env q 1 s (typeOf (.ref sub)) s (.type "dict") := by
    show Goes p w n₀ ann body env q 1 s (loadPart sub (some headPart) >>= fun o => pure o.cls) s _
    exact goes_bind (m₂ := 0) (goes_loadPart hs) goes_pure
  have hi : isSubtype (.type "dict") (.type "dict") = pure true := by rw [isSubtype_type]; kernel_rfl
  have hl' : typeLookup (.type "dict") "__iter__" = pure (some (.builtin "dict.__iter__")) := F.slot_dict_iter.lookup
  have hinst : Goes p w n₀ ann body env q 1 s (isInstance (.ref sub) (.type "dict")) s true := by
    unfold isInstance
    refine goes_bind (m₁ := 1) (m₂ := 0) ht ?_
    rw [hi]; exact goes_pure
  have hspec : Goes p w n₀ ann body env q 1 s (specialOf (.ref sub) "__iter__") s (some (.builtin "dict.__iter__")) := by
    unfold specialOf
    refine goes_bind (m₁ := 1) (m₂ := 0) ht ?_
    rw [hl']; exact goes_pure
  rw [show 5 + 6 * es'.length = 1 + (1 + (1 + (1 + (1 + (6 * es'.length + 0))))) by omega]
  refine goes_bind hinst ?_
  rw [if_pos rfl]
  refine goes_bind hspec ?_
  rw [show (some (Value.builtin "dict.__iter__") == some (Value.builtin "dict.__iter__")) = true by decide]
  refine goes_pure_bind ?_
  dsimp only
  rw [hsys, if_neg (by decide)]
  refine goes_bind (goes_dictEntries hd rfl) ?_
  rw [show (Array.mk es).isEmpty = false by cases es with | nil => cases hes | cons => rfl, if_neg (by decide)]
  refine goes_bind (goes_dictEntries hs rfl) ?_
  refine goes_bind (goes_dictEpoch hs rfl) ?_
  refine goes_bind (m₁ := 6 * es'.length) (m₂ := 0) (a := PUnit.unit) ?_ goes_pure
  rw [show (Array.mk es').size = es'.length from rfl, List.range_eq_range']
  have e0 : s = { s with heap := s.heap.update d (fun _ => dictO (es ++ es'.take 0) (k + 0)) } := by
    rw [List.take_zero, List.append_nil, Nat.add_zero, update_id hd]
  have e1 : ({ s with heap := s.heap.update d (fun _ => dictO (es ++ es') (k + es'.length)) } : Shared) = { s with heap := s.heap.update d (fun _ => dictO (es ++ es'.take es'.length) (k + es'.length)) } := by
    rw [List.take_length]
  refine goes_at e0 e1 ?_
  refine goes_range (St := fun j => { s with heap := s.heap.update d (fun _ => dictO (es ++ es'.take j) (k + j)) }) (fun j hj => ?_) es'.length 0 (by omega)
  obtain ⟨e, he⟩ : ∃ e, es'[j]? = some e := ⟨es'[j], by simp [hj]⟩
  obtain ⟨hf, hk⟩ := apartIn_drop ha j e he
  obtain ⟨i, t, hi⟩ := isInt_is hk
  have hsub : ∀ o, (s.heap.update d (fun _ => o)).get? sub = some (dictO es' k') := fun o => (Heap.get?_update_ne _ _ _ _ hne).trans hs
  rw [show (6 : Nat) = 1 + (4 + (1 + 0)) from rfl]
  refine goes_bind (goes_dictEntries (hsub _) rfl) ?_
  rw [show (Array.mk es')[j]? = some e by simpa using he]
  dsimp only
  refine goes_bind (s₁ := { s with heap := s.heap.update d (fun _ => dictO (es ++ es'.take (j + 1)) (k + (j + 1))) }) (a := ()) ?_ ?_
  · refine goes_holding ?_
    rw [if_neg (by decide), hi]
    have := goes_put (p := p) (w := w) (n₀ := n₀) (ann := ann) (body := body) (env := env) (q := q) (s := { s with heap := s.heap.update d (fun _ => dictO (es ++ es'.take j) (k + j)) }) (d := d) (es := es ++ es'.take j) (k := k + j) (h := e.hash) (i := i) (t := t) (v := e.val) (get_dictO hd) hf hn (by simp; omega)
    rw [show (es ++ es'.take j) ++ [⟨e.hash, .int i t, e.val⟩] = es ++ es'.take (j + 1) by
      rw [List.append_assoc, List.take_succ, he, ← hi]; rfl, update_twice, Nat.add_assoc] at this
    exact this
  · refine goes_bind (m₂ := 0) (goes_dictEpoch (hsub _) rfl) ?_
    rw [show (k' != k') = false by simp, if_neg (by decide)]
    exact goes_pure
end
end Mine
end
section
open PySem PySem.W PyProof.Rows
namespace Mine
theorem sem_assoc {α β γ : Type} (x : Sem α) (f : α → Sem β) (g : β → Sem γ) : (x >>= f) >>= g = x >>= fun a => f a >>= g := by
  rw [Sem.bind_eq_wrap' x, Sem.bind_eq_wrap' _ g, Sem.wrap_wrap, Sem.bind_eq_wrap' x]
  refine Sem.wrap_congr _ _ _ (fun a => ?_) fun _ => rfl
  rw [Sem.bind_eq_wrap']
theorem sem_pure {α β : Type} (a : α) (f : α → Sem β) : (pure a : Sem α) >>= f = f a := rfl
theorem sem_bind_pure {α : Type} (x : Sem α) : x >>= pure = x := by
  rw [Sem.bind_eq_wrap']
  induction x <;> simp_all only [Sem.wrap] <;> rfl
abbrev Pr := Sem Value × Sem Value
abbrev SS := Option Addr × List Pr
def itemOf (x : Pr) : Option (Sem Value) × Sem Value := (some x.1, x.2)
section
variable {g : Option (Sem Value) × Sem Value → SS → Sem (ForInStep SS)} {flush : List Pr → Option Addr → Sem (Option Addr)}
theorem loop_fill (g1 : ∀ (x : Pr) (m : Option Addr) (run : List Pr), ((run ++ [x]).length == 17) = false → g (itemOf x) (m, run) = pure (.yield (m, run ++ [x]))) :
    ∀ (l run : List Pr) (m : Option Addr) (rest : List (Option (Sem Value) × Sem Value)), run.length + l.length < 17 → forIn (l.map itemOf ++ rest) (m, run) g = forIn rest (m, run ++ l) g
  | [], run, m, rest, _ => by simp
  | x :: l, run, m, rest, h => by
    rw [List.map_cons, List.cons_append, List.forIn_cons, g1 x m run (by simp at h ⊢; omega), sem_pure]
    dsimp only
    rw [loop_fill g1 l (run ++ [x]) m rest (by simp at h ⊢; omega), List.append_assoc]
    rfl
theorem loop_chunk (g1 : ∀ (x : Pr) (m : Option Addr) (run : List Pr), ((run ++ [x]).length == 17) = false → g (itemOf x) (m, run) = pure (.yield (m, run ++ [x])))
    (g2 : ∀ (x : Pr) (m : Option Addr) (run : List Pr), ((run ++ [x]).length == 17) = true → g (itemOf x) (m, run) = flush (run ++ [x]) m >>= fun m' => pure (.yield (m', [])))
    (c : List Pr) (hc : c.length = 17) (m : Option Addr) (rest : List (Option (Sem Value) × Sem Value)) : forIn (c.map itemOf ++ rest) (m, []) g = flush c m >>= fun m' => forIn rest (m', []) g := by
  obtain ⟨l, x, rfl⟩ : ∃ l x, c = l ++ [x] := by
    have : c ≠ [] := by intro e; rw [e] at hc; cases hc
    exact ⟨c.dropLast, c.getLast this, (List.dropLast_concat_getLast this).symm⟩
  have hl : l.length = 16 := by simp at hc; omega
  rw [List.map_append, List.append_assoc, loop_fill g1 l [] m _ (by simp; omega), List.nil_append, List.map_cons, List.map_nil, List.cons_append, List.nil_append, List.forIn_cons,
    g2 x m l (by simp [hl]), sem_assoc]
  rfl
end
def letGo (d : Addr) (x : Value) : Sem Unit := do let _ ← holding [.ref d, x] (runValue (.builtin "proto.let_go" {}))
def merge21 (d sub : Addr) : Sem Unit := (holding [.ref d, .ref sub] (mergeMapping d (.ref sub) false)).onRaise (letGo d)
def addChunk (d : Addr) (c : List Pr) : Sem Unit := holding [.ref d] (subDict c) >>= fun sub => merge21 d sub
def addChunks (d : Addr) : List (List Pr) → Sem Unit
  | [] => pure ()
  | c :: r => addChunk d c >>= fun _ => addChunks d r
def flushM (run : List Pr) : Option Addr → Sem (Option Addr)
  | none => subDict run >>= fun d => pure (some d)
  | some d => addChunk d run >>= fun _ => pure (some d)
section
variable {g : Option (Sem Value) × Sem Value → SS → Sem (ForInStep SS)} {fin : SS → Sem Value}
theorem display_loop {last : List Pr} (g1 : ∀ (x : Pr) (m : Option Addr) (run : List Pr), ((run ++ [x]).length == 17) = false → g (itemOf x) (m, run) = pure (.yield (m, run ++ [x])))
    (g2 : ∀ (x : Pr) (m : Option Addr) (run : List Pr), ((run ++ [x]).length == 17) = true → g (itemOf x) (m, run) = flushM (run ++ [x]) m >>= fun m' => pure (.yield (m', [])))
    (hl : last.length < 17) (hfin : ∀ d, fin (some d, last) = addChunk d last >>= fun _ => pure (.ref d)) (d : Addr) :
    ∀ cs : List (List Pr), (∀ c ∈ cs, c.length = 17) → (forIn ((cs.flatten ++ last).map itemOf) (some d, []) g >>= fin) = addChunks d (cs ++ [last]) >>= fun _ => pure (.ref d)
  | [], _ => by
    rw [List.flatten_nil, List.nil_append, ← List.append_nil (last.map itemOf), loop_fill g1 last [] (some d) [] (by simpa using hl), List.forIn_nil, sem_pure, List.nil_append, hfin]
    show _ = (addChunk d last >>= fun _ => pure ()) >>= _
    rw [sem_assoc]
    rfl
  | c :: cs, h => by
    rw [List.flatten_cons, List.append_assoc, List.map_append, loop_chunk g1 g2 c (h c (.head _)), sem_assoc]
    show ((addChunk d c >>= fun _ => pure (some d)) >>= fun m' => (forIn _ (m', []) g >>= fin)) = (addChunk d c >>= fun _ => addChunks d (cs ++ [last])) >>= _
    rw [sem_assoc, sem_assoc]
    refine congrArg (addChunk d c >>= ·) (funext fun _ => ?_)
    rw [sem_pure]
    exact display_loop g1 g2 hl hfin d cs fun c hc => h c (.tail _ hc)
theorem display_whole {c0 last : List Pr} {cs : List (List Pr)} (g1 : ∀ (x : Pr) (m : Option Addr) (run : List Pr), ((run ++ [x]).length == 17) = false → g (itemOf x) (m, run) = pure (.yield (m, run ++ [x])))
    (g2 : ∀ (x : Pr) (m : Option Addr) (run : List Pr), ((run ++ [x]).length == 17) = true → g (itemOf x) (m, run) = flushM (run ++ [x]) m >>= fun m' => pure (.yield (m', [])))
    (hfin : ∀ d, fin (some d, last) = addChunk d last >>= fun _ => pure (.ref d)) (h0 : c0.length = 17) (hcs : ∀ c ∈ cs, c.length = 17) (hl : last.length < 17) :
    (forIn ((c0 ++ (cs.flatten ++ last)).map itemOf) (none, []) g >>= fin) = subDict c0 >>= fun d => addChunks d (cs ++ [last]) >>= fun _ => pure (.ref d) := by
  rw [List.map_append, loop_chunk g1 g2 c0 h0, sem_assoc]
  show ((subDict c0 >>= fun d => pure (some d)) >>= fun m' => (forIn _ (m', []) g >>= fin)) = _
  rw [sem_assoc]
  refine congrArg (subDict c0 >>= ·) (funext fun d => ?_)
  rw [sem_pure]
  exact display_loop g1 g2 hl hfin d cs hcs
end
theorem isEmpty_snoc {α : Type} (l : List α) (x : α) : (l ++ [x]).isEmpty = false := by simp
theorem display_eq (c0 : List Pr) (cs : List (List Pr)) (last : List Pr) (h0 : c0.length = 17) (hcs : ∀ c ∈ cs, c.length = 17) (hl : last.length < 17) (hne : last.isEmpty = false) :
    dictDisplay ((c0 ++ (cs.flatten ++ last)).map itemOf) = subDict c0 >>= fun d => addChunks d (cs ++ [last]) >>= fun _ => pure (.ref d) := by
  unfold dictDisplay
  dsimp only
  refine display_whole (fun x m run h => ?_) (fun x m run h => ?_) (fun d => ?_) h0 hcs hl
  · dsimp only [itemOf]
    rw [h, if_neg (by decide)]
  · dsimp only [itemOf]
    rw [h, if_pos rfl, isEmpty_snoc, if_neg (by decide)]
    cases m with
    | none => rfl
    | some d =>
      dsimp only [flushM, addChunk]
      rw [sem_assoc, sem_assoc, sem_assoc]
      refine congrArg (_ >>= ·) (funext fun sub => ?_)
      rw [sem_assoc]
      rfl
  · dsimp only
    rw [hne, if_neg (by decide)]
    dsimp only [addChunk]
    rw [sem_assoc, sem_assoc]
    refine congrArg (_ >>= ·) (funext fun sub => ?_)
    rw [sem_assoc]
    rfl
end Mine
end
section
open PySem PySem.W PyProof.Rows
namespace Mine
section
variable {p : Program} {w : World} {n₀ : Nat} {ann : Option Value} {body : List Stmt} {env : Env} {q : Pos} {α β : Type}
theorem top_seg {n N : Nat} {s s' r : Shared} {x : Sem α} {f : α → Sem β} {K : β → Sem Fin} {H : Value → Sem Fin} {c c' : Code} {pos pos' : Pos} {fl : Flow} {a₀ : α} (res : α → Flow)
    (hx : segRun treeTable p w n₀ ann 1 n s ⟨x.wrap (fun a => .pure (.done (res a))) deadEnd id id, c, pos, [topFrame q]⟩ = some (fl, s', c', pos')) (hi : ∀ a, res a = fl → a = a₀)
    (k : topRun treeTable p w n₀ ann N s' ⟨(f a₀).wrap K H id id, c', pos', [topFrame q]⟩ = some r) :
    topRun treeTable p w n₀ ann (n + N) s ⟨(x >>= f).wrap K H id id, c, pos, [topFrame q]⟩ = some r := by
  obtain ⟨a, ha, hN⟩ := seg_top (res := res) (K' := fun a => (f a).wrap K H id id) (H' := H) (B := [topFrame q]) rfl n s ⟨x.wrap (fun a => .pure (.done (res a))) deadEnd id id, c, pos, [topFrame q]⟩
    ⟨x.wrap (fun a => (f a).wrap K H id id) H id id, c, pos, [topFrame q]⟩ _ _ _ _ ⟨rfl, rfl, .inl ⟨rfl, rfl, _, rfl, rfl⟩⟩ hx
  obtain rfl := hi a ha
  have := hN N r k
  rw [Sem.bind_eq_wrap', Sem.wrap_wrap]
  exact this
theorem top_goes {m N : Nat} {s s' r : Shared} {x : Sem α} {f : α → Sem β} {K : β → Sem Fin} {H : Value → Sem Fin} {pos : Pos} {a : α} (hx : Goes p w n₀ ann body env q m s x s' a)
    (k : topRun treeTable p w n₀ ann N s' ⟨(f a).wrap K H id id, .body body env, pos, [topFrame q]⟩ = some r) :
    topRun treeTable p w n₀ ann (m + N) s ⟨(x >>= f).wrap K H id id, .body body env, pos, [topFrame q]⟩ = some r := by
  rw [Sem.bind_eq_wrap', Sem.wrap_wrap]
  exact hx _ _ _ _ pos N r k
/-- one chunk: the dict of its own, then laid into the main one -/
theorem top_chunk {n m N : Nat} {s s₁ s₂ r : Shared} {c : List Pr} {cs : List (List Pr)} {d sub : Addr} {f : Unit → Sem β} {K : β → Sem Fin} {H : Value → Sem Fin} {pos pos' : Pos}
    (ha : segRun treeTable p w n₀ ann 1 n s ⟨(holding [.ref d] (subDict c)).wrap (fun a => .pure (.done (.ret (.ref a)))) deadEnd id id, .body body env, pos, [topFrame q]⟩ = some (.ret (.ref sub), s₁, .body body env, pos'))
    (hb : Goes p w n₀ ann body env q m s₁ (merge21 d sub) s₂ ())
    (k : topRun treeTable p w n₀ ann N s₂ ⟨(addChunks d cs >>= f).wrap K H id id, .body body env, pos', [topFrame q]⟩ = some r) :
    topRun treeTable p w n₀ ann (n + (m + N)) s ⟨(addChunks d (c :: cs) >>= f).wrap K H id id, .body body env, pos, [topFrame q]⟩ = some r := by
  rw [show (addChunks d (c :: cs) >>= f) = holding [.ref d] (subDict c) >>= fun sub => merge21 d sub >>= fun _ => (addChunks d cs >>= f) by
    show ((addChunk d c >>= fun _ => addChunks d cs) >>= f) = _
    unfold addChunk
    rw [sem_assoc, sem_assoc]]
  refine top_seg (a₀ := sub) (fun a => .ret (.ref a)) ha (fun a e => ?_) ?_
  · injection e with e; injection e
  · exact top_goes hb k
theorem goes_merge21 {S S' : SharedT} {d sub : Addr} {es es' : List DictEntry} {k k' m : Nat} (hd : S.tree.get d = some (dictO es k)) (hs : S.tree.get sub = some (dictO es' k')) (hdn : Nat.blt d S.n = true) (hsn : Nat.blt sub S.n = true)
    (hne : Nat.beq sub d = false) (hsys : (sub == sysModules) = false) (hn : Nat.ble n₀ d = true) (hes : es.isEmpty = false) (ha : apartIn es es' = true) (hl : Nat.blt (es.length + es'.length) 10000 = true) (hm : es'.length = m)
    (hT : S' = { S with tree := S.tree.set d (fun _ => dictO (es ++ es') (k + m)) }) :
    Goes p w n₀ ann body env q (5 + 6 * m) S.abs (merge21 d sub) S'.abs () := by
  subst hm
  subst hT
  have h1 : S.abs.heap.get? d = some (dictO es k) := abs_get (Nat.le_of_ble_eq_true hdn) hd
  have h2 : S.abs.heap.get? sub = some (dictO es' k') := abs_get (Nat.le_of_ble_eq_true hsn) hs
  have := goes_merge (p := p) (w := w) (ann := ann) (body := body) (env := env) (q := q) h1 h2 (Nat.ne_of_beq_eq_false hne) hsys (Nat.le_of_ble_eq_true hn) hes ha (Nat.le_of_ble_eq_true hl)
  refine goes_at rfl ?_ (goes_onRaise (goes_holding this))
  show (⟨absHeap (S.tree.set d _) S.n S.life, S.gens, S.drawn, S.toks, S.os⟩ : Shared) = ⟨(absHeap S.tree S.n S.life).update d _, S.gens, S.drawn, S.toks, S.os⟩
  rw [absHeap_set hd]
end
end Mine
end
section
open PySem PySem.W PyProof.Rows
namespace Mine
abbrev prog : Program := PySem.Challenge.pw_pa0017_01
def top : List Stmt := behindTheImports prog
def stm (i : Nat) : Stmt := (top.drop i).headD default
def fnD (i : Nat) (name qual : Str) (cl : List (Str × Addr)) (dV kV doc pm : Value) (ann : Option Addr) (cd ct : Value) (gl bl : Addr) : Data := match stm i with
  | .FunctionDef _ a b _ _ _ s _ _ _ => .func ⟨name, qual, a, .stmts b, s, gl, cl, dV, kV, doc, pm, ann, cd, ct, bl⟩
  | _ => .plain
def stackOf : Option (SharedT × Thread) → List Frame
  | some (_, t) => t.stack
  | none => []
abbrev FD := Option Value × Bool × List Value × Code × Pos × List Value
def dataOf : Frame → Option FD
  | .ret _ h g l c p kept => some (h, g, l, c, p, kept)
  | _ => none
def kOf : Option Frame → Result → Sem Fin
  | some (.ret k _ _ _ _ _ _) => k
  | _ => fun _ => .unsupported ""
def kq (r : Option (SharedT × Thread)) (i : Nat) : Result → Sem Fin := kOf (stackOf r)[i]?
theorem go_one {r : Option (SharedT × Thread)} {S : SharedT} {cu : Sem Fin} {cd : Code} {p : Pos} {h1 : Option Value} {g1 : Bool} {l1 : List Value} {c1 : Code} {p1 : Pos} {e1 : List Value} {bot : List Frame}
    (a : r = some (S, ⟨cu, cd, p, stackOf r⟩)) (bc : (((stackOf r).take 1).map dataOf, (stackOf r).drop 1) = ([some (h1, g1, l1, c1, p1, e1)], bot)) :
    r = some (S, ⟨cu, cd, p, .ret (kq r 0) h1 g1 l1 c1 p1 e1 :: bot⟩) := by
  obtain ⟨b, c⟩ := Prod.mk.inj bc
  subst c
  refine a.trans (congrArg (fun l => some (S, (⟨cu, cd, p, l⟩ : Thread))) ?_)
  unfold kq
  generalize stackOf r = stack at b ⊢
  cases stack with
  | nil => cases b
  | cons f rest => cases f with
    | gen => simp [dataOf] at b
    | ret k h g l cc pp ee => simp [dataOf] at b; obtain ⟨rfl, rfl, rfl, rfl, rfl, rfl⟩ := b; rfl
theorem go_two {r : Option (SharedT × Thread)} {S : SharedT} {cu : Sem Fin} {cd : Code} {p : Pos} {h1 h2 : Option Value} {g1 g2 : Bool} {l1 l2 : List Value} {c1 c2 : Code} {p1 p2 : Pos} {e1 e2 : List Value} {bot : List Frame}
    (a : r = some (S, ⟨cu, cd, p, stackOf r⟩)) (bc : (((stackOf r).take 2).map dataOf, (stackOf r).drop 2) = ([some (h1, g1, l1, c1, p1, e1), some (h2, g2, l2, c2, p2, e2)], bot)) :
    r = some (S, ⟨cu, cd, p, .ret (kq r 0) h1 g1 l1 c1 p1 e1 :: .ret (kq r 1) h2 g2 l2 c2 p2 e2 :: bot⟩) := by
  obtain ⟨b, c⟩ := Prod.mk.inj bc
  subst c
  refine a.trans (congrArg (fun l => some (S, (⟨cu, cd, p, l⟩ : Thread))) ?_)
  unfold kq
  generalize stackOf r = stack at b ⊢
  match stack, b with
  | .ret _ _ _ _ _ _ _ :: .ret _ _ _ _ _ _ _ :: rest, b => simp [dataOf] at b; obtain ⟨⟨rfl, rfl, rfl, rfl, rfl, rfl⟩, rfl, rfl, rfl, rfl, rfl, rfl⟩ := b; rfl
  | .gen .. :: _, b => simp [dataOf] at b
  | .ret .. :: .gen .. :: _, b => simp [dataOf] at b
theorem go_three {r : Option (SharedT × Thread)} {S : SharedT} {cu : Sem Fin} {cd : Code} {p : Pos} {h1 h2 h3 : Option Value} {g1 g2 g3 : Bool} {l1 l2 l3 : List Value} {c1 c2 c3 : Code} {p1 p2 p3 : Pos} {e1 e2 e3 : List Value} {bot : List Frame}
    (a : r = some (S, ⟨cu, cd, p, stackOf r⟩)) (bc : (((stackOf r).take 3).map dataOf, (stackOf r).drop 3) = ([some (h1, g1, l1, c1, p1, e1), some (h2, g2, l2, c2, p2, e2), some (h3, g3, l3, c3, p3, e3)], bot)) :
    r = some (S, ⟨cu, cd, p, .ret (kq r 0) h1 g1 l1 c1 p1 e1 :: .ret (kq r 1) h2 g2 l2 c2 p2 e2 :: .ret (kq r 2) h3 g3 l3 c3 p3 e3 :: bot⟩) := by
  obtain ⟨b, c⟩ := Prod.mk.inj bc
  subst c
  refine a.trans (congrArg (fun l => some (S, (⟨cu, cd, p, l⟩ : Thread))) ?_)
  unfold kq
  generalize stackOf r = stack at b ⊢
  match stack, b with
  | .ret _ _ _ _ _ _ _ :: .ret _ _ _ _ _ _ _ :: .ret _ _ _ _ _ _ _ :: rest, b => simp [dataOf] at b; obtain ⟨⟨rfl, rfl, rfl, rfl, rfl, rfl⟩, ⟨rfl, rfl, rfl, rfl, rfl, rfl⟩, rfl, rfl, rfl, rfl, rfl, rfl⟩ := b; rfl
  | .gen .. :: _, b => simp [dataOf] at b
  | .ret .. :: .gen .. :: _, b => simp [dataOf] at b
  | .ret .. :: .ret .. :: .gen .. :: _, b => simp [dataOf] at b
theorem rowed {α : Type} (f g : World → α) (hf : ∀ w : World, f (w.withFollow "special-get-raises" false) = g (w.withFollow "special-get-raises" false))
    (ht : ∀ w : World, f (w.withFollow "special-get-raises" true) = g (w.withFollow "special-get-raises" true)) (w : World) : f w = g w :=
  byRow2 "special-get-raises" (P := fun w => f w = g w) hf ht w
def keys21 : List (Option PySem.Expr) := match stm 21 with | .Assign _ (.Dict ks _ _) _ => ks | _ => []
def vals21 : List PySem.Expr := match stm 21 with | .Assign _ (.Dict _ vs _) _ => vs | _ => []
def dpos21 : Pos := match stm 21 with | .Assign _ (.Dict _ _ p) _ => p | _ => default
def tgts21 : List PySem.Expr := match stm 21 with | .Assign ts _ _ => ts | _ => []
noncomputable def life0 : Life := ⟨[], [], [], 0, [], [], false, ⟨[]⟩, [], 0, false, false, false, 0, [2000, 10, 10], false, 0, true, [], [], 0, false⟩
noncomputable def env : Env := ⟨prog.main.scope, mainNs, mainNs, [], Str.empty, none, (.ref 30), some 31, 0⟩
noncomputable def cE : Code := .body top env
noncomputable def qE : Pos := ⟨0, 0, 0, 0⟩
noncomputable def ann : Option Value := (some (.ref 6))
noncomputable def items21 : List (Option (Sem Value) × Sem Value) := (evalEachOpt keys21 env).zip ((evalEach vals21 env).map fun v => do let x ← v; standAt dpos21; pure x)
noncomputable def pairs21 : List Pr := items21.filterMap fun x => x.1.map fun k => (k, x.2)
noncomputable def ch21 (i : Nat) : List Pr := (pairs21.drop (17 * i)).take 17
noncomputable def post21 (v : Value) : Sem Flow := assignStores env v none ((assignEach tgts21 env).map (·.2))
def atA (a : Addr) : Sem Fin := .pure (.done (.ret (.ref a)))
noncomputable def dl0 (P : Params) : List DictEntry := [⟨(PyData.keyHash P ⟨⟨[95, 95, 110, 97, 109, 101, 95, 95]⟩⟩), (.str ⟨⟨[95, 95, 110, 97, 109, 101, 95, 95]⟩⟩ 1), (.str ⟨⟨[98, 117, 105, 108, 116, 105, 110, 115]⟩⟩ 160)⟩, ⟨(PyData.keyHash P ⟨⟨[95, 95, 100, 111, 99, 95, 95]⟩⟩), (.str ⟨⟨[95, 95, 100, 111, 99, 95, 95]⟩⟩ 2), (.builtin "builtins.__doc__:str#opaque")⟩, ⟨(PyData.keyHash P ⟨⟨[95, 95, 112, 97, 99, 107, 97, 103, 101, 95, 95]⟩⟩), (.str ⟨⟨[95, 95, 112, 97, 99, 107, 97, 103, 101, 95, 95]⟩⟩ 3), (.builtin "builtins.__package__:str#opaque")⟩, ⟨(PyData.keyHash P ⟨⟨[95, 95, 108, 111, 97, 100, 101, 114, 95, 95]⟩⟩), (.str ⟨⟨[95, 95, 108, 111, 97, 100, 101, 114, 95, 95]⟩⟩ 4), (.builtin "builtins.__loader__:shared#opaque")⟩, ⟨(PyData.keyHash P ⟨⟨[95, 95, 115, 112, 101, 99, 95, 95]⟩⟩), (.str ⟨⟨[95, 95, 115, 112, 101, 99, 95, 95]⟩⟩ 5), (.builtin "builtins.__spec__#opaque")⟩, ⟨(PyData.keyHash P ⟨⟨[95, 95, 98, 117, 105, 108, 100, 95, 99, 108, 97, 115, 115, 95, 95]⟩⟩), (.str ⟨⟨[95, 95, 98, 117, 105, 108, 100, 95, 99, 108, 97, 115, 115, 95, 95]⟩⟩ 6), (.builtin "__build_class__")⟩, ⟨(PyData.keyHash P ⟨⟨[95, 95, 105, 109, 112, 111, 114, 116, 95, 95]⟩⟩), (.str ⟨⟨[95, 95, 105, 109, 112, 111, 114, 116, 95, 95]⟩⟩ 7), (.builtin "__import__")⟩, ⟨(PyData.keyHash P ⟨⟨[97, 98, 115]⟩⟩), (.str ⟨⟨[97, 98, 115]⟩⟩ 8), (.builtin "abs")⟩, ⟨(PyData.keyHash P ⟨⟨[97, 108, 108]⟩⟩), (.str ⟨⟨[97, 108, 108]⟩⟩ 9), (.builtin "all")⟩, ⟨(PyData.keyHash P ⟨⟨[97, 110, 121]⟩⟩), (.str ⟨⟨[97, 110, 121]⟩⟩ 10), (.builtin "any")⟩, ⟨(PyData.keyHash P ⟨⟨[97, 115, 99, 105, 105]⟩⟩), (.str ⟨⟨[97, 115, 99, 105, 105]⟩⟩ 11), (.builtin "ascii")⟩, ⟨(PyData.keyHash P ⟨⟨[98, 105, 110]⟩⟩), (.str ⟨⟨[98, 105, 110]⟩⟩ 12), (.builtin "bin")⟩, ⟨(PyData.keyHash P ⟨⟨[98, 114, 101, 97, 107, 112, 111, 105, 110, 116]⟩⟩), (.str ⟨⟨[98, 114, 101, 97, 107, 112, 111, 105, 110, 116]⟩⟩ 13), (.builtin "breakpoint")⟩, ⟨(PyData.keyHash P ⟨⟨[99, 97, 108, 108, 97, 98, 108, 101]⟩⟩), (.str ⟨⟨[99, 97, 108, 108, 97, 98, 108, 101]⟩⟩ 14), (.builtin "callable")⟩, ⟨(PyData.keyHash P ⟨⟨[99, 104, 114]⟩⟩), (.str ⟨⟨[99, 104, 114]⟩⟩ 15), (.builtin "chr")⟩, ⟨(PyData.keyHash P ⟨⟨[99, 111, 109, 112, 105, 108, 101]⟩⟩), (.str ⟨⟨[99, 111, 109, 112, 105, 108, 101]⟩⟩ 16), (.builtin "compile")⟩, ⟨(PyData.keyHash P ⟨⟨[100, 101, 108, 97, 116, 116, 114]⟩⟩), (.str ⟨⟨[100, 101, 108, 97, 116, 116, 114]⟩⟩ 17), (.builtin "delattr")⟩, ⟨(PyData.keyHash P ⟨⟨[100, 105, 114]⟩⟩), (.str ⟨⟨[100, 105, 114]⟩⟩ 18), (.builtin "dir")⟩, ⟨(PyData.keyHash P ⟨⟨[100, 105, 118, 109, 111, 100]⟩⟩), (.str ⟨⟨[100, 105, 118, 109, 111, 100]⟩⟩ 19), (.builtin "divmod")⟩, ⟨(PyData.keyHash P ⟨⟨[101, 118, 97, 108]⟩⟩), (.str ⟨⟨[101, 118, 97, 108]⟩⟩ 20), (.builtin "eval")⟩, ⟨(PyData.keyHash P ⟨⟨[101, 120, 101, 99]⟩⟩), (.str ⟨⟨[101, 120, 101, 99]⟩⟩ 21), (.builtin "exec")⟩, ⟨(PyData.keyHash P ⟨⟨[102, 111, 114, 109, 97, 116]⟩⟩), (.str ⟨⟨[102, 111, 114, 109, 97, 116]⟩⟩ 22), (.builtin "format")⟩, ⟨(PyData.keyHash P ⟨⟨[103, 101, 116, 97, 116, 116, 114]⟩⟩), (.str ⟨⟨[103, 101, 116, 97, 116, 116, 114]⟩⟩ 23), (.builtin "getattr")⟩, ⟨(PyData.keyHash P ⟨⟨[103, 108, 111, 98, 97, 108, 115]⟩⟩), (.str ⟨⟨[103, 108, 111, 98, 97, 108, 115]⟩⟩ 24), (.builtin "globals")⟩, ⟨(PyData.keyHash P ⟨⟨[104, 97, 115, 97, 116, 116, 114]⟩⟩), (.str ⟨⟨[104, 97, 115, 97, 116, 116, 114]⟩⟩ 25), (.builtin "hasattr")⟩, ⟨(PyData.keyHash P ⟨⟨[104, 97, 115, 104]⟩⟩), (.str ⟨⟨[104, 97, 115, 104]⟩⟩ 26), (.builtin "hash")⟩, ⟨(PyData.keyHash P ⟨⟨[104, 101, 120]⟩⟩), (.str ⟨⟨[104, 101, 120]⟩⟩ 27), (.builtin "hex")⟩, ⟨(PyData.keyHash P ⟨⟨[105, 100]⟩⟩), (.str ⟨⟨[105, 100]⟩⟩ 28), (.builtin "id")⟩, ⟨(PyData.keyHash P ⟨⟨[105, 110, 112, 117, 116]⟩⟩), (.str ⟨⟨[105, 110, 112, 117, 116]⟩⟩ 29), (.builtin "input")⟩, ⟨(PyData.keyHash P ⟨⟨[105, 115, 105, 110, 115, 116, 97, 110, 99, 101]⟩⟩), (.str ⟨⟨[105, 115, 105, 110, 115, 116, 97, 110, 99, 101]⟩⟩ 30), (.builtin "isinstance")⟩, ⟨(PyData.keyHash P ⟨⟨[105, 115, 115, 117, 98, 99, 108, 97, 115, 115]⟩⟩), (.str ⟨⟨[105, 115, 115, 117, 98, 99, 108, 97, 115, 115]⟩⟩ 31), (.builtin "issubclass")⟩, ⟨(PyData.keyHash P ⟨⟨[105, 116, 101, 114]⟩⟩), (.str ⟨⟨[105, 116, 101, 114]⟩⟩ 32), (.builtin "iter")⟩, ⟨(PyData.keyHash P ⟨⟨[97, 105, 116, 101, 114]⟩⟩), (.str ⟨⟨[97, 105, 116, 101, 114]⟩⟩ 33), (.builtin "aiter")⟩, ⟨(PyData.keyHash P ⟨⟨[108, 101, 110]⟩⟩), (.str ⟨⟨[108, 101, 110]⟩⟩ 34), (.builtin "len")⟩, ⟨(PyData.keyHash P ⟨⟨[108, 111, 99, 97, 108, 115]⟩⟩), (.str ⟨⟨[108, 111, 99, 97, 108, 115]⟩⟩ 35), (.builtin "locals")⟩, ⟨(PyData.keyHash P ⟨⟨[109, 97, 120]⟩⟩), (.str ⟨⟨[109, 97, 120]⟩⟩ 36), (.builtin "max")⟩, ⟨(PyData.keyHash P ⟨⟨[109, 105, 110]⟩⟩), (.str ⟨⟨[109, 105, 110]⟩⟩ 37), (.builtin "min")⟩, ⟨(PyData.keyHash P ⟨⟨[110, 101, 120, 116]⟩⟩), (.str ⟨⟨[110, 101, 120, 116]⟩⟩ 38), (.builtin "next")⟩, ⟨(PyData.keyHash P ⟨⟨[97, 110, 101, 120, 116]⟩⟩), (.str ⟨⟨[97, 110, 101, 120, 116]⟩⟩ 39), (.builtin "anext")⟩, ⟨(PyData.keyHash P ⟨⟨[111, 99, 116]⟩⟩), (.str ⟨⟨[111, 99, 116]⟩⟩ 40), (.builtin "oct")⟩, ⟨(PyData.keyHash P ⟨⟨[111, 114, 100]⟩⟩), (.str ⟨⟨[111, 114, 100]⟩⟩ 41), (.builtin "ord")⟩, ⟨(PyData.keyHash P ⟨⟨[112, 111, 119]⟩⟩), (.str ⟨⟨[112, 111, 119]⟩⟩ 42), (.builtin "pow")⟩, ⟨(PyData.keyHash P ⟨⟨[112, 114, 105, 110, 116]⟩⟩), (.str ⟨⟨[112, 114, 105, 110, 116]⟩⟩ 43), (.builtin "print")⟩, ⟨(PyData.keyHash P ⟨⟨[114, 101, 112, 114]⟩⟩), (.str ⟨⟨[114, 101, 112, 114]⟩⟩ 44), (.builtin "repr")⟩, ⟨(PyData.keyHash P ⟨⟨[114, 111, 117, 110, 100]⟩⟩), (.str ⟨⟨[114, 111, 117, 110, 100]⟩⟩ 45), (.builtin "round")⟩, ⟨(PyData.keyHash P ⟨⟨[115, 101, 116, 97, 116, 116, 114]⟩⟩), (.str ⟨⟨[115, 101, 116, 97, 116, 116, 114]⟩⟩ 46), (.builtin "setattr")⟩, ⟨(PyData.keyHash P ⟨⟨[115, 111, 114, 116, 101, 100]⟩⟩), (.str ⟨⟨[115, 111, 114, 116, 101, 100]⟩⟩ 47), (.builtin "sorted")⟩, ⟨(PyData.keyHash P ⟨⟨[115, 117, 109]⟩⟩), (.str ⟨⟨[115, 117, 109]⟩⟩ 48), (.builtin "sum")⟩, ⟨(PyData.keyHash P ⟨⟨[118, 97, 114, 115]⟩⟩), (.str ⟨⟨[118, 97, 114, 115]⟩⟩ 49), (.builtin "vars")⟩, ⟨(PyData.keyHash P ⟨⟨[78, 111, 110, 101]⟩⟩), (.str ⟨⟨[78, 111, 110, 101]⟩⟩ 50), .none⟩, ⟨(PyData.keyHash P ⟨⟨[69, 108, 108, 105, 112, 115, 105, 115]⟩⟩), (.str ⟨⟨[69, 108, 108, 105, 112, 115, 105, 115]⟩⟩ 51), .ellipsis⟩, ⟨(PyData.keyHash P ⟨⟨[78, 111, 116, 73, 109, 112, 108, 101, 109, 101, 110, 116, 101, 100]⟩⟩), (.str ⟨⟨[78, 111, 116, 73, 109, 112, 108, 101, 109, 101, 110, 116, 101, 100]⟩⟩ 52), .notImplemented⟩, ⟨(PyData.keyHash P ⟨⟨[70, 97, 108, 115, 101]⟩⟩), (.str ⟨⟨[70, 97, 108, 115, 101]⟩⟩ 53), (.bool false)⟩, ⟨(PyData.keyHash P ⟨⟨[84, 114, 117, 101]⟩⟩), (.str ⟨⟨[84, 114, 117, 101]⟩⟩ 54), (.bool true)⟩, ⟨(PyData.keyHash P ⟨⟨[98, 111, 111, 108]⟩⟩), (.str ⟨⟨[98, 111, 111, 108]⟩⟩ 55), (.type "bool")⟩, ⟨(PyData.keyHash P ⟨⟨[109, 101, 109, 111, 114, 121, 118, 105, 101, 119]⟩⟩), (.str ⟨⟨[109, 101, 109, 111, 114, 121, 118, 105, 101, 119]⟩⟩ 56), (.type "memoryview")⟩, ⟨(PyData.keyHash P ⟨⟨[98, 121, 116, 101, 97, 114, 114, 97, 121]⟩⟩), (.str ⟨⟨[98, 121, 116, 101, 97, 114, 114, 97, 121]⟩⟩ 57), (.type "bytearray")⟩, ⟨(PyData.keyHash P ⟨⟨[98, 121, 116, 101, 115]⟩⟩), (.str ⟨⟨[98, 121, 116, 101, 115]⟩⟩ 58), (.type "bytes")⟩, ⟨(PyData.keyHash P ⟨⟨[99, 108, 97, 115, 115, 109, 101, 116, 104, 111, 100]⟩⟩), (.str ⟨⟨[99, 108, 97, 115, 115, 109, 101, 116, 104, 111, 100]⟩⟩ 59), (.type "classmethod")⟩, ⟨(PyData.keyHash P ⟨⟨[99, 111, 109, 112, 108, 101, 120]⟩⟩), (.str ⟨⟨[99, 111, 109, 112, 108, 101, 120]⟩⟩ 60), (.type "complex")⟩, ⟨(PyData.keyHash P ⟨⟨[100, 105, 99, 116]⟩⟩), (.str ⟨⟨[100, 105, 99, 116]⟩⟩ 61), (.type "dict")⟩, ⟨(PyData.keyHash P ⟨⟨[101, 110, 117, 109, 101, 114, 97, 116, 101]⟩⟩), (.str ⟨⟨[101, 110, 117, 109, 101, 114, 97, 116, 101]⟩⟩ 62), (.type "enumerate")⟩, ⟨(PyData.keyHash P ⟨⟨[102, 105, 108, 116, 101, 114]⟩⟩), (.str ⟨⟨[102, 105, 108, 116, 101, 114]⟩⟩ 63), (.type "filter")⟩, ⟨(PyData.keyHash P ⟨⟨[102, 108, 111, 97, 116]⟩⟩), (.str ⟨⟨[102, 108, 111, 97, 116]⟩⟩ 64), (.type "float")⟩, ⟨(PyData.keyHash P ⟨⟨[102, 114, 111, 122, 101, 110, 115, 101, 116]⟩⟩), (.str ⟨⟨[102, 114, 111, 122, 101, 110, 115, 101, 116]⟩⟩ 65), (.type "frozenset")⟩, ⟨(PyData.keyHash P ⟨⟨[112, 114, 111, 112, 101, 114, 116, 121]⟩⟩), (.str ⟨⟨[112, 114, 111, 112, 101, 114, 116, 121]⟩⟩ 66), (.type "property")⟩, ⟨(PyData.keyHash P ⟨⟨[105, 110, 116]⟩⟩), (.str ⟨⟨[105, 110, 116]⟩⟩ 67), (.type "int")⟩, ⟨(PyData.keyHash P ⟨⟨[108, 105, 115, 116]⟩⟩), (.str ⟨⟨[108, 105, 115, 116]⟩⟩ 68), (.type "list")⟩, ⟨(PyData.keyHash P ⟨⟨[109, 97, 112]⟩⟩), (.str ⟨⟨[109, 97, 112]⟩⟩ 69), (.type "map")⟩, ⟨(PyData.keyHash P ⟨⟨[111, 98, 106, 101, 99, 116]⟩⟩), (.str ⟨⟨[111, 98, 106, 101, 99, 116]⟩⟩ 70), (.type "object")⟩, ⟨(PyData.keyHash P ⟨⟨[114, 97, 110, 103, 101]⟩⟩), (.str ⟨⟨[114, 97, 110, 103, 101]⟩⟩ 71), (.type "range")⟩, ⟨(PyData.keyHash P ⟨⟨[114, 101, 118, 101, 114, 115, 101, 100]⟩⟩), (.str ⟨⟨[114, 101, 118, 101, 114, 115, 101, 100]⟩⟩ 72), (.type "reversed")⟩, ⟨(PyData.keyHash P ⟨⟨[115, 101, 116]⟩⟩), (.str ⟨⟨[115, 101, 116]⟩⟩ 73), (.type "set")⟩, ⟨(PyData.keyHash P ⟨⟨[115, 108, 105, 99, 101]⟩⟩), (.str ⟨⟨[115, 108, 105, 99, 101]⟩⟩ 74), (.type "slice")⟩, ⟨(PyData.keyHash P ⟨⟨[115, 116, 97, 116, 105, 99, 109, 101, 116, 104, 111, 100]⟩⟩), (.str ⟨⟨[115, 116, 97, 116, 105, 99, 109, 101, 116, 104, 111, 100]⟩⟩ 75), (.type "staticmethod")⟩, ⟨(PyData.keyHash P ⟨⟨[115, 116, 114]⟩⟩), (.str ⟨⟨[115, 116, 114]⟩⟩ 76), (.type "str")⟩, ⟨(PyData.keyHash P ⟨⟨[115, 117, 112, 101, 114]⟩⟩), (.str ⟨⟨[115, 117, 112, 101, 114]⟩⟩ 77), (.type "super")⟩, ⟨(PyData.keyHash P ⟨⟨[116, 117, 112, 108, 101]⟩⟩), (.str ⟨⟨[116, 117, 112, 108, 101]⟩⟩ 78), (.type "tuple")⟩, ⟨(PyData.keyHash P ⟨⟨[116, 121, 112, 101]⟩⟩), (.str ⟨⟨[116, 121, 112, 101]⟩⟩ 79), (.type "type")⟩, ⟨(PyData.keyHash P ⟨⟨[122, 105, 112]⟩⟩), (.str ⟨⟨[122, 105, 112]⟩⟩ 80), (.type "zip")⟩, ⟨(PyData.keyHash P ⟨⟨[95, 95, 100, 101, 98, 117, 103, 95, 95]⟩⟩), (.str ⟨⟨[95, 95, 100, 101, 98, 117, 103, 95, 95]⟩⟩ 81), (.bool true)⟩, ⟨(PyData.keyHash P ⟨⟨[66, 97, 115, 101, 69, 120, 99, 101, 112, 116, 105, 111, 110]⟩⟩), (.str ⟨⟨[66, 97, 115, 101, 69, 120, 99, 101, 112, 116, 105, 111, 110]⟩⟩ 82), (.type "BaseException")⟩, ⟨(PyData.keyHash P ⟨⟨[66, 97, 115, 101, 69, 120, 99, 101, 112, 116, 105, 111, 110, 71, 114, 111, 117, 112]⟩⟩), (.str ⟨⟨[66, 97, 115, 101, 69, 120, 99, 101, 112, 116, 105, 111, 110, 71, 114, 111, 117, 112]⟩⟩ 83), (.type "BaseExceptionGroup")⟩, ⟨(PyData.keyHash P ⟨⟨[69, 120, 99, 101, 112, 116, 105, 111, 110]⟩⟩), (.str ⟨⟨[69, 120, 99, 101, 112, 116, 105, 111, 110]⟩⟩ 84), (.type "Exception")⟩, ⟨(PyData.keyHash P ⟨⟨[71, 101, 110, 101, 114, 97, 116, 111, 114, 69, 120, 105, 116]⟩⟩), (.str ⟨⟨[71, 101, 110, 101, 114, 97, 116, 111, 114, 69, 120, 105, 116]⟩⟩ 85), (.type "GeneratorExit")⟩, ⟨(PyData.keyHash P ⟨⟨[75, 101, 121, 98, 111, 97, 114, 100, 73, 110, 116, 101, 114, 114, 117, 112, 116]⟩⟩), (.str ⟨⟨[75, 101, 121, 98, 111, 97, 114, 100, 73, 110, 116, 101, 114, 114, 117, 112, 116]⟩⟩ 86), (.type "KeyboardInterrupt")⟩, ⟨(PyData.keyHash P ⟨⟨[83, 121, 115, 116, 101, 109, 69, 120, 105, 116]⟩⟩), (.str ⟨⟨[83, 121, 115, 116, 101, 109, 69, 120, 105, 116]⟩⟩ 87), (.type "SystemExit")⟩, ⟨(PyData.keyHash P ⟨⟨[65, 114, 105, 116, 104, 109, 101, 116, 105, 99, 69, 114, 114, 111, 114]⟩⟩), (.str ⟨⟨[65, 114, 105, 116, 104, 109, 101, 116, 105, 99, 69, 114, 114, 111, 114]⟩⟩ 88), (.type "ArithmeticError")⟩, ⟨(PyData.keyHash P ⟨⟨[65, 115, 115, 101, 114, 116, 105, 111, 110, 69, 114, 114, 111, 114]⟩⟩), (.str ⟨⟨[65, 115, 115, 101, 114, 116, 105, 111, 110, 69, 114, 114, 111, 114]⟩⟩ 89), (.type "AssertionError")⟩, ⟨(PyData.keyHash P ⟨⟨[65, 116, 116, 114, 105, 98, 117, 116, 101, 69, 114, 114, 111, 114]⟩⟩), (.str ⟨⟨[65, 116, 116, 114, 105, 98, 117, 116, 101, 69, 114, 114, 111, 114]⟩⟩ 90), (.type "AttributeError")⟩, ⟨(PyData.keyHash P ⟨⟨[66, 117, 102, 102, 101, 114, 69, 114, 114, 111, 114]⟩⟩), (.str ⟨⟨[66, 117, 102, 102, 101, 114, 69, 114, 114, 111, 114]⟩⟩ 91), (.type "BufferError")⟩, ⟨(PyData.keyHash P ⟨⟨[69, 79, 70, 69, 114, 114, 111, 114]⟩⟩), (.str ⟨⟨[69, 79, 70, 69, 114, 114, 111, 114]⟩⟩ 92), (.type "EOFError")⟩, ⟨(PyData.keyHash P ⟨⟨[73, 109, 112, 111, 114, 116, 69, 114, 114, 111, 114]⟩⟩), (.str ⟨⟨[73, 109, 112, 111, 114, 116, 69, 114, 114, 111, 114]⟩⟩ 93), (.type "ImportError")⟩, ⟨(PyData.keyHash P ⟨⟨[76, 111, 111, 107, 117, 112, 69, 114, 114, 111, 114]⟩⟩), (.str ⟨⟨[76, 111, 111, 107, 117, 112, 69, 114, 114, 111, 114]⟩⟩ 94), (.type "LookupError")⟩, ⟨(PyData.keyHash P ⟨⟨[77, 101, 109, 111, 114, 121, 69, 114, 114, 111, 114]⟩⟩), (.str ⟨⟨[77, 101, 109, 111, 114, 121, 69, 114, 114, 111, 114]⟩⟩ 95), (.type "MemoryError")⟩, ⟨(PyData.keyHash P ⟨⟨[78, 97, 109, 101, 69, 114, 114, 111, 114]⟩⟩), (.str ⟨⟨[78, 97, 109, 101, 69, 114, 114, 111, 114]⟩⟩ 96), (.type "NameError")⟩, ⟨(PyData.keyHash P ⟨⟨[79, 83, 69, 114, 114, 111, 114]⟩⟩), (.str ⟨⟨[79, 83, 69, 114, 114, 111, 114]⟩⟩ 97), (.type "OSError")⟩, ⟨(PyData.keyHash P ⟨⟨[82, 101, 102, 101, 114, 101, 110, 99, 101, 69, 114, 114, 111, 114]⟩⟩), (.str ⟨⟨[82, 101, 102, 101, 114, 101, 110, 99, 101, 69, 114, 114, 111, 114]⟩⟩ 98), (.type "ReferenceError")⟩, ⟨(PyData.keyHash P ⟨⟨[82, 117, 110, 116, 105, 109, 101, 69, 114, 114, 111, 114]⟩⟩), (.str ⟨⟨[82, 117, 110, 116, 105, 109, 101, 69, 114, 114, 111, 114]⟩⟩ 99), (.type "RuntimeError")⟩, ⟨(PyData.keyHash P ⟨⟨[83, 116, 111, 112, 65, 115, 121, 110, 99, 73, 116, 101, 114, 97, 116, 105, 111, 110]⟩⟩), (.str ⟨⟨[83, 116, 111, 112, 65, 115, 121, 110, 99, 73, 116, 101, 114, 97, 116, 105, 111, 110]⟩⟩ 100), (.type "StopAsyncIteration")⟩, ⟨(PyData.keyHash P ⟨⟨[83, 116, 111, 112, 73, 116, 101, 114, 97, 116, 105, 111, 110]⟩⟩), (.str ⟨⟨[83, 116, 111, 112, 73, 116, 101, 114, 97, 116, 105, 111, 110]⟩⟩ 101), (.type "StopIteration")⟩, ⟨(PyData.keyHash P ⟨⟨[83, 121, 110, 116, 97, 120, 69, 114, 114, 111, 114]⟩⟩), (.str ⟨⟨[83, 121, 110, 116, 97, 120, 69, 114, 114, 111, 114]⟩⟩ 102), (.type "SyntaxError")⟩, ⟨(PyData.keyHash P ⟨⟨[83, 121, 115, 116, 101, 109, 69, 114, 114, 111, 114]⟩⟩), (.str ⟨⟨[83, 121, 115, 116, 101, 109, 69, 114, 114, 111, 114]⟩⟩ 103), (.type "SystemError")⟩, ⟨(PyData.keyHash P ⟨⟨[84, 121, 112, 101, 69, 114, 114, 111, 114]⟩⟩), (.str ⟨⟨[84, 121, 112, 101, 69, 114, 114, 111, 114]⟩⟩ 104), (.type "TypeError")⟩, ⟨(PyData.keyHash P ⟨⟨[86, 97, 108, 117, 101, 69, 114, 114, 111, 114]⟩⟩), (.str ⟨⟨[86, 97, 108, 117, 101, 69, 114, 114, 111, 114]⟩⟩ 105), (.type "ValueError")⟩, ⟨(PyData.keyHash P ⟨⟨[87, 97, 114, 110, 105, 110, 103]⟩⟩), (.str ⟨⟨[87, 97, 114, 110, 105, 110, 103]⟩⟩ 106), (.type "Warning")⟩, ⟨(PyData.keyHash P ⟨⟨[70, 108, 111, 97, 116, 105, 110, 103, 80, 111, 105, 110, 116, 69, 114, 114, 111, 114]⟩⟩), (.str ⟨⟨[70, 108, 111, 97, 116, 105, 110, 103, 80, 111, 105, 110, 116, 69, 114, 114, 111, 114]⟩⟩ 107), (.type "FloatingPointError")⟩, ⟨(PyData.keyHash P ⟨⟨[79, 118, 101, 114, 102, 108, 111, 119, 69, 114, 114, 111, 114]⟩⟩), (.str ⟨⟨[79, 118, 101, 114, 102, 108, 111, 119, 69, 114, 114, 111, 114]⟩⟩ 108), (.type "OverflowError")⟩, ⟨(PyData.keyHash P ⟨⟨[90, 101, 114, 111, 68, 105, 118, 105, 115, 105, 111, 110, 69, 114, 114, 111, 114]⟩⟩), (.str ⟨⟨[90, 101, 114, 111, 68, 105, 118, 105, 115, 105, 111, 110, 69, 114, 114, 111, 114]⟩⟩ 109), (.type "ZeroDivisionError")⟩, ⟨(PyData.keyHash P ⟨⟨[66, 121, 116, 101, 115, 87, 97, 114, 110, 105, 110, 103]⟩⟩), (.str ⟨⟨[66, 121, 116, 101, 115, 87, 97, 114, 110, 105, 110, 103]⟩⟩ 110), (.type "BytesWarning")⟩, ⟨(PyData.keyHash P ⟨⟨[68, 101, 112, 114, 101, 99, 97, 116, 105, 111, 110, 87, 97, 114, 110, 105, 110, 103]⟩⟩), (.str ⟨⟨[68, 101, 112, 114, 101, 99, 97, 116, 105, 111, 110, 87, 97, 114, 110, 105, 110, 103]⟩⟩ 111), (.type "DeprecationWarning")⟩, ⟨(PyData.keyHash P ⟨⟨[69, 110, 99, 111, 100, 105, 110, 103, 87, 97, 114, 110, 105, 110, 103]⟩⟩), (.str ⟨⟨[69, 110, 99, 111, 100, 105, 110, 103, 87, 97, 114, 110, 105, 110, 103]⟩⟩ 112), (.type "EncodingWarning")⟩, ⟨(PyData.keyHash P ⟨⟨[70, 117, 116, 117, 114, 101, 87, 97, 114, 110, 105, 110, 103]⟩⟩), (.str ⟨⟨[70, 117, 116, 117, 114, 101, 87, 97, 114, 110, 105, 110, 103]⟩⟩ 113), (.type "FutureWarning")⟩, ⟨(PyData.keyHash P ⟨⟨[73, 109, 112, 111, 114, 116, 87, 97, 114, 110, 105, 110, 103]⟩⟩), (.str ⟨⟨[73, 109, 112, 111, 114, 116, 87, 97, 114, 110, 105, 110, 103]⟩⟩ 114), (.type "ImportWarning")⟩, ⟨(PyData.keyHash P ⟨⟨[80, 101, 110, 100, 105, 110, 103, 68, 101, 112, 114, 101, 99, 97, 116, 105, 111, 110, 87, 97, 114, 110, 105, 110, 103]⟩⟩), (.str ⟨⟨[80, 101, 110, 100, 105, 110, 103, 68, 101, 112, 114, 101, 99, 97, 116, 105, 111, 110, 87, 97, 114, 110, 105, 110, 103]⟩⟩ 115), (.type "PendingDeprecationWarning")⟩, ⟨(PyData.keyHash P ⟨⟨[82, 101, 115, 111, 117, 114, 99, 101, 87, 97, 114, 110, 105, 110, 103]⟩⟩), (.str ⟨⟨[82, 101, 115, 111, 117, 114, 99, 101, 87, 97, 114, 110, 105, 110, 103]⟩⟩ 116), (.type "ResourceWarning")⟩, ⟨(PyData.keyHash P ⟨⟨[82, 117, 110, 116, 105, 109, 101, 87, 97, 114, 110, 105, 110, 103]⟩⟩), (.str ⟨⟨[82, 117, 110, 116, 105, 109, 101, 87, 97, 114, 110, 105, 110, 103]⟩⟩ 117), (.type "RuntimeWarning")⟩, ⟨(PyData.keyHash P ⟨⟨[83, 121, 110, 116, 97, 120, 87, 97, 114, 110, 105, 110, 103]⟩⟩), (.str ⟨⟨[83, 121, 110, 116, 97, 120, 87, 97, 114, 110, 105, 110, 103]⟩⟩ 118), (.type "SyntaxWarning")⟩, ⟨(PyData.keyHash P ⟨⟨[85, 110, 105, 99, 111, 100, 101, 87, 97, 114, 110, 105, 110, 103]⟩⟩), (.str ⟨⟨[85, 110, 105, 99, 111, 100, 101, 87, 97, 114, 110, 105, 110, 103]⟩⟩ 119), (.type "UnicodeWarning")⟩, ⟨(PyData.keyHash P ⟨⟨[85, 115, 101, 114, 87, 97, 114, 110, 105, 110, 103]⟩⟩), (.str ⟨⟨[85, 115, 101, 114, 87, 97, 114, 110, 105, 110, 103]⟩⟩ 120), (.type "UserWarning")⟩, ⟨(PyData.keyHash P ⟨⟨[66, 108, 111, 99, 107, 105, 110, 103, 73, 79, 69, 114, 114, 111, 114]⟩⟩), (.str ⟨⟨[66, 108, 111, 99, 107, 105, 110, 103, 73, 79, 69, 114, 114, 111, 114]⟩⟩ 121), (.type "BlockingIOError")⟩, ⟨(PyData.keyHash P ⟨⟨[67, 104, 105, 108, 100, 80, 114, 111, 99, 101, 115, 115, 69, 114, 114, 111, 114]⟩⟩), (.str ⟨⟨[67, 104, 105, 108, 100, 80, 114, 111, 99, 101, 115, 115, 69, 114, 114, 111, 114]⟩⟩ 122), (.type "ChildProcessError")⟩, ⟨(PyData.keyHash P ⟨⟨[67, 111, 110, 110, 101, 99, 116, 105, 111, 110, 69, 114, 114, 111, 114]⟩⟩), (.str ⟨⟨[67, 111, 110, 110, 101, 99, 116, 105, 111, 110, 69, 114, 114, 111, 114]⟩⟩ 123), (.type "ConnectionError")⟩, ⟨(PyData.keyHash P ⟨⟨[70, 105, 108, 101, 69, 120, 105, 115, 116, 115, 69, 114, 114, 111, 114]⟩⟩), (.str ⟨⟨[70, 105, 108, 101, 69, 120, 105, 115, 116, 115, 69, 114, 114, 111, 114]⟩⟩ 124), (.type "FileExistsError")⟩, ⟨(PyData.keyHash P ⟨⟨[70, 105, 108, 101, 78, 111, 116, 70, 111, 117, 110, 100, 69, 114, 114, 111, 114]⟩⟩), (.str ⟨⟨[70, 105, 108, 101, 78, 111, 116, 70, 111, 117, 110, 100, 69, 114, 114, 111, 114]⟩⟩ 125), (.type "FileNotFoundError")⟩, ⟨(PyData.keyHash P ⟨⟨[73, 110, 116, 101, 114, 114, 117, 112, 116, 101, 100, 69, 114, 114, 111, 114]⟩⟩), (.str ⟨⟨[73, 110, 116, 101, 114, 114, 117, 112, 116, 101, 100, 69, 114, 114, 111, 114]⟩⟩ 126), (.type "InterruptedError")⟩, ⟨(PyData.keyHash P ⟨⟨[73, 115, 65, 68, 105, 114, 101, 99, 116, 111, 114, 121, 69, 114, 114, 111, 114]⟩⟩), (.str ⟨⟨[73, 115, 65, 68, 105, 114, 101, 99, 116, 111, 114, 121, 69, 114, 114, 111, 114]⟩⟩ 127), (.type "IsADirectoryError")⟩, ⟨(PyData.keyHash P ⟨⟨[78, 111, 116, 65, 68, 105, 114, 101, 99, 116, 111, 114, 121, 69, 114, 114, 111, 114]⟩⟩), (.str ⟨⟨[78, 111, 116, 65, 68, 105, 114, 101, 99, 116, 111, 114, 121, 69, 114, 114, 111, 114]⟩⟩ 128), (.type "NotADirectoryError")⟩, ⟨(PyData.keyHash P ⟨⟨[80, 101, 114, 109, 105, 115, 115, 105, 111, 110, 69, 114, 114, 111, 114]⟩⟩), (.str ⟨⟨[80, 101, 114, 109, 105, 115, 115, 105, 111, 110, 69, 114, 114, 111, 114]⟩⟩ 129), (.type "PermissionError")⟩, ⟨(PyData.keyHash P ⟨⟨[80, 114, 111, 99, 101, 115, 115, 76, 111, 111, 107, 117, 112, 69, 114, 114, 111, 114]⟩⟩), (.str ⟨⟨[80, 114, 111, 99, 101, 115, 115, 76, 111, 111, 107, 117, 112, 69, 114, 114, 111, 114]⟩⟩ 130), (.type "ProcessLookupError")⟩, ⟨(PyData.keyHash P ⟨⟨[84, 105, 109, 101, 111, 117, 116, 69, 114, 114, 111, 114]⟩⟩), (.str ⟨⟨[84, 105, 109, 101, 111, 117, 116, 69, 114, 114, 111, 114]⟩⟩ 131), (.type "TimeoutError")⟩, ⟨(PyData.keyHash P ⟨⟨[73, 110, 100, 101, 110, 116, 97, 116, 105, 111, 110, 69, 114, 114, 111, 114]⟩⟩), (.str ⟨⟨[73, 110, 100, 101, 110, 116, 97, 116, 105, 111, 110, 69, 114, 114, 111, 114]⟩⟩ 132), (.type "IndentationError")⟩, ⟨(PyData.keyHash P ⟨⟨[95, 73, 110, 99, 111, 109, 112, 108, 101, 116, 101, 73, 110, 112, 117, 116, 69, 114, 114, 111, 114]⟩⟩), (.str ⟨⟨[95, 73, 110, 99, 111, 109, 112, 108, 101, 116, 101, 73, 110, 112, 117, 116, 69, 114, 114, 111, 114]⟩⟩ 133), (.type "_IncompleteInputError")⟩, ⟨(PyData.keyHash P ⟨⟨[73, 110, 100, 101, 120, 69, 114, 114, 111, 114]⟩⟩), (.str ⟨⟨[73, 110, 100, 101, 120, 69, 114, 114, 111, 114]⟩⟩ 134), (.type "IndexError")⟩, ⟨(PyData.keyHash P ⟨⟨[75, 101, 121, 69, 114, 114, 111, 114]⟩⟩), (.str ⟨⟨[75, 101, 121, 69, 114, 114, 111, 114]⟩⟩ 135), (.type "KeyError")⟩, ⟨(PyData.keyHash P ⟨⟨[77, 111, 100, 117, 108, 101, 78, 111, 116, 70, 111, 117, 110, 100, 69, 114, 114, 111, 114]⟩⟩), (.str ⟨⟨[77, 111, 100, 117, 108, 101, 78, 111, 116, 70, 111, 117, 110, 100, 69, 114, 114, 111, 114]⟩⟩ 136), (.type "ModuleNotFoundError")⟩, ⟨(PyData.keyHash P ⟨⟨[78, 111, 116, 73, 109, 112, 108, 101, 109, 101, 110, 116, 101, 100, 69, 114, 114, 111, 114]⟩⟩), (.str ⟨⟨[78, 111, 116, 73, 109, 112, 108, 101, 109, 101, 110, 116, 101, 100, 69, 114, 114, 111, 114]⟩⟩ 137), (.type "NotImplementedError")⟩, ⟨(PyData.keyHash P ⟨⟨[80, 121, 116, 104, 111, 110, 70, 105, 110, 97, 108, 105, 122, 97, 116, 105, 111, 110, 69, 114, 114, 111, 114]⟩⟩), (.str ⟨⟨[80, 121, 116, 104, 111, 110, 70, 105, 110, 97, 108, 105, 122, 97, 116, 105, 111, 110, 69, 114, 114, 111, 114]⟩⟩ 138), (.type "PythonFinalizationError")⟩, ⟨(PyData.keyHash P ⟨⟨[82, 101, 99, 117, 114, 115, 105, 111, 110, 69, 114, 114, 111, 114]⟩⟩), (.str ⟨⟨[82, 101, 99, 117, 114, 115, 105, 111, 110, 69, 114, 114, 111, 114]⟩⟩ 139), (.type "RecursionError")⟩, ⟨(PyData.keyHash P ⟨⟨[85, 110, 98, 111, 117, 110, 100, 76, 111, 99, 97, 108, 69, 114, 114, 111, 114]⟩⟩), (.str ⟨⟨[85, 110, 98, 111, 117, 110, 100, 76, 111, 99, 97, 108, 69, 114, 114, 111, 114]⟩⟩ 140), (.type "UnboundLocalError")⟩, ⟨(PyData.keyHash P ⟨⟨[85, 110, 105, 99, 111, 100, 101, 69, 114, 114, 111, 114]⟩⟩), (.str ⟨⟨[85, 110, 105, 99, 111, 100, 101, 69, 114, 114, 111, 114]⟩⟩ 141), (.type "UnicodeError")⟩, ⟨(PyData.keyHash P ⟨⟨[66, 114, 111, 107, 101, 110, 80, 105, 112, 101, 69, 114, 114, 111, 114]⟩⟩), (.str ⟨⟨[66, 114, 111, 107, 101, 110, 80, 105, 112, 101, 69, 114, 114, 111, 114]⟩⟩ 142), (.type "BrokenPipeError")⟩, ⟨(PyData.keyHash P ⟨⟨[67, 111, 110, 110, 101, 99, 116, 105, 111, 110, 65, 98, 111, 114, 116, 101, 100, 69, 114, 114, 111, 114]⟩⟩), (.str ⟨⟨[67, 111, 110, 110, 101, 99, 116, 105, 111, 110, 65, 98, 111, 114, 116, 101, 100, 69, 114, 114, 111, 114]⟩⟩ 143), (.type "ConnectionAbortedError")⟩, ⟨(PyData.keyHash P ⟨⟨[67, 111, 110, 110, 101, 99, 116, 105, 111, 110, 82, 101, 102, 117, 115, 101, 100, 69, 114, 114, 111, 114]⟩⟩), (.str ⟨⟨[67, 111, 110, 110, 101, 99, 116, 105, 111, 110, 82, 101, 102, 117, 115, 101, 100, 69, 114, 114, 111, 114]⟩⟩ 144), (.type "ConnectionRefusedError")⟩, ⟨(PyData.keyHash P ⟨⟨[67, 111, 110, 110, 101, 99, 116, 105, 111, 110, 82, 101, 115, 101, 116, 69, 114, 114, 111, 114]⟩⟩), (.str ⟨⟨[67, 111, 110, 110, 101, 99, 116, 105, 111, 110, 82, 101, 115, 101, 116, 69, 114, 114, 111, 114]⟩⟩ 145), (.type "ConnectionResetError")⟩, ⟨(PyData.keyHash P ⟨⟨[84, 97, 98, 69, 114, 114, 111, 114]⟩⟩), (.str ⟨⟨[84, 97, 98, 69, 114, 114, 111, 114]⟩⟩ 146), (.type "TabError")⟩, ⟨(PyData.keyHash P ⟨⟨[85, 110, 105, 99, 111, 100, 101, 68, 101, 99, 111, 100, 101, 69, 114, 114, 111, 114]⟩⟩), (.str ⟨⟨[85, 110, 105, 99, 111, 100, 101, 68, 101, 99, 111, 100, 101, 69, 114, 114, 111, 114]⟩⟩ 147), (.type "UnicodeDecodeError")⟩, ⟨(PyData.keyHash P ⟨⟨[85, 110, 105, 99, 111, 100, 101, 69, 110, 99, 111, 100, 101, 69, 114, 114, 111, 114]⟩⟩), (.str ⟨⟨[85, 110, 105, 99, 111, 100, 101, 69, 110, 99, 111, 100, 101, 69, 114, 114, 111, 114]⟩⟩ 148), (.type "UnicodeEncodeError")⟩, ⟨(PyData.keyHash P ⟨⟨[85, 110, 105, 99, 111, 100, 101, 84, 114, 97, 110, 115, 108, 97, 116, 101, 69, 114, 114, 111, 114]⟩⟩), (.str ⟨⟨[85, 110, 105, 99, 111, 100, 101, 84, 114, 97, 110, 115, 108, 97, 116, 101, 69, 114, 114, 111, 114]⟩⟩ 149), (.type "UnicodeTranslateError")⟩, ⟨(PyData.keyHash P ⟨⟨[69, 120, 99, 101, 112, 116, 105, 111, 110, 71, 114, 111, 117, 112]⟩⟩), (.str ⟨⟨[69, 120, 99, 101, 112, 116, 105, 111, 110, 71, 114, 111, 117, 112]⟩⟩ 150), (.type "ExceptionGroup")⟩, ⟨(PyData.keyHash P ⟨⟨[69, 110, 118, 105, 114, 111, 110, 109, 101, 110, 116, 69, 114, 114, 111, 114]⟩⟩), (.str ⟨⟨[69, 110, 118, 105, 114, 111, 110, 109, 101, 110, 116, 69, 114, 114, 111, 114]⟩⟩ 151), (.type "OSError")⟩, ⟨(PyData.keyHash P ⟨⟨[73, 79, 69, 114, 114, 111, 114]⟩⟩), (.str ⟨⟨[73, 79, 69, 114, 114, 111, 114]⟩⟩ 152), (.type "OSError")⟩, ⟨(PyData.keyHash P ⟨⟨[111, 112, 101, 110]⟩⟩), (.str ⟨⟨[111, 112, 101, 110]⟩⟩ 153), (.builtin "open")⟩, ⟨(PyData.keyHash P ⟨⟨[113, 117, 105, 116]⟩⟩), (.str ⟨⟨[113, 117, 105, 116]⟩⟩ 154), (.builtin "builtins.quit#opaque")⟩, ⟨(PyData.keyHash P ⟨⟨[101, 120, 105, 116]⟩⟩), (.str ⟨⟨[101, 120, 105, 116]⟩⟩ 155), (.builtin "builtins.exit#opaque")⟩, ⟨(PyData.keyHash P ⟨⟨[99, 111, 112, 121, 114, 105, 103, 104, 116]⟩⟩), (.str ⟨⟨[99, 111, 112, 121, 114, 105, 103, 104, 116]⟩⟩ 156), (.builtin "builtins.copyright#opaque")⟩, ⟨(PyData.keyHash P ⟨⟨[99, 114, 101, 100, 105, 116, 115]⟩⟩), (.str ⟨⟨[99, 114, 101, 100, 105, 116, 115]⟩⟩ 157), (.builtin "builtins.credits#opaque")⟩, ⟨(PyData.keyHash P ⟨⟨[108, 105, 99, 101, 110, 115, 101]⟩⟩), (.str ⟨⟨[108, 105, 99, 101, 110, 115, 101]⟩⟩ 158), (.builtin "builtins.license#opaque")⟩, ⟨(PyData.keyHash P ⟨⟨[104, 101, 108, 112]⟩⟩), (.str ⟨⟨[104, 101, 108, 112]⟩⟩ 159), (.builtin "builtins.help#opaque")⟩]
noncomputable def o0 (P : Params) : Obj := ⟨(.type "dict"), none, (.dict ⟨dl0 P⟩ 159), ⟨[]⟩⟩
noncomputable def o1 (P : Params) : Obj := ⟨(.type "dict"), none, (.dict ⟨[⟨(PyData.keyHash P ⟨⟨[98, 117, 105, 108, 116, 105, 110, 115]⟩⟩), (.str ⟨⟨[98, 117, 105, 108, 116, 105, 110, 115]⟩⟩ 162), (.ref 4)⟩, ⟨(PyData.keyHash P ⟨⟨[95, 95, 109, 97, 105, 110, 95, 95]⟩⟩), (.str ⟨⟨[95, 95, 109, 97, 105, 110, 95, 95]⟩⟩ 163), (.ref 5)⟩, ⟨(PyData.keyHash P ⟨⟨[95, 115, 114, 101]⟩⟩), (.str ⟨⟨[95, 115, 114, 101]⟩⟩ 244), (.ref 12)⟩]⟩ 3), ⟨[]⟩⟩
noncomputable def dl1 (P : Params) : List DictEntry := [⟨(PyData.keyHash P ⟨⟨[105, 109, 112, 111, 114, 116, 46, 108, 111, 97, 100, 101, 100, 46, 95, 115, 114, 101]⟩⟩), (.str ⟨⟨[105, 109, 112, 111, 114, 116, 46, 108, 111, 97, 100, 101, 100, 46, 95, 115, 114, 101]⟩⟩ 183), (.bool true)⟩, ⟨(PyData.keyHash P ⟨⟨[99, 108, 97, 115, 115, 46, 95, 102, 114, 111, 122, 101, 110, 95, 105, 109, 112, 111, 114, 116, 108, 105, 98, 46, 66, 117, 105, 108, 116, 105, 110, 73, 109, 112, 111, 114, 116, 101, 114]⟩⟩), (.str ⟨⟨[99, 108, 97, 115, 115, 46, 95, 102, 114, 111, 122, 101, 110, 95, 105, 109, 112, 111, 114, 116, 108, 105, 98, 46, 66, 117, 105, 108, 116, 105, 110, 73, 109, 112, 111, 114, 116, 101, 114]⟩⟩ 185), (.ref 14)⟩, ⟨(PyData.keyHash P ⟨⟨[119, 97, 116, 99, 104, 101, 100, 46, 105, 109, 112, 111, 114, 116]⟩⟩), (.str ⟨⟨[119, 97, 116, 99, 104, 101, 100, 46, 105, 109, 112, 111, 114, 116]⟩⟩ 206), (.ref 18)⟩, ⟨(PyData.keyHash P ⟨⟨[99, 108, 97, 115, 115, 46, 95, 102, 114, 111, 122, 101, 110, 95, 105, 109, 112, 111, 114, 116, 108, 105, 98, 46, 77, 111, 100, 117, 108, 101, 83, 112, 101, 99]⟩⟩), (.str ⟨⟨[99, 108, 97, 115, 115, 46, 95, 102, 114, 111, 122, 101, 110, 95, 105, 109, 112, 111, 114, 116, 108, 105, 98, 46, 77, 111, 100, 117, 108, 101, 83, 112, 101, 99]⟩⟩ 216), (.ref 22)⟩, ⟨(PyData.keyHash P ⟨⟨[115, 121, 115, 46, 109, 111, 100, 117, 108, 101, 115, 46, 98, 111, 111, 107, 101, 100, 45, 101, 112, 111, 99, 104]⟩⟩), (.str ⟨⟨[115, 121, 115, 46, 109, 111, 100, 117, 108, 101, 115, 46, 98, 111, 111, 107, 101, 100, 45, 101, 112, 111, 99, 104]⟩⟩ 245), (.int 3 0)⟩, ⟨(PyData.keyHash P ⟨⟨[105, 109, 112, 111, 114, 116, 46, 108, 97, 116, 101, 114, 45, 108, 97, 105, 100, 46, 95, 115, 114, 101]⟩⟩), (.str ⟨⟨[105, 109, 112, 111, 114, 116, 46, 108, 97, 116, 101, 114, 45, 108, 97, 105, 100, 46, 95, 115, 114, 101]⟩⟩ 270), (.bool true)⟩, ⟨(PyData.keyHash P ⟨⟨[119, 97, 116, 99, 104, 101, 100, 46, 108, 105, 98, 114, 97, 114, 121]⟩⟩), (.str ⟨⟨[119, 97, 116, 99, 104, 101, 100, 46, 108, 105, 98, 114, 97, 114, 121]⟩⟩ 272), (.ref 27)⟩, ⟨(PyData.keyHash P ⟨⟨[119, 97, 116, 99, 104, 101, 100, 46, 108, 105, 98, 114, 97, 114, 121, 45, 111, 98, 106, 101, 99, 116, 115]⟩⟩), (.str ⟨⟨[119, 97, 116, 99, 104, 101, 100, 46, 108, 105, 98, 114, 97, 114, 121, 45, 111, 98, 106, 101, 99, 116, 115]⟩⟩ 0), (.str ⟨⟨[12]⟩⟩ 0)⟩, ⟨(PyData.keyHash P ⟨⟨[119, 97, 116, 99, 104, 101, 100, 46, 108, 105, 98, 114, 97, 114, 121, 45, 100, 101, 101, 112, 46, 95, 115, 114, 101]⟩⟩), (.str ⟨⟨[119, 97, 116, 99, 104, 101, 100, 46, 108, 105, 98, 114, 97, 114, 121, 45, 100, 101, 101, 112, 46, 95, 115, 114, 101]⟩⟩ 273), (.str ⟨⟨[4, 0, 0, 11, 4, 0, 0, 11, 4, 0, 0, 3, 4, 0, 0, 11, 8, 4, 100, 105, 99, 116, 2]⟩⟩ 0)⟩]
noncomputable def o2 (P : Params) : Obj := ⟨.none, none, (.dict ⟨dl1 P⟩ 9), ⟨[]⟩⟩
noncomputable def dl2 (P : Params) : List DictEntry := [⟨(PyData.keyHash P ⟨⟨[95, 95, 110, 97, 109, 101, 95, 95]⟩⟩), (.str ⟨⟨[95, 95, 110, 97, 109, 101, 95, 95]⟩⟩ 165), (.str ⟨⟨[95, 95, 109, 97, 105, 110, 95, 95]⟩⟩ 164)⟩, ⟨(PyData.keyHash P ⟨⟨[95, 95, 100, 111, 99, 95, 95]⟩⟩), (.str ⟨⟨[95, 95, 100, 111, 99, 95, 95]⟩⟩ 166), .none⟩, ⟨(PyData.keyHash P ⟨⟨[95, 95, 112, 97, 99, 107, 97, 103, 101, 95, 95]⟩⟩), (.str ⟨⟨[95, 95, 112, 97, 99, 107, 97, 103, 101, 95, 95]⟩⟩ 167), .none⟩, ⟨(PyData.keyHash P ⟨⟨[95, 95, 108, 111, 97, 100, 101, 114, 95, 95]⟩⟩), (.str ⟨⟨[95, 95, 108, 111, 97, 100, 101, 114, 95, 95]⟩⟩ 168), (.builtin "__main__.__loader__#opaque")⟩, ⟨(PyData.keyHash P ⟨⟨[95, 95, 115, 112, 101, 99, 95, 95]⟩⟩), (.str ⟨⟨[95, 95, 115, 112, 101, 99, 95, 95]⟩⟩ 169), .none⟩, ⟨(PyData.keyHash P ⟨⟨[95, 95, 97, 110, 110, 111, 116, 97, 116, 105, 111, 110, 115, 95, 95]⟩⟩), (.str ⟨⟨[95, 95, 97, 110, 110, 111, 116, 97, 116, 105, 111, 110, 115, 95, 95]⟩⟩ 170), (.ref 6)⟩, ⟨(PyData.keyHash P ⟨⟨[95, 95, 98, 117, 105, 108, 116, 105, 110, 115, 95, 95]⟩⟩), (.str ⟨⟨[95, 95, 98, 117, 105, 108, 116, 105, 110, 115, 95, 95]⟩⟩ 171), (.ref 4)⟩, ⟨(PyData.keyHash P ⟨⟨[95, 95, 102, 105, 108, 101, 95, 95]⟩⟩), (.str ⟨⟨[95, 95, 102, 105, 108, 101, 95, 95]⟩⟩ 173), (.str ⟨⟨[47, 99, 108, 97, 105, 109, 47, 99, 117, 116, 46, 112, 121]⟩⟩ 172)⟩, ⟨(PyData.keyHash P ⟨⟨[95, 95, 99, 97, 99, 104, 101, 100, 95, 95]⟩⟩), (.str ⟨⟨[95, 95, 99, 97, 99, 104, 101, 100, 95, 95]⟩⟩ 174), .none⟩, ⟨(PyData.keyHash P ⟨⟨[95, 115, 114, 101]⟩⟩), (.str ⟨⟨[95, 115, 114, 101]⟩⟩ 275), (.ref 12)⟩]
noncomputable def o3 (P : Params) : Obj := ⟨(.type "dict"), none, (.dict ⟨dl2 P⟩ 10), ⟨[]⟩⟩
noncomputable def o4 (P : Params) : Obj := ⟨(.type "module"), (some 0), .plain, ⟨[]⟩⟩
noncomputable def o5 (P : Params) : Obj := ⟨(.type "module"), (some 3), .plain, ⟨[]⟩⟩
noncomputable def o6 (P : Params) : Obj := ⟨(.type "dict"), none, (.dict ⟨[]⟩ 0), ⟨[]⟩⟩
noncomputable def o7 (P : Params) : Obj := ⟨(.type "tuple"), none, (.seq ⟨[]⟩ 0), ⟨[]⟩⟩
noncomputable def o8 (P : Params) : Obj := ⟨.none, none, (.fields ⟨[]⟩), ⟨[]⟩⟩
noncomputable def o9 (P : Params) : Obj := ⟨(.type "code"), none, (.fields ⟨[(.str ⟨⟨[60, 109, 111, 100, 117, 108, 101, 62]⟩⟩ 176), (.str ⟨⟨[60, 109, 111, 100, 117, 108, 101, 62]⟩⟩ 177), (.str ⟨⟨[47, 99, 108, 97, 105, 109, 47, 99, 117, 116, 46, 112, 121]⟩⟩ 178), (.int 1 0), (.int 0 0), (.int 0 0), (.int 0 0), (.int 0 0), (.ref 7), (.bool false), (.int 175 0), (.ref 8), .none, .none, .none, .none, (.int 179 0), (.int 1 0), (.str ⟨⟨[47, 99, 108, 97, 105, 109, 47, 99, 117, 116, 46, 112, 121]⟩⟩ 180)]⟩), ⟨[]⟩⟩
noncomputable def o10 (P : Params) : Obj := ⟨(.type "frame"), none, .plain, ⟨[(some (.ref 9)), (some (.ref 3)), (some (.ref 3)), none, (some (.str ⟨⟨[95, 95, 109, 97, 105, 110, 95, 95]⟩⟩ 164)), none, (some (.ref 0))]⟩⟩
noncomputable def dl3 (P : Params) : List DictEntry := [⟨(PyData.keyHash P ⟨⟨[95, 95, 110, 97, 109, 101, 95, 95]⟩⟩), (.str ⟨⟨[95, 95, 110, 97, 109, 101, 95, 95]⟩⟩ 247), (.str ⟨⟨[95, 115, 114, 101]⟩⟩ 246)⟩, ⟨(PyData.keyHash P ⟨⟨[95, 95, 100, 111, 99, 95, 95]⟩⟩), (.str ⟨⟨[95, 95, 100, 111, 99, 95, 95]⟩⟩ 248), .none⟩, ⟨(PyData.keyHash P ⟨⟨[95, 95, 112, 97, 99, 107, 97, 103, 101, 95, 95]⟩⟩), (.str ⟨⟨[95, 95, 112, 97, 99, 107, 97, 103, 101, 95, 95]⟩⟩ 250), (.str ⟨⟨[]⟩⟩ 249)⟩, ⟨(PyData.keyHash P ⟨⟨[95, 95, 108, 111, 97, 100, 101, 114, 95, 95]⟩⟩), (.str ⟨⟨[95, 95, 108, 111, 97, 100, 101, 114, 95, 95]⟩⟩ 251), (.builtin "off-the-table:_sre.__loader__:shared#opaque")⟩, ⟨(PyData.keyHash P ⟨⟨[95, 95, 115, 112, 101, 99, 95, 95]⟩⟩), (.str ⟨⟨[95, 95, 115, 112, 101, 99, 95, 95]⟩⟩ 252), (.builtin "off-the-table:_sre.__spec__:shared#opaque")⟩, ⟨(PyData.keyHash P ⟨⟨[99, 111, 109, 112, 105, 108, 101]⟩⟩), (.str ⟨⟨[99, 111, 109, 112, 105, 108, 101]⟩⟩ 253), (.builtin "_sre.compile")⟩, ⟨(PyData.keyHash P ⟨⟨[116, 101, 109, 112, 108, 97, 116, 101]⟩⟩), (.str ⟨⟨[116, 101, 109, 112, 108, 97, 116, 101]⟩⟩ 254), (.builtin "off-the-table:_sre.template:shared#opaque")⟩, ⟨(PyData.keyHash P ⟨⟨[103, 101, 116, 99, 111, 100, 101, 115, 105, 122, 101]⟩⟩), (.str ⟨⟨[103, 101, 116, 99, 111, 100, 101, 115, 105, 122, 101]⟩⟩ 255), (.builtin "off-the-table:_sre.getcodesize:shared#opaque")⟩, ⟨(PyData.keyHash P ⟨⟨[97, 115, 99, 105, 105, 95, 105, 115, 99, 97, 115, 101, 100]⟩⟩), (.str ⟨⟨[97, 115, 99, 105, 105, 95, 105, 115, 99, 97, 115, 101, 100]⟩⟩ 256), (.builtin "off-the-table:_sre.ascii_iscased:shared#opaque")⟩, ⟨(PyData.keyHash P ⟨⟨[117, 110, 105, 99, 111, 100, 101, 95, 105, 115, 99, 97, 115, 101, 100]⟩⟩), (.str ⟨⟨[117, 110, 105, 99, 111, 100, 101, 95, 105, 115, 99, 97, 115, 101, 100]⟩⟩ 257), (.builtin "off-the-table:_sre.unicode_iscased:shared#opaque")⟩, ⟨(PyData.keyHash P ⟨⟨[97, 115, 99, 105, 105, 95, 116, 111, 108, 111, 119, 101, 114]⟩⟩), (.str ⟨⟨[97, 115, 99, 105, 105, 95, 116, 111, 108, 111, 119, 101, 114]⟩⟩ 258), (.builtin "off-the-table:_sre.ascii_tolower:shared#opaque")⟩, ⟨(PyData.keyHash P ⟨⟨[117, 110, 105, 99, 111, 100, 101, 95, 116, 111, 108, 111, 119, 101, 114]⟩⟩), (.str ⟨⟨[117, 110, 105, 99, 111, 100, 101, 95, 116, 111, 108, 111, 119, 101, 114]⟩⟩ 259), (.builtin "off-the-table:_sre.unicode_tolower:shared#opaque")⟩, ⟨(PyData.keyHash P ⟨⟨[77, 65, 71, 73, 67]⟩⟩), (.str ⟨⟨[77, 65, 71, 73, 67]⟩⟩ 261), (.int 20230612 260)⟩, ⟨(PyData.keyHash P ⟨⟨[67, 79, 68, 69, 83, 73, 90, 69]⟩⟩), (.str ⟨⟨[67, 79, 68, 69, 83, 73, 90, 69]⟩⟩ 263), (.int 4 262)⟩, ⟨(PyData.keyHash P ⟨⟨[77, 65, 88, 82, 69, 80, 69, 65, 84]⟩⟩), (.str ⟨⟨[77, 65, 88, 82, 69, 80, 69, 65, 84]⟩⟩ 265), (.int 4294967295 264)⟩, ⟨(PyData.keyHash P ⟨⟨[77, 65, 88, 71, 82, 79, 85, 80, 83]⟩⟩), (.str ⟨⟨[77, 65, 88, 71, 82, 79, 85, 80, 83]⟩⟩ 267), (.int 1073741823 266)⟩, ⟨(PyData.keyHash P ⟨⟨[99, 111, 112, 121, 114, 105, 103, 104, 116]⟩⟩), (.str ⟨⟨[99, 111, 112, 121, 114, 105, 103, 104, 116]⟩⟩ 269), (.str ⟨⟨[32, 83, 82, 69, 32, 50, 46, 50, 46, 50, 32, 67, 111, 112, 121, 114, 105, 103, 104, 116, 32, 40, 99, 41, 32, 49, 57, 57, 55, 45, 50, 48, 48, 50, 32, 98, 121, 32, 83, 101, 99, 114, 101, 116, 32, 76, 97, 98, 115, 32, 65, 66, 32]⟩⟩ 268)⟩]
noncomputable def o11 (P : Params) : Obj := ⟨(.type "dict"), none, (.dict ⟨dl3 P⟩ 17), ⟨[]⟩⟩
noncomputable def o12 (P : Params) : Obj := ⟨(.type "module"), (some 11), .plain, ⟨[]⟩⟩
noncomputable def dl4 (P : Params) : List DictEntry := [⟨(PyData.keyHash P ⟨⟨[95, 95, 109, 111, 100, 117, 108, 101, 95, 95]⟩⟩), (.str ⟨⟨[95, 95, 109, 111, 100, 117, 108, 101, 95, 95]⟩⟩ 189), (.str ⟨⟨[95, 102, 114, 111, 122, 101, 110, 95, 105, 109, 112, 111, 114, 116, 108, 105, 98]⟩⟩ 186)⟩, ⟨(PyData.keyHash P ⟨⟨[95, 95, 102, 105, 114, 115, 116, 108, 105, 110, 101, 110, 111, 95, 95]⟩⟩), (.str ⟨⟨[95, 95, 102, 105, 114, 115, 116, 108, 105, 110, 101, 110, 111, 95, 95]⟩⟩ 190), (.int 971 187)⟩, ⟨(PyData.keyHash P ⟨⟨[95, 95, 100, 111, 99, 95, 95]⟩⟩), (.str ⟨⟨[95, 95, 100, 111, 99, 95, 95]⟩⟩ 191), (.builtin "_frozen_importlib.BuiltinImporter.__doc__:str#opaque")⟩, ⟨(PyData.keyHash P ⟨⟨[95, 79, 82, 73, 71, 73, 78]⟩⟩), (.str ⟨⟨[95, 79, 82, 73, 71, 73, 78]⟩⟩ 192), (.str ⟨⟨[98, 117, 105, 108, 116, 45, 105, 110]⟩⟩ 188)⟩, ⟨(PyData.keyHash P ⟨⟨[102, 105, 110, 100, 95, 115, 112, 101, 99]⟩⟩), (.str ⟨⟨[102, 105, 110, 100, 95, 115, 112, 101, 99]⟩⟩ 193), (.builtin "_frozen_importlib.BuiltinImporter.find_spec#opaque")⟩, ⟨(PyData.keyHash P ⟨⟨[99, 114, 101, 97, 116, 101, 95, 109, 111, 100, 117, 108, 101]⟩⟩), (.str ⟨⟨[99, 114, 101, 97, 116, 101, 95, 109, 111, 100, 117, 108, 101]⟩⟩ 194), (.builtin "_frozen_importlib.BuiltinImporter.create_module#opaque")⟩, ⟨(PyData.keyHash P ⟨⟨[101, 120, 101, 99, 95, 109, 111, 100, 117, 108, 101]⟩⟩), (.str ⟨⟨[101, 120, 101, 99, 95, 109, 111, 100, 117, 108, 101]⟩⟩ 195), (.builtin "_frozen_importlib.BuiltinImporter.exec_module#opaque")⟩, ⟨(PyData.keyHash P ⟨⟨[103, 101, 116, 95, 99, 111, 100, 101]⟩⟩), (.str ⟨⟨[103, 101, 116, 95, 99, 111, 100, 101]⟩⟩ 196), (.builtin "_frozen_importlib.BuiltinImporter.get_code#opaque")⟩, ⟨(PyData.keyHash P ⟨⟨[103, 101, 116, 95, 115, 111, 117, 114, 99, 101]⟩⟩), (.str ⟨⟨[103, 101, 116, 95, 115, 111, 117, 114, 99, 101]⟩⟩ 197), (.builtin "_frozen_importlib.BuiltinImporter.get_source#opaque")⟩, ⟨(PyData.keyHash P ⟨⟨[105, 115, 95, 112, 97, 99, 107, 97, 103, 101]⟩⟩), (.str ⟨⟨[105, 115, 95, 112, 97, 99, 107, 97, 103, 101]⟩⟩ 198), (.builtin "_frozen_importlib.BuiltinImporter.is_package#opaque")⟩, ⟨(PyData.keyHash P ⟨⟨[108, 111, 97, 100, 95, 109, 111, 100, 117, 108, 101]⟩⟩), (.str ⟨⟨[108, 111, 97, 100, 95, 109, 111, 100, 117, 108, 101]⟩⟩ 199), (.builtin "_frozen_importlib.BuiltinImporter.load_module#opaque")⟩, ⟨(PyData.keyHash P ⟨⟨[95, 95, 115, 116, 97, 116, 105, 99, 95, 97, 116, 116, 114, 105, 98, 117, 116, 101, 115, 95, 95]⟩⟩), (.str ⟨⟨[95, 95, 115, 116, 97, 116, 105, 99, 95, 97, 116, 116, 114, 105, 98, 117, 116, 101, 115, 95, 95]⟩⟩ 200), (.ref 15)⟩, ⟨(PyData.keyHash P ⟨⟨[95, 95, 100, 105, 99, 116, 95, 95]⟩⟩), (.str ⟨⟨[95, 95, 100, 105, 99, 116, 95, 95]⟩⟩ 202), (.ref 16)⟩, ⟨(PyData.keyHash P ⟨⟨[95, 95, 119, 101, 97, 107, 114, 101, 102, 95, 95]⟩⟩), (.str ⟨⟨[95, 95, 119, 101, 97, 107, 114, 101, 102, 95, 95]⟩⟩ 204), (.ref 17)⟩]
noncomputable def o13 (P : Params) : Obj := ⟨(.type "dict"), none, (.dict ⟨dl4 P⟩ 14), ⟨[]⟩⟩
noncomputable def o14 (P : Params) : Obj := ⟨(.type "type"), none, (.cls ⟨⟨⟨[66, 117, 105, 108, 116, 105, 110, 73, 109, 112, 111, 114, 116, 101, 114]⟩⟩, [(.type "object")], [(.ref 14), (.type "object")], 13, ⟨⟨[66, 117, 105, 108, 116, 105, 110, 73, 109, 112, 111, 114, 116, 101, 114]⟩⟩, true, [], [], false, none, false⟩), ⟨[]⟩⟩
noncomputable def o15 (P : Params) : Obj := ⟨(.type "getset_descriptor"), none, (.fields ⟨[(.str ⟨⟨[95, 95, 100, 105, 99, 116, 95, 95]⟩⟩ 201), (.ref 14), (.builtin "function.__dict__"), (.builtin "function.__dict__#set")]⟩), ⟨[]⟩⟩
noncomputable def o16 (P : Params) : Obj := ⟨(.type "getset_descriptor"), none, (.fields ⟨[(.str ⟨⟨[95, 95, 119, 101, 97, 107, 114, 101, 102, 95, 95]⟩⟩ 203), (.ref 14), (.builtin "ExceptionGroup.__weakref__"), .none]⟩), ⟨[]⟩⟩
noncomputable def o17 (P : Params) : Obj := ⟨.none, none, (.seq ⟨[(.int 13 0), (.str ⟨⟨[6, 189, 10, 95, 95, 109, 111, 100, 117, 108, 101, 95, 95, 6, 186, 17, 95, 102, 114, 111, 122, 101, 110, 95, 105, 109, 112, 111, 114, 116, 108, 105, 98, 6, 190, 15, 95, 95, 102, 105, 114, 115, 116, 108, 105, 110, 101, 110, 111, 95, 95, 4, 187, 0, 971, 6, 191, 7, 95, 95, 100, 111, 99, 95, 95, 9, 52, 95, 102, 114, 111, 122, 101, 110, 95, 105, 109, 112, 111, 114, 116, 108, 105, 98, 46, 66, 117, 105, 108, 116, 105, 110, 73, 109, 112, 111, 114, 116, 101, 114, 46, 95, 95, 100, 111, 99, 95, 95, 58, 115, 116, 114, 35, 111, 112, 97, 113, 117, 101, 6, 192, 7, 95, 79, 82, 73, 71, 73, 78, 6, 188, 8, 98, 117, 105, 108, 116, 45, 105, 110, 6, 193, 9, 102, 105, 110, 100, 95, 115, 112, 101, 99, 9, 50, 95, 102, 114, 111, 122, 101, 110, 95, 105, 109, 112, 111, 114, 116, 108, 105, 98, 46, 66, 117, 105, 108, 116, 105, 110, 73, 109, 112, 111, 114, 116, 101, 114, 46, 102, 105, 110, 100, 95, 115, 112, 101, 99, 35, 111, 112, 97, 113, 117, 101, 6, 194, 13, 99, 114, 101, 97, 116, 101, 95, 109, 111, 100, 117, 108, 101, 9, 54, 95, 102, 114, 111, 122, 101, 110, 95, 105, 109, 112, 111, 114, 116, 108, 105, 98, 46, 66, 117, 105, 108, 116, 105, 110, 73, 109, 112, 111, 114, 116, 101, 114, 46, 99, 114, 101, 97, 116, 101, 95, 109, 111, 100, 117, 108, 101, 35, 111, 112, 97, 113, 117, 101, 6, 195, 11, 101, 120, 101, 99, 95, 109, 111, 100, 117, 108, 101, 9, 52, 95, 102, 114, 111, 122, 101, 110, 95, 105, 109, 112, 111, 114, 116, 108, 105, 98, 46, 66, 117, 105, 108, 116, 105, 110, 73, 109, 112, 111, 114, 116, 101, 114, 46, 101, 120, 101, 99, 95, 109, 111, 100, 117, 108, 101, 35, 111, 112, 97, 113, 117, 101, 6, 196, 8, 103, 101, 116, 95, 99, 111, 100, 101, 9, 49, 95, 102, 114, 111, 122, 101, 110, 95, 105, 109, 112, 111, 114, 116, 108, 105, 98, 46, 66, 117, 105, 108, 116, 105, 110, 73, 109, 112, 111, 114, 116, 101, 114, 46, 103, 101, 116, 95, 99, 111, 100, 101, 35, 111, 112, 97, 113, 117, 101, 6, 197, 10, 103, 101, 116, 95, 115, 111, 117, 114, 99, 101, 9, 51, 95, 102, 114, 111, 122, 101, 110, 95, 105, 109, 112, 111, 114, 116, 108, 105, 98, 46, 66, 117, 105, 108, 116, 105, 110, 73, 109, 112, 111, 114, 116, 101, 114, 46, 103, 101, 116, 95, 115, 111, 117, 114, 99, 101, 35, 111, 112, 97, 113, 117, 101, 6, 198, 10, 105, 115, 95, 112, 97, 99, 107, 97, 103, 101, 9, 51, 95, 102, 114, 111, 122, 101, 110, 95, 105, 109, 112, 111, 114, 116, 108, 105, 98, 46, 66, 117, 105, 108, 116, 105, 110, 73, 109, 112, 111, 114, 116, 101, 114, 46, 105, 115, 95, 112, 97, 99, 107, 97, 103, 101, 35, 111, 112, 97, 113, 117, 101, 6, 199, 11, 108, 111, 97, 100, 95, 109, 111, 100, 117, 108, 101, 9, 52, 95, 102, 114, 111, 122, 101, 110, 95, 105, 109, 112, 111, 114, 116, 108, 105, 98, 46, 66, 117, 105, 108, 116, 105, 110, 73, 109, 112, 111, 114, 116, 101, 114, 46, 108, 111, 97, 100, 95, 109, 111, 100, 117, 108, 101, 35, 111, 112, 97, 113, 117, 101, 6, 200, 21, 95, 95, 115, 116, 97, 116, 105, 99, 95, 97, 116, 116, 114, 105, 98, 117, 116, 101, 115, 95, 95, 4, 0, 0, 15, 6, 202, 8, 95, 95, 100, 105, 99, 116, 95, 95, 4, 0, 0, 16, 6, 204, 11, 95, 95, 119, 101, 97, 107, 114, 101, 102, 95, 95, 4, 0, 0, 17]⟩⟩ 0), (.bool true), (.bool true), (.str ⟨⟨[]⟩⟩ 205), (.int 21 0), (.str ⟨⟨[6, 227, 10, 95, 95, 109, 111, 100, 117, 108, 101, 95, 95, 6, 217, 17, 95, 102, 114, 111, 122, 101, 110, 95, 105, 109, 112, 111, 114, 116, 108, 105, 98, 6, 228, 15, 95, 95, 102, 105, 114, 115, 116, 108, 105, 110, 101, 110, 111, 95, 95, 4, 218, 0, 562, 6, 229, 7, 95, 95, 100, 111, 99, 95, 95, 9, 47, 95, 102, 114, 111, 122, 101, 110, 95, 105, 109, 112, 111, 114, 116, 108, 105, 98, 46, 77, 111, 100, 117, 108, 101, 83, 112, 101, 99, 46, 95, 95, 100, 111, 99, 95, 95, 58, 115, 116, 114, 35, 111, 112, 97, 113, 117, 101, 6, 230, 8, 95, 95, 105, 110, 105, 116, 95, 95, 9, 44, 95, 102, 114, 111, 122, 101, 110, 95, 105, 109, 112, 111, 114, 116, 108, 105, 98, 46, 77, 111, 100, 117, 108, 101, 83, 112, 101, 99, 46, 95, 95, 105, 110, 105, 116, 95, 95, 35, 111, 112, 97, 113, 117, 101, 6, 231, 8, 95, 95, 114, 101, 112, 114, 95, 95, 9, 44, 95, 102, 114, 111, 122, 101, 110, 95, 105, 109, 112, 111, 114, 116, 108, 105, 98, 46, 77, 111, 100, 117, 108, 101, 83, 112, 101, 99, 46, 95, 95, 114, 101, 112, 114, 95, 95, 35, 111, 112, 97, 113, 117, 101, 6, 232, 6, 95, 95, 101, 113, 95, 95, 9, 42, 95, 102, 114, 111, 122, 101, 110, 95, 105, 109, 112, 111, 114, 116, 108, 105, 98, 46, 77, 111, 100, 117, 108, 101, 83, 112, 101, 99, 46, 95, 95, 101, 113, 95, 95, 35, 111, 112, 97, 113, 117, 101, 6, 233, 6, 99, 97, 99, 104, 101, 100, 9, 42, 95, 102, 114, 111, 122, 101, 110, 95, 105, 109, 112, 111, 114, 116, 108, 105, 98, 46, 77, 111, 100, 117, 108, 101, 83, 112, 101, 99, 46, 99, 97, 99, 104, 101, 100, 35, 111, 112, 97, 113, 117, 101, 6, 234, 6, 112, 97, 114, 101, 110, 116, 9, 42, 95, 102, 114, 111, 122, 101, 110, 95, 105, 109, 112, 111, 114, 116, 108, 105, 98, 46, 77, 111, 100, 117, 108, 101, 83, 112, 101, 99, 46, 112, 97, 114, 101, 110, 116, 35, 111, 112, 97, 113, 117, 101, 6, 235, 12, 104, 97, 115, 95, 108, 111, 99, 97, 116, 105, 111, 110, 9, 48, 95, 102, 114, 111, 122, 101, 110, 95, 105, 109, 112, 111, 114, 116, 108, 105, 98, 46, 77, 111, 100, 117, 108, 101, 83, 112, 101, 99, 46, 104, 97, 115, 95, 108, 111, 99, 97, 116, 105, 111, 110, 35, 111, 112, 97, 113, 117, 101, 6, 236, 21, 95, 95, 115, 116, 97, 116, 105, 99, 95, 97, 116, 116, 114, 105, 98, 117, 116, 101, 115, 95, 95, 4, 0, 0, 23, 6, 238, 8, 95, 95, 100, 105, 99, 116, 95, 95, 4, 0, 0, 24, 6, 240, 11, 95, 95, 119, 101, 97, 107, 114, 101, 102, 95, 95, 4, 0, 0, 25, 6, 241, 8, 95, 95, 104, 97, 115, 104, 95, 95, 0]⟩⟩ 0), (.bool true), (.bool true), (.str ⟨⟨[]⟩⟩ 242)]⟩ 1), ⟨[]⟩⟩
noncomputable def o18 (P : Params) : Obj := ⟨(.type "list"), none, (.seq ⟨[]⟩ 0), ⟨[]⟩⟩
noncomputable def dl5 (P : Params) : List DictEntry := [⟨(PyData.keyHash P ⟨⟨[110, 97, 109, 101]⟩⟩), (.str ⟨⟨[110, 97, 109, 101]⟩⟩ 208), (.str ⟨⟨[95, 115, 114, 101]⟩⟩ 207)⟩, ⟨(PyData.keyHash P ⟨⟨[108, 111, 97, 100, 101, 114]⟩⟩), (.str ⟨⟨[108, 111, 97, 100, 101, 114]⟩⟩ 209), (.ref 14)⟩, ⟨(PyData.keyHash P ⟨⟨[111, 114, 105, 103, 105, 110]⟩⟩), (.str ⟨⟨[111, 114, 105, 103, 105, 110]⟩⟩ 210), (.str ⟨⟨[98, 117, 105, 108, 116, 45, 105, 110]⟩⟩ 184)⟩, ⟨(PyData.keyHash P ⟨⟨[108, 111, 97, 100, 101, 114, 95, 115, 116, 97, 116, 101]⟩⟩), (.str ⟨⟨[108, 111, 97, 100, 101, 114, 95, 115, 116, 97, 116, 101]⟩⟩ 211), .none⟩, ⟨(PyData.keyHash P ⟨⟨[115, 117, 98, 109, 111, 100, 117, 108, 101, 95, 115, 101, 97, 114, 99, 104, 95, 108, 111, 99, 97, 116, 105, 111, 110, 115]⟩⟩), (.str ⟨⟨[115, 117, 98, 109, 111, 100, 117, 108, 101, 95, 115, 101, 97, 114, 99, 104, 95, 108, 111, 99, 97, 116, 105, 111, 110, 115]⟩⟩ 212), .none⟩, ⟨(PyData.keyHash P ⟨⟨[95, 117, 110, 105, 110, 105, 116, 105, 97, 108, 105, 122, 101, 100, 95, 115, 117, 98, 109, 111, 100, 117, 108, 101, 115]⟩⟩), (.str ⟨⟨[95, 117, 110, 105, 110, 105, 116, 105, 97, 108, 105, 122, 101, 100, 95, 115, 117, 98, 109, 111, 100, 117, 108, 101, 115]⟩⟩ 213), (.ref 19)⟩, ⟨(PyData.keyHash P ⟨⟨[95, 115, 101, 116, 95, 102, 105, 108, 101, 97, 116, 116, 114]⟩⟩), (.str ⟨⟨[95, 115, 101, 116, 95, 102, 105, 108, 101, 97, 116, 116, 114]⟩⟩ 214), (.bool false)⟩, ⟨(PyData.keyHash P ⟨⟨[95, 99, 97, 99, 104, 101, 100]⟩⟩), (.str ⟨⟨[95, 99, 97, 99, 104, 101, 100]⟩⟩ 215), .none⟩, ⟨(PyData.keyHash P ⟨⟨[95, 105, 110, 105, 116, 105, 97, 108, 105, 122, 105, 110, 103]⟩⟩), (.str ⟨⟨[95, 105, 110, 105, 116, 105, 97, 108, 105, 122, 105, 110, 103]⟩⟩ 243), (.bool false)⟩]
noncomputable def o19 (P : Params) : Obj := ⟨(.type "dict"), none, (.dict ⟨dl5 P⟩ 9), ⟨[]⟩⟩
noncomputable def dl6 (P : Params) : List DictEntry := [⟨(PyData.keyHash P ⟨⟨[95, 95, 109, 111, 100, 117, 108, 101, 95, 95]⟩⟩), (.str ⟨⟨[95, 95, 109, 111, 100, 117, 108, 101, 95, 95]⟩⟩ 227), (.str ⟨⟨[95, 102, 114, 111, 122, 101, 110, 95, 105, 109, 112, 111, 114, 116, 108, 105, 98]⟩⟩ 217)⟩, ⟨(PyData.keyHash P ⟨⟨[95, 95, 102, 105, 114, 115, 116, 108, 105, 110, 101, 110, 111, 95, 95]⟩⟩), (.str ⟨⟨[95, 95, 102, 105, 114, 115, 116, 108, 105, 110, 101, 110, 111, 95, 95]⟩⟩ 228), (.int 562 218)⟩, ⟨(PyData.keyHash P ⟨⟨[95, 95, 100, 111, 99, 95, 95]⟩⟩), (.str ⟨⟨[95, 95, 100, 111, 99, 95, 95]⟩⟩ 229), (.builtin "_frozen_importlib.ModuleSpec.__doc__:str#opaque")⟩, ⟨(PyData.keyHash P ⟨⟨[95, 95, 105, 110, 105, 116, 95, 95]⟩⟩), (.str ⟨⟨[95, 95, 105, 110, 105, 116, 95, 95]⟩⟩ 230), (.builtin "_frozen_importlib.ModuleSpec.__init__#opaque")⟩, ⟨(PyData.keyHash P ⟨⟨[95, 95, 114, 101, 112, 114, 95, 95]⟩⟩), (.str ⟨⟨[95, 95, 114, 101, 112, 114, 95, 95]⟩⟩ 231), (.builtin "_frozen_importlib.ModuleSpec.__repr__#opaque")⟩, ⟨(PyData.keyHash P ⟨⟨[95, 95, 101, 113, 95, 95]⟩⟩), (.str ⟨⟨[95, 95, 101, 113, 95, 95]⟩⟩ 232), (.builtin "_frozen_importlib.ModuleSpec.__eq__#opaque")⟩, ⟨(PyData.keyHash P ⟨⟨[99, 97, 99, 104, 101, 100]⟩⟩), (.str ⟨⟨[99, 97, 99, 104, 101, 100]⟩⟩ 233), (.builtin "_frozen_importlib.ModuleSpec.cached#opaque")⟩, ⟨(PyData.keyHash P ⟨⟨[112, 97, 114, 101, 110, 116]⟩⟩), (.str ⟨⟨[112, 97, 114, 101, 110, 116]⟩⟩ 234), (.builtin "_frozen_importlib.ModuleSpec.parent#opaque")⟩, ⟨(PyData.keyHash P ⟨⟨[104, 97, 115, 95, 108, 111, 99, 97, 116, 105, 111, 110]⟩⟩), (.str ⟨⟨[104, 97, 115, 95, 108, 111, 99, 97, 116, 105, 111, 110]⟩⟩ 235), (.builtin "_frozen_importlib.ModuleSpec.has_location#opaque")⟩, ⟨(PyData.keyHash P ⟨⟨[95, 95, 115, 116, 97, 116, 105, 99, 95, 97, 116, 116, 114, 105, 98, 117, 116, 101, 115, 95, 95]⟩⟩), (.str ⟨⟨[95, 95, 115, 116, 97, 116, 105, 99, 95, 97, 116, 116, 114, 105, 98, 117, 116, 101, 115, 95, 95]⟩⟩ 236), (.ref 23)⟩, ⟨(PyData.keyHash P ⟨⟨[95, 95, 100, 105, 99, 116, 95, 95]⟩⟩), (.str ⟨⟨[95, 95, 100, 105, 99, 116, 95, 95]⟩⟩ 238), (.ref 24)⟩, ⟨(PyData.keyHash P ⟨⟨[95, 95, 119, 101, 97, 107, 114, 101, 102, 95, 95]⟩⟩), (.str ⟨⟨[95, 95, 119, 101, 97, 107, 114, 101, 102, 95, 95]⟩⟩ 240), (.ref 25)⟩, ⟨(PyData.keyHash P ⟨⟨[95, 95, 104, 97, 115, 104, 95, 95]⟩⟩), (.str ⟨⟨[95, 95, 104, 97, 115, 104, 95, 95]⟩⟩ 241), .none⟩]
noncomputable def o20 (P : Params) : Obj := ⟨(.type "dict"), none, (.dict ⟨dl6 P⟩ 13), ⟨[]⟩⟩
noncomputable def o21 (P : Params) : Obj := ⟨(.type "type"), none, (.cls ⟨⟨⟨[77, 111, 100, 117, 108, 101, 83, 112, 101, 99]⟩⟩, [(.type "object")], [(.ref 22), (.type "object")], 21, ⟨⟨[77, 111, 100, 117, 108, 101, 83, 112, 101, 99]⟩⟩, true, [], [], false, none, false⟩), ⟨[]⟩⟩
noncomputable def o22 (P : Params) : Obj := ⟨(.type "tuple"), none, (.seq ⟨[(.str ⟨⟨[95, 99, 97, 99, 104, 101, 100]⟩⟩ 219), (.str ⟨⟨[95, 115, 101, 116, 95, 102, 105, 108, 101, 97, 116, 116, 114]⟩⟩ 220), (.str ⟨⟨[95, 117, 110, 105, 110, 105, 116, 105, 97, 108, 105, 122, 101, 100, 95, 115, 117, 98, 109, 111, 100, 117, 108, 101, 115]⟩⟩ 221), (.str ⟨⟨[108, 111, 97, 100, 101, 114]⟩⟩ 222), (.str ⟨⟨[108, 111, 97, 100, 101, 114, 95, 115, 116, 97, 116, 101]⟩⟩ 223), (.str ⟨⟨[110, 97, 109, 101]⟩⟩ 224), (.str ⟨⟨[111, 114, 105, 103, 105, 110]⟩⟩ 225), (.str ⟨⟨[115, 117, 98, 109, 111, 100, 117, 108, 101, 95, 115, 101, 97, 114, 99, 104, 95, 108, 111, 99, 97, 116, 105, 111, 110, 115]⟩⟩ 226)]⟩ 0), ⟨[]⟩⟩
noncomputable def o23 (P : Params) : Obj := ⟨(.type "getset_descriptor"), none, (.fields ⟨[(.str ⟨⟨[95, 95, 100, 105, 99, 116, 95, 95]⟩⟩ 237), (.ref 22), (.builtin "function.__dict__"), (.builtin "function.__dict__#set")]⟩), ⟨[]⟩⟩
noncomputable def o24 (P : Params) : Obj := ⟨(.type "getset_descriptor"), none, (.fields ⟨[(.str ⟨⟨[95, 95, 119, 101, 97, 107, 114, 101, 102, 95, 95]⟩⟩ 239), (.ref 22), (.builtin "ExceptionGroup.__weakref__"), .none]⟩), ⟨[]⟩⟩
noncomputable def o25 (P : Params) : Obj := ⟨(.ref 22), (some 20), .plain, ⟨[]⟩⟩
noncomputable def o26 (P : Params) : Obj := ⟨.none, none, (.seq ⟨[(.int 11 0), (.str ⟨⟨[6, 247, 8, 95, 95, 110, 97, 109, 101, 95, 95, 6, 246, 4, 95, 115, 114, 101, 6, 248, 7, 95, 95, 100, 111, 99, 95, 95, 0, 6, 250, 11, 95, 95, 112, 97, 99, 107, 97, 103, 101, 95, 95, 6, 249, 0, 6, 251, 10, 95, 95, 108, 111, 97, 100, 101, 114, 95, 95, 4, 0, 0, 14, 6, 252, 8, 95, 95, 115, 112, 101, 99, 95, 95, 4, 0, 0, 26, 6, 253, 7, 99, 111, 109, 112, 105, 108, 101, 9, 12, 95, 115, 114, 101, 46, 99, 111, 109, 112, 105, 108, 101, 6, 254, 8, 116, 101, 109, 112, 108, 97, 116, 101, 9, 13, 95, 115, 114, 101, 46, 116, 101, 109, 112, 108, 97, 116, 101, 6, 255, 11, 103, 101, 116, 99, 111, 100, 101, 115, 105, 122, 101, 9, 16, 95, 115, 114, 101, 46, 103, 101, 116, 99, 111, 100, 101, 115, 105, 122, 101, 6, 256, 13, 97, 115, 99, 105, 105, 95, 105, 115, 99, 97, 115, 101, 100, 9, 18, 95, 115, 114, 101, 46, 97, 115, 99, 105, 105, 95, 105, 115, 99, 97, 115, 101, 100, 6, 257, 15, 117, 110, 105, 99, 111, 100, 101, 95, 105, 115, 99, 97, 115, 101, 100, 9, 20, 95, 115, 114, 101, 46, 117, 110, 105, 99, 111, 100, 101, 95, 105, 115, 99, 97, 115, 101, 100, 6, 258, 13, 97, 115, 99, 105, 105, 95, 116, 111, 108, 111, 119, 101, 114, 9, 18, 95, 115, 114, 101, 46, 97, 115, 99, 105, 105, 95, 116, 111, 108, 111, 119, 101, 114, 6, 259, 15, 117, 110, 105, 99, 111, 100, 101, 95, 116, 111, 108, 111, 119, 101, 114, 9, 20, 95, 115, 114, 101, 46, 117, 110, 105, 99, 111, 100, 101, 95, 116, 111, 108, 111, 119, 101, 114, 6, 261, 5, 77, 65, 71, 73, 67, 4, 260, 0, 20230612, 6, 263, 8, 67, 79, 68, 69, 83, 73, 90, 69, 4, 262, 0, 4, 6, 265, 9, 77, 65, 88, 82, 69, 80, 69, 65, 84, 4, 264, 0, 4294967295, 6, 267, 9, 77, 65, 88, 71, 82, 79, 85, 80, 83, 4, 266, 0, 1073741823, 6, 269, 9, 99, 111, 112, 121, 114, 105, 103, 104, 116, 6, 268, 53, 32, 83, 82, 69, 32, 50, 46, 50, 46, 50, 32, 67, 111, 112, 121, 114, 105, 103, 104, 116, 32, 40, 99, 41, 32, 49, 57, 57, 55, 45, 50, 48, 48, 50, 32, 98, 121, 32, 83, 101, 99, 114, 101, 116, 32, 76, 97, 98, 115, 32, 65, 66, 32]⟩⟩ 0), (.bool true), (.bool false), (.str ⟨⟨[95, 115, 114, 101]⟩⟩ 271)]⟩ 0), ⟨[]⟩⟩
noncomputable def H0 (P : Params) : Heap := ⟨⟨[o0 P, o1 P, o2 P, o3 P, o4 P, o5 P, o6 P, o7 P, o8 P, o9 P, o10 P, o11 P, o12 P, o13 P, o14 P, o7 P, o15 P, o16 P, o17 P, o18 P, o19 P, o20 P, o21 P, o22 P, o23 P, o24 P, o25 P, o26 P]⟩, life0⟩
noncomputable def o27 (P : Params) : Obj := ⟨(.type "code"), none, (.fields ⟨[(.str ⟨⟨[60, 109, 111, 100, 117, 108, 101, 62]⟩⟩ 277), (.str ⟨⟨[60, 109, 111, 100, 117, 108, 101, 62]⟩⟩ 278), (.str ⟨⟨[47, 99, 108, 97, 105, 109, 47, 99, 117, 116, 46, 112, 121]⟩⟩ 279), (.int 1 0), (.int 0 0), (.int 0 0), (.int 0 0), (.int 0 0), (.ref 28), (.bool false), (.int 276 0), (.ref 29), .none, .none, .none, .none, (.int 280 0), (.int 1 0), (.str ⟨⟨[47, 99, 108, 97, 105, 109, 47, 99, 117, 116, 46, 112, 121]⟩⟩ 281)]⟩), ⟨[]⟩⟩
noncomputable def o28 (P : Params) : Obj := ⟨(.type "frame"), none, .plain, ⟨[(some (.ref 30)), (some (.ref 3)), (some (.ref 3)), none, (some (.str ⟨⟨[95, 95, 109, 97, 105, 110, 95, 95]⟩⟩ 164)), none, (some (.ref 0))]⟩⟩
noncomputable def t0 (P : Params) : BT := (.node (o7 P) (.node (o7 P) (.node (o28 P) .nil .nil) .nil) (.node (o22 P) .nil .nil))
noncomputable def t1 (P : Params) : BT := (.node (o3 P) (t0 P) (.node (o11 P) (.node (o18 P) .nil .nil) (.node (o26 P) .nil .nil)))
noncomputable def t2 (P : Params) : BT := (.node (o5 P) (.node (o9 P) (.node (o16 P) .nil .nil) (.node (o24 P) .nil .nil)) (.node (o13 P) (.node (o20 P) .nil .nil) (.node (o8 P) .nil .nil)))
noncomputable def t3 (P : Params) : BT := (.node (o1 P) (t1 P) (t2 P))
noncomputable def t4 (P : Params) : BT := (.node (o4 P) (.node (o8 P) (.node (o15 P) .nil .nil) (.node (o23 P) .nil .nil)) (.node (o12 P) (.node (o19 P) .nil .nil) (.node (o7 P) .nil .nil)))
noncomputable def t5 (P : Params) : BT := (.node (o6 P) (.node (o10 P) (.node (o17 P) .nil .nil) (.node (o25 P) .nil .nil)) (.node (o14 P) (.node (o21 P) .nil .nil) (.node (o27 P) .nil .nil)))
noncomputable def t6 (P : Params) : BT := (.node (o2 P) (t4 P) (t5 P))
noncomputable def t7 (P : Params) : BT := (.node (o0 P) (t3 P) (t6 P))
noncomputable def S0 (w : World) (os : OsState) : SharedT := let P := w.params; ⟨(t7 P), 32, life0, ⟨[]⟩, ⟨0, 0, 0, 0⟩, 282, os⟩
noncomputable def dl7 (P : Params) : List DictEntry := [⟨(PyData.keyHash P ⟨⟨[95, 95, 110, 97, 109, 101, 95, 95]⟩⟩), (.str ⟨⟨[95, 95, 110, 97, 109, 101, 95, 95]⟩⟩ 165), (.str ⟨⟨[98, 105, 110, 97, 115, 99, 105, 105]⟩⟩ 329)⟩, ⟨(PyData.keyHash P ⟨⟨[95, 95, 100, 111, 99, 95, 95]⟩⟩), (.str ⟨⟨[95, 95, 100, 111, 99, 95, 95]⟩⟩ 166), .none⟩, ⟨(PyData.keyHash P ⟨⟨[95, 95, 112, 97, 99, 107, 97, 103, 101, 95, 95]⟩⟩), (.str ⟨⟨[95, 95, 112, 97, 99, 107, 97, 103, 101, 95, 95]⟩⟩ 167), .none⟩, ⟨(PyData.keyHash P ⟨⟨[95, 95, 108, 111, 97, 100, 101, 114, 95, 95]⟩⟩), (.str ⟨⟨[95, 95, 108, 111, 97, 100, 101, 114, 95, 95]⟩⟩ 168), (.builtin "__main__.__loader__#opaque")⟩, ⟨(PyData.keyHash P ⟨⟨[95, 95, 115, 112, 101, 99, 95, 95]⟩⟩), (.str ⟨⟨[95, 95, 115, 112, 101, 99, 95, 95]⟩⟩ 169), .none⟩, ⟨(PyData.keyHash P ⟨⟨[95, 95, 97, 110, 110, 111, 116, 97, 116, 105, 111, 110, 115, 95, 95]⟩⟩), (.str ⟨⟨[95, 95, 97, 110, 110, 111, 116, 97, 116, 105, 111, 110, 115, 95, 95]⟩⟩ 170), (.ref 6)⟩, ⟨(PyData.keyHash P ⟨⟨[95, 95, 98, 117, 105, 108, 116, 105, 110, 115, 95, 95]⟩⟩), (.str ⟨⟨[95, 95, 98, 117, 105, 108, 116, 105, 110, 115, 95, 95]⟩⟩ 171), (.ref 4)⟩, ⟨(PyData.keyHash P ⟨⟨[95, 95, 102, 105, 108, 101, 95, 95]⟩⟩), (.str ⟨⟨[95, 95, 102, 105, 108, 101, 95, 95]⟩⟩ 173), (.str ⟨⟨[47, 99, 108, 97, 105, 109, 47, 99, 117, 116, 46, 112, 121]⟩⟩ 172)⟩, ⟨(PyData.keyHash P ⟨⟨[95, 95, 99, 97, 99, 104, 101, 100, 95, 95]⟩⟩), (.str ⟨⟨[95, 95, 99, 97, 99, 104, 101, 100, 95, 95]⟩⟩ 174), .none⟩, ⟨(PyData.keyHash P ⟨⟨[95, 115, 114, 101]⟩⟩), (.str ⟨⟨[95, 115, 114, 101]⟩⟩ 275), (.ref 12)⟩, ⟨(PyData.keyHash P ⟨⟨[95, 119, 97, 108, 108]⟩⟩), (.str ⟨⟨[95, 119, 97, 108, 108]⟩⟩ 288), (.ref 38)⟩, ⟨(PyData.keyHash P ⟨⟨[95, 116, 119, 105, 110, 95, 114, 101, 95, 49]⟩⟩), (.str ⟨⟨[95, 116, 119, 105, 110, 95, 114, 101, 95, 49]⟩⟩ 320), (.ref 43)⟩, ⟨(PyData.keyHash P ⟨⟨[98, 121, 116, 101, 115, 95, 116, 121, 112, 101, 115]⟩⟩), (.str ⟨⟨[98, 121, 116, 101, 115, 95, 116, 121, 112, 101, 115]⟩⟩ 321), (.ref 44)⟩, ⟨(PyData.keyHash P ⟨⟨[95, 98, 121, 116, 101, 115, 95, 102, 114, 111, 109, 95, 100, 101, 99, 111, 100, 101, 95, 100, 97, 116, 97]⟩⟩), (.str ⟨⟨[95, 98, 121, 116, 101, 115, 95, 102, 114, 111, 109, 95, 100, 101, 99, 111, 100, 101, 95, 100, 97, 116, 97]⟩⟩ 328), (.ref 51)⟩]
noncomputable def o29 (P : Params) : Obj := ⟨(.type "dict"), none, (.dict ⟨dl7 P⟩ 14), ⟨[]⟩⟩
noncomputable def o30 (P : Params) : Obj := ⟨.none, none, (.fields ⟨[(.int 2 0), (.int 0 0), (.ref 37), (.int 8 0), (.int 0 0), (.ref 50)]⟩), ⟨[]⟩⟩
noncomputable def o31 (P : Params) : Obj := ⟨(.type "tuple"), none, (.seq ⟨[(.str ⟨⟨[107]⟩⟩ 285)]⟩ 0), ⟨[]⟩⟩
noncomputable def o32 (P : Params) : Obj := ⟨.none, none, (fnD 0 ⟨⟨[95, 119, 97, 108, 108]⟩⟩ ⟨⟨[95, 119, 97, 108, 108]⟩⟩ [] .none .none .none .none none .none .none 0 0), ⟨[]⟩⟩
noncomputable def o33 (P : Params) : Obj := ⟨(.type "code"), none, (.fields ⟨[(.str ⟨⟨[95, 119, 97, 108, 108]⟩⟩ 282), (.str ⟨⟨[95, 119, 97, 108, 108]⟩⟩ 283), (.str ⟨⟨[47, 99, 108, 97, 105, 109, 47, 99, 117, 116, 46, 112, 121]⟩⟩ 284), (.int 2 0), (.int 1 0), (.int 0 0), (.int 0 0), (.int 3 0), (.ref 32), (.bool true), (.int 276 0), (.ref 33), .none, (.ref 34), (.ref 35), (.ref 36), (.int 286 0), (.int 2 0), (.str ⟨⟨[47, 99, 108, 97, 105, 109, 47, 99, 117, 116, 46, 112, 121]⟩⟩ 287)]⟩), ⟨[]⟩⟩
noncomputable def o34 (P : Params) : Obj := ⟨(.type "function"), none, (fnD 0 ⟨⟨[95, 119, 97, 108, 108]⟩⟩ ⟨⟨[95, 119, 97, 108, 108]⟩⟩ [] .none .none .none (.str ⟨⟨[95, 95, 109, 97, 105, 110, 95, 95]⟩⟩ 164) none (.ref 37) .none 3 0), ⟨[]⟩⟩
noncomputable def o35 (P : Params) : Obj := ⟨(.type "list"), none, (.seq ⟨[(.int 14 294), (.int 12 295), (.int 4 296), (.int 1 297), (.int 1 298), (.int 21 299), (.int 22 300), (.int 48 301), (.int 57 302), (.int 22 303), (.int 65 304), (.int 70 305), (.int 0 306), (.int 13 307), (.int 9 308), (.int 21 309), (.int 22 310), (.int 48 311), (.int 57 312), (.int 22 313), (.int 65 314), (.int 70 315), (.int 0 316), (.int 1 317)]⟩ 0), ⟨[]⟩⟩
noncomputable def o36 (P : Params) : Obj := ⟨(.type "tuple"), none, (.seq ⟨[.none]⟩ 0), ⟨[]⟩⟩
noncomputable def o37 (P : Params) : Obj := ⟨(.type "tuple"), none, (.seq ⟨[(.int 14 0), (.int 12 0), (.int 4 0), (.int 1 0), (.int 1 0), (.int 21 0), (.int 22 0), (.int 48 0), (.int 57 0), (.int 22 0), (.int 65 0), (.int 70 0), (.int 0 0), (.int 13 0), (.int 9 0), (.int 21 0), (.int 22 0), (.int 48 0), (.int 57 0), (.int 22 0), (.int 65 0), (.int 70 0), (.int 0 0), (.int 1 0)]⟩ 0), ⟨[]⟩⟩
noncomputable def o38 (P : Params) : Obj := ⟨(.type "re.Pattern"), none, (.fields ⟨[(.bytes ⟨[91, 94, 48, 45, 57, 65, 45, 70, 93]⟩ 292), (.int 0 319), (.int 0 0), .none, .none, (.ref 42), (.int 1 0)]⟩), ⟨[]⟩⟩
noncomputable def o39 (P : Params) : Obj := ⟨(.type "tuple"), none, (.seq ⟨[(.type "bytes"), (.type "bytearray")]⟩ 0), ⟨[]⟩⟩
noncomputable def o40 (P : Params) : Obj := ⟨(.type "tuple"), none, (.seq ⟨[(.str ⟨⟨[115]⟩⟩ 325)]⟩ 0), ⟨[]⟩⟩
noncomputable def o41 (P : Params) : Obj := ⟨.none, none, (fnD 4 ⟨⟨[95, 98, 121, 116, 101, 115, 95, 102, 114, 111, 109, 95, 100, 101, 99, 111, 100, 101, 95, 100, 97, 116, 97]⟩⟩ ⟨⟨[95, 98, 121, 116, 101, 115, 95, 102, 114, 111, 109, 95, 100, 101, 99, 111, 100, 101, 95, 100, 97, 116, 97]⟩⟩ [] .none .none .none .none none .none .none 0 0), ⟨[]⟩⟩
noncomputable def o42 (P : Params) : Obj := ⟨(.type "code"), none, (.fields ⟨[(.str ⟨⟨[95, 98, 121, 116, 101, 115, 95, 102, 114, 111, 109, 95, 100, 101, 99, 111, 100, 101, 95, 100, 97, 116, 97]⟩⟩ 322), (.str ⟨⟨[95, 98, 121, 116, 101, 115, 95, 102, 114, 111, 109, 95, 100, 101, 99, 111, 100, 101, 95, 100, 97, 116, 97]⟩⟩ 323), (.str ⟨⟨[47, 99, 108, 97, 105, 109, 47, 99, 117, 116, 46, 112, 121]⟩⟩ 324), (.int 8 0), (.int 1 0), (.int 0 0), (.int 0 0), (.int 3 0), (.ref 45), (.bool true), (.int 276 0), (.ref 46), .none, (.ref 47), (.ref 48), (.ref 49), (.int 326 0), (.int 8 0), (.str ⟨⟨[47, 99, 108, 97, 105, 109, 47, 99, 117, 116, 46, 112, 121]⟩⟩ 327)]⟩), ⟨[]⟩⟩
noncomputable def o43 (P : Params) : Obj := ⟨(.type "function"), none, (fnD 4 ⟨⟨[95, 98, 121, 116, 101, 115, 95, 102, 114, 111, 109, 95, 100, 101, 99, 111, 100, 101, 95, 100, 97, 116, 97]⟩⟩ ⟨⟨[95, 98, 121, 116, 101, 115, 95, 102, 114, 111, 109, 95, 100, 101, 99, 111, 100, 101, 95, 100, 97, 116, 97]⟩⟩ [] .none .none .none (.str ⟨⟨[99, 112, 121, 51, 49, 51, 46, 98, 97, 115, 101, 54, 52]⟩⟩ 289) none (.ref 50) .none 3 0), ⟨[]⟩⟩
noncomputable def t8 (P : Params) : BT := (.node (o7 P) (.node (o7 P) (.node (o28 P) .nil .nil) (.node (o40 P) .nil .nil)) (.node (o22 P) (.node (o35 P) .nil .nil) .nil))
noncomputable def t9 (P : Params) : BT := (.node (o11 P) (.node (o18 P) (.node (o7 P) .nil .nil) (.node (o43 P) .nil .nil)) (.node (o26 P) (.node (o38 P) .nil .nil) .nil))
noncomputable def t10 (P : Params) : BT := (.node (o29 P) (t8 P) (t9 P))
noncomputable def t11 (P : Params) : BT := (.node (o9 P) (.node (o16 P) (.node (o8 P) .nil .nil) (.node (o41 P) .nil .nil)) (.node (o24 P) (.node (o36 P) .nil .nil) .nil))
noncomputable def t12 (P : Params) : BT := (.node (o13 P) (.node (o20 P) (.node (o33 P) .nil .nil) .nil) (.node (o30 P) (.node (o7 P) .nil .nil) .nil))
noncomputable def t13 (P : Params) : BT := (.node (o5 P) (t11 P) (t12 P))
noncomputable def t14 (P : Params) : BT := (.node (o1 P) (t10 P) (t13 P))
noncomputable def t15 (P : Params) : BT := (.node (o8 P) (.node (o15 P) (.node (o7 P) .nil .nil) (.node (o7 P) .nil .nil)) (.node (o23 P) (.node (o6 P) .nil .nil) .nil))
noncomputable def t16 (P : Params) : BT := (.node (o12 P) (.node (o19 P) (.node (o32 P) .nil .nil) .nil) (.node (o7 P) (.node (o39 P) .nil .nil) .nil))
noncomputable def t17 (P : Params) : BT := (.node (o4 P) (t15 P) (t16 P))
noncomputable def t18 (P : Params) : BT := (.node (o10 P) (.node (o17 P) (.node (o31 P) .nil .nil) (.node (o42 P) .nil .nil)) (.node (o25 P) (.node (o37 P) .nil .nil) .nil))
noncomputable def t19 (P : Params) : BT := (.node (o14 P) (.node (o21 P) (.node (o34 P) .nil .nil) .nil) (.node (o27 P) (.node (o8 P) .nil .nil) .nil))
noncomputable def t20 (P : Params) : BT := (.node (o6 P) (t18 P) (t19 P))
noncomputable def t21 (P : Params) : BT := (.node (o2 P) (t17 P) (t20 P))
noncomputable def t22 (P : Params) : BT := (.node (o0 P) (t14 P) (t21 P))
noncomputable def S6 (w : World) (os : OsState) : SharedT := let P := w.params; ⟨(t22 P), 52, life0, ⟨[]⟩, ⟨0, 0, 0, 0⟩, 331, os⟩
noncomputable def dl8 (P : Params) : List DictEntry := dl7 P ++ [⟨(PyData.keyHash P ⟨⟨[69, 114, 114, 111, 114]⟩⟩), (.str ⟨⟨[69, 114, 114, 111, 114]⟩⟩ 348), (.ref 61)⟩, ⟨(PyData.keyHash P ⟨⟨[95, 97, 115, 99, 105, 105, 95, 98, 117, 102, 102, 101, 114]⟩⟩), (.str ⟨⟨[95, 97, 115, 99, 105, 105, 95, 98, 117, 102, 102, 101, 114]⟩⟩ 356), (.ref 71)⟩, ⟨(PyData.keyHash P ⟨⟨[95, 98, 117, 102, 102, 101, 114]⟩⟩), (.str ⟨⟨[95, 98, 117, 102, 102, 101, 114]⟩⟩ 364), (.ref 78)⟩, ⟨(PyData.keyHash P ⟨⟨[95, 78, 79, 95, 83, 69, 80]⟩⟩), (.str ⟨⟨[95, 78, 79, 95, 83, 69, 80]⟩⟩ 365), (.ref 79)⟩, ⟨(PyData.keyHash P ⟨⟨[98, 50, 97, 95, 104, 101, 120]⟩⟩), (.str ⟨⟨[98, 50, 97, 95, 104, 101, 120]⟩⟩ 376), (.ref 87)⟩, ⟨(PyData.keyHash P ⟨⟨[104, 101, 120, 108, 105, 102, 121]⟩⟩), (.str ⟨⟨[104, 101, 120, 108, 105, 102, 121]⟩⟩ 377), (.ref 87)⟩]
noncomputable def o44 (P : Params) : Obj := ⟨(.type "dict"), none, (.dict ⟨dl8 P⟩ 20), ⟨[]⟩⟩
noncomputable def o45 (P : Params) : Obj := ⟨.none, none, (.fields ⟨[(.int 2 0), (.int 0 0), (.ref 37), (.int 8 0), (.int 0 0), (.ref 50), (.int 21 0), (.int 0 0), (.ref 57), (.int 23 0), (.int 0 0), (.ref 70), (.int 34 0), (.int 0 0), (.ref 77), (.int 42 0), (.int 0 0), (.ref 86)]⟩), ⟨[]⟩⟩
noncomputable def o46 (P : Params) : Obj := ⟨(.type "tuple"), none, (.seq ⟨[(.type "ValueError")]⟩ 0), ⟨[]⟩⟩
noncomputable def o47 (P : Params) : Obj := ⟨(.type "builtin_function_or_method"), none, (.fields ⟨[(.builtin "type.__prepare__"), (.type "type")]⟩), ⟨[]⟩⟩
noncomputable def o48 (P : Params) : Obj := ⟨(.type "dict"), none, (.dict ⟨[⟨(PyData.keyHash P ⟨⟨[95, 95, 109, 111, 100, 117, 108, 101, 95, 95]⟩⟩), (.str ⟨⟨[95, 95, 109, 111, 100, 117, 108, 101, 95, 95]⟩⟩ 338), (.str ⟨⟨[98, 105, 110, 97, 115, 99, 105, 105]⟩⟩ 329)⟩, ⟨(PyData.keyHash P ⟨⟨[95, 95, 113, 117, 97, 108, 110, 97, 109, 101, 95, 95]⟩⟩), (.str ⟨⟨[95, 95, 113, 117, 97, 108, 110, 97, 109, 101, 95, 95]⟩⟩ 340), (.str ⟨⟨[69, 114, 114, 111, 114]⟩⟩ 339)⟩, ⟨(PyData.keyHash P ⟨⟨[95, 95, 102, 105, 114, 115, 116, 108, 105, 110, 101, 110, 111, 95, 95]⟩⟩), (.str ⟨⟨[95, 95, 102, 105, 114, 115, 116, 108, 105, 110, 101, 110, 111, 95, 95]⟩⟩ 342), (.int 21 341)⟩, ⟨(PyData.keyHash P ⟨⟨[95, 95, 115, 116, 97, 116, 105, 99, 95, 97, 116, 116, 114, 105, 98, 117, 116, 101, 115, 95, 95]⟩⟩), (.str ⟨⟨[95, 95, 115, 116, 97, 116, 105, 99, 95, 97, 116, 116, 114, 105, 98, 117, 116, 101, 115, 95, 95]⟩⟩ 343), (.ref 59)⟩]⟩ 4), ⟨[]⟩⟩
noncomputable def o49 (P : Params) : Obj := ⟨(.type "code"), none, (.fields ⟨[(.str ⟨⟨[69, 114, 114, 111, 114]⟩⟩ 333), (.str ⟨⟨[69, 114, 114, 111, 114]⟩⟩ 334), (.str ⟨⟨[47, 99, 108, 97, 105, 109, 47, 99, 117, 116, 46, 112, 121]⟩⟩ 335), (.int 21 0), (.int 0 0), (.int 0 0), (.int 0 0), (.int 0 0), (.ref 55), (.bool false), (.int 276 0), (.ref 56), .none, .none, .none, .none, (.int 336 0), (.int 21 0), (.str ⟨⟨[47, 99, 108, 97, 105, 109, 47, 99, 117, 116, 46, 112, 121]⟩⟩ 337)]⟩), ⟨[]⟩⟩
noncomputable def o50 (P : Params) : Obj := ⟨(.type "frame"), none, .plain, ⟨[(some (.ref 57)), (some (.ref 3)), (some (.ref 54)), none, (some (.str ⟨⟨[98, 105, 110, 97, 115, 99, 105, 105]⟩⟩ 329)), none, (some (.ref 0))]⟩⟩
noncomputable def o51 (P : Params) : Obj := ⟨(.type "dict"), none, (.dict ⟨[⟨(PyData.keyHash P ⟨⟨[95, 95, 109, 111, 100, 117, 108, 101, 95, 95]⟩⟩), (.str ⟨⟨[95, 95, 109, 111, 100, 117, 108, 101, 95, 95]⟩⟩ 338), (.str ⟨⟨[98, 105, 110, 97, 115, 99, 105, 105]⟩⟩ 329)⟩, ⟨(PyData.keyHash P ⟨⟨[95, 95, 102, 105, 114, 115, 116, 108, 105, 110, 101, 110, 111, 95, 95]⟩⟩), (.str ⟨⟨[95, 95, 102, 105, 114, 115, 116, 108, 105, 110, 101, 110, 111, 95, 95]⟩⟩ 342), (.int 21 341)⟩, ⟨(PyData.keyHash P ⟨⟨[95, 95, 115, 116, 97, 116, 105, 99, 95, 97, 116, 116, 114, 105, 98, 117, 116, 101, 115, 95, 95]⟩⟩), (.str ⟨⟨[95, 95, 115, 116, 97, 116, 105, 99, 95, 97, 116, 116, 114, 105, 98, 117, 116, 101, 115, 95, 95]⟩⟩ 343), (.ref 59)⟩, ⟨(PyData.keyHash P ⟨⟨[95, 95, 119, 101, 97, 107, 114, 101, 102, 95, 95]⟩⟩), (.str ⟨⟨[95, 95, 119, 101, 97, 107, 114, 101, 102, 95, 95]⟩⟩ 345), (.ref 62)⟩, ⟨(PyData.keyHash P ⟨⟨[95, 95, 100, 111, 99, 95, 95]⟩⟩), (.str ⟨⟨[95, 95, 100, 111, 99, 95, 95]⟩⟩ 346), .none⟩]⟩ 3), ⟨[]⟩⟩
noncomputable def o52 (P : Params) : Obj := ⟨(.type "type"), none, (.cls ⟨⟨⟨[69, 114, 114, 111, 114]⟩⟩, [(.type "ValueError")], [(.ref 61), (.type "ValueError"), (.type "Exception"), (.type "BaseException"), (.type "object")], 60, ⟨⟨[69, 114, 114, 111, 114]⟩⟩, true, [], [], false, none, false⟩), ⟨[(some (.ref 52)), none, (some (.str ⟨⟨[69, 114, 114, 111, 114]⟩⟩ 331)), (some (.str ⟨⟨[69, 114, 114, 111, 114]⟩⟩ 339)), (some (.builtin "ValueError.__new__")), (some (.bool true))]⟩⟩
noncomputable def o53 (P : Params) : Obj := ⟨(.type "getset_descriptor"), none, (.fields ⟨[(.str ⟨⟨[95, 95, 119, 101, 97, 107, 114, 101, 102, 95, 95]⟩⟩ 344), (.ref 61), (.builtin "ExceptionGroup.__weakref__"), .none]⟩), ⟨[]⟩⟩
noncomputable def o54 (P : Params) : Obj := ⟨(.type "super"), none, (.fields ⟨[(.ref 61), (.ref 61), (.ref 61)]⟩), ⟨[]⟩⟩
noncomputable def o55 (P : Params) : Obj := ⟨(.type "builtin_function_or_method"), none, (.fields ⟨[(.builtin "object.__init_subclass__"), (.ref 61)]⟩), ⟨[]⟩⟩
noncomputable def o56 (P : Params) : Obj := ⟨(.type "tuple"), none, (.seq ⟨[(.str ⟨⟨[100, 97, 116, 97]⟩⟩ 352), (.str ⟨⟨[116]⟩⟩ 353)]⟩ 0), ⟨[]⟩⟩
noncomputable def o57 (P : Params) : Obj := ⟨.none, none, (fnD 7 ⟨⟨[95, 97, 115, 99, 105, 105, 95, 98, 117, 102, 102, 101, 114]⟩⟩ ⟨⟨[95, 97, 115, 99, 105, 105, 95, 98, 117, 102, 102, 101, 114]⟩⟩ [] .none .none .none .none none .none .none 0 0), ⟨[]⟩⟩
noncomputable def o58 (P : Params) : Obj := ⟨(.type "code"), none, (.fields ⟨[(.str ⟨⟨[95, 97, 115, 99, 105, 105, 95, 98, 117, 102, 102, 101, 114]⟩⟩ 349), (.str ⟨⟨[95, 97, 115, 99, 105, 105, 95, 98, 117, 102, 102, 101, 114]⟩⟩ 350), (.str ⟨⟨[47, 99, 108, 97, 105, 109, 47, 99, 117, 116, 46, 112, 121]⟩⟩ 351), (.int 23 0), (.int 1 0), (.int 0 0), (.int 0 0), (.int 3 0), (.ref 65), (.bool true), (.int 276 0), (.ref 66), .none, (.ref 67), (.ref 68), (.ref 69), (.int 354 0), (.int 23 0), (.str ⟨⟨[47, 99, 108, 97, 105, 109, 47, 99, 117, 116, 46, 112, 121]⟩⟩ 355)]⟩), ⟨[]⟩⟩
noncomputable def o59 (P : Params) : Obj := ⟨(.type "function"), none, (fnD 7 ⟨⟨[95, 97, 115, 99, 105, 105, 95, 98, 117, 102, 102, 101, 114]⟩⟩ ⟨⟨[95, 97, 115, 99, 105, 105, 95, 98, 117, 102, 102, 101, 114]⟩⟩ [] .none .none .none (.str ⟨⟨[98, 105, 110, 97, 115, 99, 105, 105]⟩⟩ 329) none (.ref 70) .none 3 0), ⟨[]⟩⟩
noncomputable def o60 (P : Params) : Obj := ⟨(.type "tuple"), none, (.seq ⟨[(.str ⟨⟨[100, 97, 116, 97]⟩⟩ 360), (.str ⟨⟨[116]⟩⟩ 361)]⟩ 0), ⟨[]⟩⟩
noncomputable def o61 (P : Params) : Obj := ⟨.none, none, (fnD 8 ⟨⟨[95, 98, 117, 102, 102, 101, 114]⟩⟩ ⟨⟨[95, 98, 117, 102, 102, 101, 114]⟩⟩ [] .none .none .none .none none .none .none 0 0), ⟨[]⟩⟩
noncomputable def o62 (P : Params) : Obj := ⟨(.type "code"), none, (.fields ⟨[(.str ⟨⟨[95, 98, 117, 102, 102, 101, 114]⟩⟩ 357), (.str ⟨⟨[95, 98, 117, 102, 102, 101, 114]⟩⟩ 358), (.str ⟨⟨[47, 99, 108, 97, 105, 109, 47, 99, 117, 116, 46, 112, 121]⟩⟩ 359), (.int 34 0), (.int 1 0), (.int 0 0), (.int 0 0), (.int 3 0), (.ref 72), (.bool true), (.int 276 0), (.ref 73), .none, (.ref 74), (.ref 75), (.ref 76), (.int 362 0), (.int 34 0), (.str ⟨⟨[47, 99, 108, 97, 105, 109, 47, 99, 117, 116, 46, 112, 121]⟩⟩ 363)]⟩), ⟨[]⟩⟩
noncomputable def o63 (P : Params) : Obj := ⟨(.type "function"), none, (fnD 8 ⟨⟨[95, 98, 117, 102, 102, 101, 114]⟩⟩ ⟨⟨[95, 98, 117, 102, 102, 101, 114]⟩⟩ [] .none .none .none (.str ⟨⟨[98, 105, 110, 97, 115, 99, 105, 105]⟩⟩ 329) none (.ref 77) .none 3 0), ⟨[]⟩⟩
noncomputable def o64 (P : Params) : Obj := ⟨(.type "object"), none, .plain, ⟨[]⟩⟩
noncomputable def o65 (P : Params) : Obj := ⟨(.type "tuple"), none, (.seq ⟨[(.ref 79), (.int 1 366)]⟩ 0), ⟨[]⟩⟩
noncomputable def o66 (P : Params) : Obj := ⟨(.type "tuple"), none, (.seq ⟨[(.str ⟨⟨[100, 97, 116, 97]⟩⟩ 370), (.str ⟨⟨[115, 101, 112]⟩⟩ 371), (.str ⟨⟨[98, 121, 116, 101, 115, 95, 112, 101, 114, 95, 115, 101, 112]⟩⟩ 372), (.str ⟨⟨[116]⟩⟩ 373)]⟩ 0), ⟨[]⟩⟩
noncomputable def o67 (P : Params) : Obj := ⟨.none, none, (fnD 10 ⟨⟨[98, 50, 97, 95, 104, 101, 120]⟩⟩ ⟨⟨[98, 50, 97, 95, 104, 101, 120]⟩⟩ [] .none .none .none .none none .none .none 0 0), ⟨[]⟩⟩
noncomputable def o68 (P : Params) : Obj := ⟨(.type "code"), none, (.fields ⟨[(.str ⟨⟨[98, 50, 97, 95, 104, 101, 120]⟩⟩ 367), (.str ⟨⟨[98, 50, 97, 95, 104, 101, 120]⟩⟩ 368), (.str ⟨⟨[47, 99, 108, 97, 105, 109, 47, 99, 117, 116, 46, 112, 121]⟩⟩ 369), (.int 42 0), (.int 3 0), (.int 0 0), (.int 0 0), (.int 3 0), (.ref 81), (.bool true), (.int 276 0), (.ref 82), .none, (.ref 83), (.ref 84), (.ref 85), (.int 374 0), (.int 42 0), (.str ⟨⟨[47, 99, 108, 97, 105, 109, 47, 99, 117, 116, 46, 112, 121]⟩⟩ 375)]⟩), ⟨[]⟩⟩
noncomputable def o69 (P : Params) : Obj := ⟨(.type "function"), none, (fnD 10 ⟨⟨[98, 50, 97, 95, 104, 101, 120]⟩⟩ ⟨⟨[98, 50, 97, 95, 104, 101, 120]⟩⟩ [] (.ref 80) .none .none (.str ⟨⟨[98, 105, 110, 97, 115, 99, 105, 105]⟩⟩ 329) none (.ref 86) .none 3 0), ⟨[]⟩⟩
noncomputable def t23 (P : Params) : BT := (.node (o7 P) (.node (o28 P) (.node (o54 P) .nil .nil) .nil) (.node (o40 P) (.node (o64 P) .nil .nil) .nil))
noncomputable def t24 (P : Params) : BT := (.node (o22 P) (.node (o35 P) (.node (o59 P) .nil .nil) .nil) (.node (o7 P) (.node (o69 P) .nil .nil) .nil))
noncomputable def t25 (P : Params) : BT := (.node (o7 P) (t23 P) (t24 P))
noncomputable def t26 (P : Params) : BT := (.node (o18 P) (.node (o7 P) (.node (o56 P) .nil .nil) .nil) (.node (o43 P) (.node (o66 P) .nil .nil) .nil))
noncomputable def t27 (P : Params) : BT := (.node (o26 P) (.node (o38 P) (.node (o7 P) .nil .nil) .nil) (.node (o7 P) .nil .nil))
noncomputable def t28 (P : Params) : BT := (.node (o11 P) (t26 P) (t27 P))
noncomputable def t29 (P : Params) : BT := (.node (o44 P) (t25 P) (t28 P))
noncomputable def t30 (P : Params) : BT := (.node (o16 P) (.node (o8 P) (.node (o7 P) .nil .nil) .nil) (.node (o41 P) (.node (o7 P) .nil .nil) .nil))
noncomputable def t31 (P : Params) : BT := (.node (o24 P) (.node (o36 P) (.node (o8 P) .nil .nil) .nil) (.node (o49 P) .nil .nil))
noncomputable def t32 (P : Params) : BT := (.node (o9 P) (t30 P) (t31 P))
noncomputable def t33 (P : Params) : BT := (.node (o20 P) (.node (o33 P) (.node (o57 P) .nil .nil) .nil) (.node (o47 P) (.node (o67 P) .nil .nil) .nil))
noncomputable def t34 (P : Params) : BT := (.node (o45 P) (.node (o7 P) (.node (o62 P) .nil .nil) .nil) (.node (o52 P) .nil .nil))
noncomputable def t35 (P : Params) : BT := (.node (o13 P) (t33 P) (t34 P))
noncomputable def t36 (P : Params) : BT := (.node (o5 P) (t32 P) (t35 P))
noncomputable def t37 (P : Params) : BT := (.node (o1 P) (t29 P) (t36 P))
noncomputable def t38 (P : Params) : BT := (.node (o15 P) (.node (o7 P) (.node (o55 P) .nil .nil) .nil) (.node (o7 P) (.node (o65 P) .nil .nil) .nil))
noncomputable def t39 (P : Params) : BT := (.node (o23 P) (.node (o6 P) (.node (o7 P) .nil .nil) .nil) (.node (o8 P) .nil .nil))
noncomputable def t40 (P : Params) : BT := (.node (o8 P) (t38 P) (t39 P))
noncomputable def t41 (P : Params) : BT := (.node (o19 P) (.node (o32 P) (.node (o7 P) .nil .nil) .nil) (.node (o46 P) (.node (o7 P) .nil .nil) .nil))
noncomputable def t42 (P : Params) : BT := (.node (o7 P) (.node (o39 P) (.node (o61 P) .nil .nil) .nil) (.node (o51 P) .nil .nil))
noncomputable def t43 (P : Params) : BT := (.node (o12 P) (t41 P) (t42 P))
noncomputable def t44 (P : Params) : BT := (.node (o4 P) (t40 P) (t43 P))
noncomputable def t45 (P : Params) : BT := (.node (o17 P) (.node (o31 P) (.node (o8 P) .nil .nil) .nil) (.node (o42 P) (.node (o8 P) .nil .nil) .nil))
noncomputable def t46 (P : Params) : BT := (.node (o25 P) (.node (o37 P) (.node (o60 P) .nil .nil) .nil) (.node (o50 P) .nil .nil))
noncomputable def t47 (P : Params) : BT := (.node (o10 P) (t45 P) (t46 P))
noncomputable def t48 (P : Params) : BT := (.node (o21 P) (.node (o34 P) (.node (o58 P) .nil .nil) .nil) (.node (o48 P) (.node (o68 P) .nil .nil) .nil))
noncomputable def t49 (P : Params) : BT := (.node (o27 P) (.node (o8 P) (.node (o63 P) .nil .nil) .nil) (.node (o53 P) .nil .nil))
noncomputable def t50 (P : Params) : BT := (.node (o14 P) (t48 P) (t49 P))
noncomputable def t51 (P : Params) : BT := (.node (o6 P) (t47 P) (t50 P))
noncomputable def t52 (P : Params) : BT := (.node (o2 P) (t44 P) (t51 P))
noncomputable def t53 (P : Params) : BT := (.node (o0 P) (t37 P) (t52 P))
noncomputable def S12 (w : World) (os : OsState) : SharedT := let P := w.params; ⟨(t53 P), 88, life0, ⟨[]⟩, ⟨0, 0, 0, 0⟩, 378, os⟩
noncomputable def dl9 (P : Params) : List DictEntry := [⟨(PyData.keyHash P ⟨⟨[95, 95, 110, 97, 109, 101, 95, 95]⟩⟩), (.str ⟨⟨[95, 95, 110, 97, 109, 101, 95, 95]⟩⟩ 165), (.str ⟨⟨[99, 112, 121, 51, 49, 51, 46, 115, 116, 114, 105, 110, 103, 112, 114, 101, 112]⟩⟩ 416)⟩, ⟨(PyData.keyHash P ⟨⟨[95, 95, 100, 111, 99, 95, 95]⟩⟩), (.str ⟨⟨[95, 95, 100, 111, 99, 95, 95]⟩⟩ 166), .none⟩, ⟨(PyData.keyHash P ⟨⟨[95, 95, 112, 97, 99, 107, 97, 103, 101, 95, 95]⟩⟩), (.str ⟨⟨[95, 95, 112, 97, 99, 107, 97, 103, 101, 95, 95]⟩⟩ 167), .none⟩, ⟨(PyData.keyHash P ⟨⟨[95, 95, 108, 111, 97, 100, 101, 114, 95, 95]⟩⟩), (.str ⟨⟨[95, 95, 108, 111, 97, 100, 101, 114, 95, 95]⟩⟩ 168), (.builtin "__main__.__loader__#opaque")⟩, ⟨(PyData.keyHash P ⟨⟨[95, 95, 115, 112, 101, 99, 95, 95]⟩⟩), (.str ⟨⟨[95, 95, 115, 112, 101, 99, 95, 95]⟩⟩ 169), .none⟩, ⟨(PyData.keyHash P ⟨⟨[95, 95, 97, 110, 110, 111, 116, 97, 116, 105, 111, 110, 115, 95, 95]⟩⟩), (.str ⟨⟨[95, 95, 97, 110, 110, 111, 116, 97, 116, 105, 111, 110, 115, 95, 95]⟩⟩ 170), (.ref 6)⟩, ⟨(PyData.keyHash P ⟨⟨[95, 95, 98, 117, 105, 108, 116, 105, 110, 115, 95, 95]⟩⟩), (.str ⟨⟨[95, 95, 98, 117, 105, 108, 116, 105, 110, 115, 95, 95]⟩⟩ 171), (.ref 4)⟩, ⟨(PyData.keyHash P ⟨⟨[95, 95, 102, 105, 108, 101, 95, 95]⟩⟩), (.str ⟨⟨[95, 95, 102, 105, 108, 101, 95, 95]⟩⟩ 173), (.str ⟨⟨[47, 99, 108, 97, 105, 109, 47, 99, 117, 116, 46, 112, 121]⟩⟩ 172)⟩, ⟨(PyData.keyHash P ⟨⟨[95, 95, 99, 97, 99, 104, 101, 100, 95, 95]⟩⟩), (.str ⟨⟨[95, 95, 99, 97, 99, 104, 101, 100, 95, 95]⟩⟩ 174), .none⟩, ⟨(PyData.keyHash P ⟨⟨[95, 115, 114, 101]⟩⟩), (.str ⟨⟨[95, 115, 114, 101]⟩⟩ 275), (.ref 12)⟩, ⟨(PyData.keyHash P ⟨⟨[95, 119, 97, 108, 108]⟩⟩), (.str ⟨⟨[95, 119, 97, 108, 108]⟩⟩ 288), (.ref 38)⟩, ⟨(PyData.keyHash P ⟨⟨[95, 116, 119, 105, 110, 95, 114, 101, 95, 49]⟩⟩), (.str ⟨⟨[95, 116, 119, 105, 110, 95, 114, 101, 95, 49]⟩⟩ 320), (.ref 43)⟩, ⟨(PyData.keyHash P ⟨⟨[98, 121, 116, 101, 115, 95, 116, 121, 112, 101, 115]⟩⟩), (.str ⟨⟨[98, 121, 116, 101, 115, 95, 116, 121, 112, 101, 115]⟩⟩ 321), (.ref 44)⟩, ⟨(PyData.keyHash P ⟨⟨[95, 98, 121, 116, 101, 115, 95, 102, 114, 111, 109, 95, 100, 101, 99, 111, 100, 101, 95, 100, 97, 116, 97]⟩⟩), (.str ⟨⟨[95, 98, 121, 116, 101, 115, 95, 102, 114, 111, 109, 95, 100, 101, 99, 111, 100, 101, 95, 100, 97, 116, 97]⟩⟩ 328), (.ref 51)⟩, ⟨(PyData.keyHash P ⟨⟨[69, 114, 114, 111, 114]⟩⟩), (.str ⟨⟨[69, 114, 114, 111, 114]⟩⟩ 348), (.ref 61)⟩, ⟨(PyData.keyHash P ⟨⟨[95, 97, 115, 99, 105, 105, 95, 98, 117, 102, 102, 101, 114]⟩⟩), (.str ⟨⟨[95, 97, 115, 99, 105, 105, 95, 98, 117, 102, 102, 101, 114]⟩⟩ 356), (.ref 71)⟩, ⟨(PyData.keyHash P ⟨⟨[95, 98, 117, 102, 102, 101, 114]⟩⟩), (.str ⟨⟨[95, 98, 117, 102, 102, 101, 114]⟩⟩ 364), (.ref 78)⟩, ⟨(PyData.keyHash P ⟨⟨[95, 78, 79, 95, 83, 69, 80]⟩⟩), (.str ⟨⟨[95, 78, 79, 95, 83, 69, 80]⟩⟩ 365), (.ref 79)⟩, ⟨(PyData.keyHash P ⟨⟨[98, 50, 97, 95, 104, 101, 120]⟩⟩), (.str ⟨⟨[98, 50, 97, 95, 104, 101, 120]⟩⟩ 376), (.ref 87)⟩, ⟨(PyData.keyHash P ⟨⟨[104, 101, 120, 108, 105, 102, 121]⟩⟩), (.str ⟨⟨[104, 101, 120, 108, 105, 102, 121]⟩⟩ 377), (.ref 87)⟩, ⟨(PyData.keyHash P ⟨⟨[95, 104, 101, 120, 95, 118, 97, 108, 117, 101]⟩⟩), (.str ⟨⟨[95, 104, 101, 120, 95, 118, 97, 108, 117, 101]⟩⟩ 384), (.ref 94)⟩, ⟨(PyData.keyHash P ⟨⟨[97, 50, 98, 95, 104, 101, 120]⟩⟩), (.str ⟨⟨[97, 50, 98, 95, 104, 101, 120]⟩⟩ 397), (.ref 101)⟩, ⟨(PyData.keyHash P ⟨⟨[117, 110, 104, 101, 120, 108, 105, 102, 121]⟩⟩), (.str ⟨⟨[117, 110, 104, 101, 120, 108, 105, 102, 121]⟩⟩ 398), (.ref 101)⟩, ⟨(PyData.keyHash P ⟨⟨[98, 49, 54, 101, 110, 99, 111, 100, 101]⟩⟩), (.str ⟨⟨[98, 49, 54, 101, 110, 99, 111, 100, 101]⟩⟩ 407), (.ref 108)⟩, ⟨(PyData.keyHash P ⟨⟨[98, 49, 54, 100, 101, 99, 111, 100, 101]⟩⟩), (.str ⟨⟨[98, 49, 54, 100, 101, 99, 111, 100, 101]⟩⟩ 415), (.ref 116)⟩]
noncomputable def o70 (P : Params) : Obj := ⟨(.type "dict"), none, (.dict ⟨dl9 P⟩ 25), ⟨[]⟩⟩
noncomputable def o71 (P : Params) : Obj := ⟨.none, none, (.fields ⟨[(.int 2 0), (.int 0 0), (.ref 37), (.int 8 0), (.int 0 0), (.ref 50), (.int 21 0), (.int 0 0), (.ref 57), (.int 23 0), (.int 0 0), (.ref 70), (.int 34 0), (.int 0 0), (.ref 77), (.int 42 0), (.int 0 0), (.ref 86), (.int 59 0), (.int 0 0), (.ref 93), (.int 67 0), (.int 0 0), (.ref 100), (.int 84 0), (.int 0 0), (.ref 107), (.int 86 0), (.int 0 0), (.ref 115)]⟩), ⟨[]⟩⟩
noncomputable def o72 (P : Params) : Obj := ⟨(.type "tuple"), none, (.seq ⟨[(.str ⟨⟨[99]⟩⟩ 381)]⟩ 0), ⟨[]⟩⟩
noncomputable def o73 (P : Params) : Obj := ⟨.none, none, (fnD 12 ⟨⟨[95, 104, 101, 120, 95, 118, 97, 108, 117, 101]⟩⟩ ⟨⟨[95, 104, 101, 120, 95, 118, 97, 108, 117, 101]⟩⟩ [] .none .none .none .none none .none .none 0 0), ⟨[]⟩⟩
noncomputable def o74 (P : Params) : Obj := ⟨(.type "code"), none, (.fields ⟨[(.str ⟨⟨[95, 104, 101, 120, 95, 118, 97, 108, 117, 101]⟩⟩ 378), (.str ⟨⟨[95, 104, 101, 120, 95, 118, 97, 108, 117, 101]⟩⟩ 379), (.str ⟨⟨[47, 99, 108, 97, 105, 109, 47, 99, 117, 116, 46, 112, 121]⟩⟩ 380), (.int 59 0), (.int 1 0), (.int 0 0), (.int 0 0), (.int 3 0), (.ref 88), (.bool true), (.int 276 0), (.ref 89), .none, (.ref 90), (.ref 91), (.ref 92), (.int 382 0), (.int 59 0), (.str ⟨⟨[47, 99, 108, 97, 105, 109, 47, 99, 117, 116, 46, 112, 121]⟩⟩ 383)]⟩), ⟨[]⟩⟩
noncomputable def o75 (P : Params) : Obj := ⟨(.type "function"), none, (fnD 12 ⟨⟨[95, 104, 101, 120, 95, 118, 97, 108, 117, 101]⟩⟩ ⟨⟨[95, 104, 101, 120, 95, 118, 97, 108, 117, 101]⟩⟩ [] .none .none .none (.str ⟨⟨[98, 105, 110, 97, 115, 99, 105, 105]⟩⟩ 329) none (.ref 93) .none 3 0), ⟨[]⟩⟩
noncomputable def o76 (P : Params) : Obj := ⟨(.type "tuple"), none, (.seq ⟨[(.str ⟨⟨[104, 101, 120, 115, 116, 114]⟩⟩ 388), (.str ⟨⟨[97, 114, 103, 98, 117, 102]⟩⟩ 389), (.str ⟨⟨[97, 114, 103, 108, 101, 110]⟩⟩ 390), (.str ⟨⟨[111, 117, 116]⟩⟩ 391), (.str ⟨⟨[105]⟩⟩ 392), (.str ⟨⟨[116, 111, 112]⟩⟩ 393), (.str ⟨⟨[98, 111, 116]⟩⟩ 394)]⟩ 0), ⟨[]⟩⟩
noncomputable def o77 (P : Params) : Obj := ⟨.none, none, (fnD 13 ⟨⟨[97, 50, 98, 95, 104, 101, 120]⟩⟩ ⟨⟨[97, 50, 98, 95, 104, 101, 120]⟩⟩ [] .none .none .none .none none .none .none 0 0), ⟨[]⟩⟩
noncomputable def o78 (P : Params) : Obj := ⟨(.type "code"), none, (.fields ⟨[(.str ⟨⟨[97, 50, 98, 95, 104, 101, 120]⟩⟩ 385), (.str ⟨⟨[97, 50, 98, 95, 104, 101, 120]⟩⟩ 386), (.str ⟨⟨[47, 99, 108, 97, 105, 109, 47, 99, 117, 116, 46, 112, 121]⟩⟩ 387), (.int 67 0), (.int 1 0), (.int 1 0), (.int 0 0), (.int 3 0), (.ref 95), (.bool true), (.int 276 0), (.ref 96), .none, (.ref 97), (.ref 98), (.ref 99), (.int 395 0), (.int 67 0), (.str ⟨⟨[47, 99, 108, 97, 105, 109, 47, 99, 117, 116, 46, 112, 121]⟩⟩ 396)]⟩), ⟨[]⟩⟩
noncomputable def o79 (P : Params) : Obj := ⟨(.type "function"), none, (fnD 13 ⟨⟨[97, 50, 98, 95, 104, 101, 120]⟩⟩ ⟨⟨[97, 50, 98, 95, 104, 101, 120]⟩⟩ [] .none .none .none (.str ⟨⟨[98, 105, 110, 97, 115, 99, 105, 105]⟩⟩ 329) none (.ref 100) .none 3 0), ⟨[]⟩⟩
noncomputable def o80 (P : Params) : Obj := ⟨(.type "tuple"), none, (.seq ⟨[(.str ⟨⟨[115]⟩⟩ 404)]⟩ 0), ⟨[]⟩⟩
noncomputable def o81 (P : Params) : Obj := ⟨.none, none, (fnD 16 ⟨⟨[98, 49, 54, 101, 110, 99, 111, 100, 101]⟩⟩ ⟨⟨[98, 49, 54, 101, 110, 99, 111, 100, 101]⟩⟩ [] .none .none .none .none none .none .none 0 0), ⟨[]⟩⟩
noncomputable def o82 (P : Params) : Obj := ⟨(.type "code"), none, (.fields ⟨[(.str ⟨⟨[98, 49, 54, 101, 110, 99, 111, 100, 101]⟩⟩ 401), (.str ⟨⟨[98, 49, 54, 101, 110, 99, 111, 100, 101]⟩⟩ 402), (.str ⟨⟨[47, 99, 108, 97, 105, 109, 47, 99, 117, 116, 46, 112, 121]⟩⟩ 403), (.int 84 0), (.int 1 0), (.int 0 0), (.int 0 0), (.int 3 0), (.ref 102), (.bool true), (.int 276 0), (.ref 103), .none, (.ref 104), (.ref 105), (.ref 106), (.int 405 0), (.int 84 0), (.str ⟨⟨[47, 99, 108, 97, 105, 109, 47, 99, 117, 116, 46, 112, 121]⟩⟩ 406)]⟩), ⟨[]⟩⟩
noncomputable def o83 (P : Params) : Obj := ⟨(.type "function"), none, (fnD 16 ⟨⟨[98, 49, 54, 101, 110, 99, 111, 100, 101]⟩⟩ ⟨⟨[98, 49, 54, 101, 110, 99, 111, 100, 101]⟩⟩ [] .none .none .none (.str ⟨⟨[99, 112, 121, 51, 49, 51, 46, 98, 97, 115, 101, 54, 52]⟩⟩ 399) none (.ref 107) .none 3 0), ⟨[]⟩⟩
noncomputable def o84 (P : Params) : Obj := ⟨(.type "tuple"), none, (.seq ⟨[(.bool false)]⟩ 0), ⟨[]⟩⟩
noncomputable def o85 (P : Params) : Obj := ⟨(.type "tuple"), none, (.seq ⟨[(.str ⟨⟨[115]⟩⟩ 411), (.str ⟨⟨[99, 97, 115, 101, 102, 111, 108, 100]⟩⟩ 412)]⟩ 0), ⟨[]⟩⟩
noncomputable def o86 (P : Params) : Obj := ⟨.none, none, (fnD 17 ⟨⟨[98, 49, 54, 100, 101, 99, 111, 100, 101]⟩⟩ ⟨⟨[98, 49, 54, 100, 101, 99, 111, 100, 101]⟩⟩ [] .none .none .none .none none .none .none 0 0), ⟨[]⟩⟩
noncomputable def o87 (P : Params) : Obj := ⟨(.type "code"), none, (.fields ⟨[(.str ⟨⟨[98, 49, 54, 100, 101, 99, 111, 100, 101]⟩⟩ 408), (.str ⟨⟨[98, 49, 54, 100, 101, 99, 111, 100, 101]⟩⟩ 409), (.str ⟨⟨[47, 99, 108, 97, 105, 109, 47, 99, 117, 116, 46, 112, 121]⟩⟩ 410), (.int 86 0), (.int 2 0), (.int 0 0), (.int 0 0), (.int 3 0), (.ref 110), (.bool true), (.int 276 0), (.ref 111), .none, (.ref 112), (.ref 113), (.ref 114), (.int 413 0), (.int 86 0), (.str ⟨⟨[47, 99, 108, 97, 105, 109, 47, 99, 117, 116, 46, 112, 121]⟩⟩ 414)]⟩), ⟨[]⟩⟩
noncomputable def o88 (P : Params) : Obj := ⟨(.type "function"), none, (fnD 17 ⟨⟨[98, 49, 54, 100, 101, 99, 111, 100, 101]⟩⟩ ⟨⟨[98, 49, 54, 100, 101, 99, 111, 100, 101]⟩⟩ [] (.ref 109) .none .none (.str ⟨⟨[99, 112, 121, 51, 49, 51, 46, 98, 97, 115, 101, 54, 52]⟩⟩ 399) none (.ref 115) .none 3 0), ⟨[]⟩⟩
noncomputable def t54 (P : Params) : BT := (.node (o7 P) (.node (o28 P) (.node (o54 P) .nil .nil) (.node (o7 P) .nil .nil)) (.node (o40 P) (.node (o64 P) .nil .nil) (.node (o8 P) .nil .nil)))
noncomputable def t55 (P : Params) : BT := (.node (o22 P) (.node (o35 P) (.node (o59 P) .nil .nil) (.node (o8 P) .nil .nil)) (.node (o7 P) (.node (o69 P) .nil .nil) .nil))
noncomputable def t56 (P : Params) : BT := (.node (o7 P) (t54 P) (t55 P))
noncomputable def t57 (P : Params) : BT := (.node (o18 P) (.node (o7 P) (.node (o56 P) .nil .nil) (.node (o77 P) .nil .nil)) (.node (o43 P) (.node (o66 P) .nil .nil) (.node (o87 P) .nil .nil)))
noncomputable def t58 (P : Params) : BT := (.node (o26 P) (.node (o38 P) (.node (o7 P) .nil .nil) (.node (o82 P) .nil .nil)) (.node (o7 P) (.node (o7 P) .nil .nil) .nil))
noncomputable def t59 (P : Params) : BT := (.node (o11 P) (t57 P) (t58 P))
noncomputable def t60 (P : Params) : BT := (.node (o70 P) (t56 P) (t59 P))
noncomputable def t61 (P : Params) : BT := (.node (o16 P) (.node (o8 P) (.node (o7 P) .nil .nil) (.node (o76 P) .nil .nil)) (.node (o41 P) (.node (o7 P) .nil .nil) (.node (o7 P) .nil .nil)))
noncomputable def t62 (P : Params) : BT := (.node (o24 P) (.node (o36 P) (.node (o8 P) .nil .nil) (.node (o7 P) .nil .nil)) (.node (o49 P) (.node (o8 P) .nil .nil) .nil))
noncomputable def t63 (P : Params) : BT := (.node (o9 P) (t61 P) (t62 P))
noncomputable def t64 (P : Params) : BT := (.node (o20 P) (.node (o33 P) (.node (o57 P) .nil .nil) (.node (o79 P) .nil .nil)) (.node (o47 P) (.node (o67 P) .nil .nil) .nil))
noncomputable def t65 (P : Params) : BT := (.node (o71 P) (.node (o7 P) (.node (o62 P) .nil .nil) (.node (o84 P) .nil .nil)) (.node (o52 P) (.node (o74 P) .nil .nil) .nil))
noncomputable def t66 (P : Params) : BT := (.node (o13 P) (t64 P) (t65 P))
noncomputable def t67 (P : Params) : BT := (.node (o5 P) (t63 P) (t66 P))
noncomputable def t68 (P : Params) : BT := (.node (o1 P) (t60 P) (t67 P))
noncomputable def t69 (P : Params) : BT := (.node (o15 P) (.node (o7 P) (.node (o55 P) .nil .nil) (.node (o8 P) .nil .nil)) (.node (o7 P) (.node (o65 P) .nil .nil) (.node (o85 P) .nil .nil)))
noncomputable def t70 (P : Params) : BT := (.node (o23 P) (.node (o6 P) (.node (o7 P) .nil .nil) (.node (o80 P) .nil .nil)) (.node (o8 P) (.node (o7 P) .nil .nil) .nil))
noncomputable def t71 (P : Params) : BT := (.node (o8 P) (t69 P) (t70 P))
noncomputable def t72 (P : Params) : BT := (.node (o19 P) (.node (o32 P) (.node (o7 P) .nil .nil) (.node (o78 P) .nil .nil)) (.node (o46 P) (.node (o7 P) .nil .nil) (.node (o88 P) .nil .nil)))
noncomputable def t73 (P : Params) : BT := (.node (o7 P) (.node (o39 P) (.node (o61 P) .nil .nil) (.node (o83 P) .nil .nil)) (.node (o51 P) (.node (o73 P) .nil .nil) .nil))
noncomputable def t74 (P : Params) : BT := (.node (o12 P) (t72 P) (t73 P))
noncomputable def t75 (P : Params) : BT := (.node (o4 P) (t71 P) (t74 P))
noncomputable def t76 (P : Params) : BT := (.node (o17 P) (.node (o31 P) (.node (o8 P) .nil .nil) (.node (o7 P) .nil .nil)) (.node (o42 P) (.node (o8 P) .nil .nil) (.node (o86 P) .nil .nil)))
noncomputable def t77 (P : Params) : BT := (.node (o25 P) (.node (o37 P) (.node (o60 P) .nil .nil) (.node (o81 P) .nil .nil)) (.node (o50 P) (.node (o72 P) .nil .nil) .nil))
noncomputable def t78 (P : Params) : BT := (.node (o10 P) (t76 P) (t77 P))
noncomputable def t79 (P : Params) : BT := (.node (o21 P) (.node (o34 P) (.node (o58 P) .nil .nil) (.node (o7 P) .nil .nil)) (.node (o48 P) (.node (o68 P) .nil .nil) .nil))
noncomputable def t80 (P : Params) : BT := (.node (o27 P) (.node (o8 P) (.node (o63 P) .nil .nil) (.node (o7 P) .nil .nil)) (.node (o53 P) (.node (o75 P) .nil .nil) .nil))
noncomputable def t81 (P : Params) : BT := (.node (o14 P) (t79 P) (t80 P))
noncomputable def t82 (P : Params) : BT := (.node (o6 P) (t78 P) (t81 P))
noncomputable def t83 (P : Params) : BT := (.node (o2 P) (t75 P) (t82 P))
noncomputable def t84 (P : Params) : BT := (.node (o0 P) (t68 P) (t83 P))
noncomputable def S19 (w : World) (os : OsState) : SharedT := let P := w.params; ⟨(t84 P), 117, life0, ⟨[]⟩, ⟨0, 0, 0, 0⟩, 418, os⟩
noncomputable def o89 (P : Params) : Obj := ⟨(.type "list"), none, (.seq ⟨[(.int 173 418), (.int 847 419), (.int 6150 420), (.int 6155 421), (.int 6156 422), (.int 6157 423), (.int 8203 424), (.int 8204 425), (.int 8205 426), (.int 8288 427), (.int 65279 428)]⟩ 0), ⟨[]⟩⟩
noncomputable def o90 (P : Params) : Obj := ⟨(.type "range"), none, (.fields ⟨[(.int 65024 429), (.int 65040 430), (.int 1 431)]⟩), ⟨[]⟩⟩
noncomputable def o91 (P : Params) : Obj := ⟨(.type "list"), none, (.seq ⟨[(.int 65024 434), (.int 65025 435), (.int 65026 436), (.int 65027 437), (.int 65028 438), (.int 65029 439), (.int 65030 440), (.int 65031 441), (.int 65032 442), (.int 65033 443), (.int 65034 444), (.int 65035 445), (.int 65036 446), (.int 65037 447), (.int 65038 448), (.int 65039 449)]⟩ 18), ⟨[]⟩⟩
noncomputable def o92 (P : Params) : Obj := ⟨(.type "range_iterator"), none, (.fields ⟨[(.int 65040 0), (.int 0 0), (.int 1 0)]⟩), ⟨[]⟩⟩
noncomputable def o93 (P : Params) : Obj := ⟨(.type "StopIteration"), none, (.fields ⟨[(.ref 121), .none, .none, .none, (.bool false), .none]⟩), ⟨[]⟩⟩
noncomputable def o94 (P : Params) : Obj := ⟨(.type "list"), none, (.seq ⟨[(.int 173 418), (.int 847 419), (.int 6150 420), (.int 6155 421), (.int 6156 422), (.int 6157 423), (.int 8203 424), (.int 8204 425), (.int 8205 426), (.int 8288 427), (.int 65279 428), (.int 65024 434), (.int 65025 435), (.int 65026 436), (.int 65027 437), (.int 65028 438), (.int 65029 439), (.int 65030 440), (.int 65031 441), (.int 65032 442), (.int 65033 443), (.int 65034 444), (.int 65035 445), (.int 65036 446), (.int 65037 447), (.int 65038 448), (.int 65039 449)]⟩ 0), ⟨[]⟩⟩
noncomputable def o95 (led : Bool) (P : Params) : Obj := ⟨(.type "set"), none, (.set ⟨[]⟩ 0 ⟨7, ⟨[]⟩, ⟨[]⟩, 0, led, 0, true⟩), ⟨[]⟩⟩
noncomputable def t85 (P : Params) : BT := (.node (o22 P) (.node (o35 P) (.node (o59 P) .nil .nil) (.node (o8 P) .nil .nil)) (.node (o7 P) (.node (o69 P) .nil .nil) (.node (o91 P) .nil .nil)))
noncomputable def t86 (P : Params) : BT := (.node (o7 P) (t54 P) (t85 P))
noncomputable def t87 (P : Params) : BT := (.node (o26 P) (.node (o38 P) (.node (o7 P) .nil .nil) (.node (o82 P) .nil .nil)) (.node (o7 P) (.node (o7 P) .nil .nil) (.node (o94 P) .nil .nil)))
noncomputable def t88 (P : Params) : BT := (.node (o11 P) (t57 P) (t87 P))
noncomputable def t89 (P : Params) : BT := (.node (o70 P) (t86 P) (t88 P))
noncomputable def t90 (P : Params) : BT := (.node (o24 P) (.node (o36 P) (.node (o8 P) .nil .nil) (.node (o7 P) .nil .nil)) (.node (o49 P) (.node (o8 P) .nil .nil) (.node (o7 P) .nil .nil)))
noncomputable def t91 (P : Params) : BT := (.node (o9 P) (t61 P) (t90 P))
noncomputable def t92 (P : Params) : BT := (.node (o20 P) (.node (o33 P) (.node (o57 P) .nil .nil) (.node (o79 P) .nil .nil)) (.node (o47 P) (.node (o67 P) .nil .nil) (.node (o89 P) .nil .nil)))
noncomputable def t93 (P : Params) : BT := (.node (o13 P) (t92 P) (t65 P))
noncomputable def t94 (P : Params) : BT := (.node (o5 P) (t91 P) (t93 P))
noncomputable def t95 (P : Params) : BT := (.node (o1 P) (t89 P) (t94 P))
noncomputable def t96 (P : Params) : BT := (.node (o23 P) (.node (o6 P) (.node (o7 P) .nil .nil) (.node (o80 P) .nil .nil)) (.node (o8 P) (.node (o7 P) .nil .nil) (.node (o92 P) .nil .nil)))
noncomputable def t97 (P : Params) : BT := (.node (o8 P) (t69 P) (t96 P))
noncomputable def t98 (led : Bool) (P : Params) : BT := (.node (o7 P) (.node (o39 P) (.node (o61 P) .nil .nil) (.node (o83 P) .nil .nil)) (.node (o51 P) (.node (o73 P) .nil .nil) (.node (o95 led P) .nil .nil)))
noncomputable def t99 (led : Bool) (P : Params) : BT := (.node (o12 P) (t72 P) (t98 led P))
noncomputable def t100 (led : Bool) (P : Params) : BT := (.node (o4 P) (t97 P) (t99 led P))
noncomputable def t101 (P : Params) : BT := (.node (o25 P) (.node (o37 P) (.node (o60 P) .nil .nil) (.node (o81 P) .nil .nil)) (.node (o50 P) (.node (o72 P) .nil .nil) (.node (o93 P) .nil .nil)))
noncomputable def t102 (P : Params) : BT := (.node (o10 P) (t76 P) (t101 P))
noncomputable def t103 (P : Params) : BT := (.node (o21 P) (.node (o34 P) (.node (o58 P) .nil .nil) (.node (o7 P) .nil .nil)) (.node (o48 P) (.node (o68 P) .nil .nil) (.node (o90 P) .nil .nil)))
noncomputable def t104 (P : Params) : BT := (.node (o14 P) (t103 P) (t80 P))
noncomputable def t105 (P : Params) : BT := (.node (o6 P) (t102 P) (t104 P))
noncomputable def t106 (led : Bool) (P : Params) : BT := (.node (o2 P) (t100 led P) (t105 P))
noncomputable def t107 (led : Bool) (P : Params) : BT := (.node (o0 P) (t95 P) (t106 led P))
noncomputable def S19c0 (led : Bool) (w : World) (os : OsState) : SharedT := let P := w.params; ⟨(t107 led P), 125, life0, ⟨[]⟩, ⟨0, 0, 0, 0⟩, 450, os⟩
noncomputable def r19x0 (w : World) (os : OsState) : Option (SharedT × Thread) := PySem.W.Fast.tw10295753902157049106 PySem.W.Fast.tw14364793385576792824 prog w 28 ann 1 413 (S19 w os) (piecesOf [stm 19] env cE ⟨93, 0, 93, 8⟩ [topFrame qE])
noncomputable def th19c0 (w : World) (os : OsState) : Thread := ⟨PySem.W.Fast.tw11892475500146522536 PySem.W.Fast.tw14364793385576792824 (.builtin "set.__init__" ⟨[(.ref 124), (.ref 123)], []⟩), (.builtin "set.__init__" ⟨[(.ref 124), (.ref 123)], []⟩), ⟨94, 9, 94, 107⟩, [.ret (kq (r19x0 w os) 0) none false [(.ref 124), (.ref 124), (.ref 123)] (.builtin "type.__call__" ⟨[(.type "set"), (.ref 123)], []⟩) ⟨94, 9, 94, 107⟩ [(.builtin "set.__init__"), (.ref 124), (.ref 123), (.builtin "set.__init__"), (.ref 124), (.ref 123)], .ret (kq (r19x0 w os) 1) none false [] cE ⟨94, 9, 94, 107⟩ [(.type "set"), (.ref 123)], topFrame qE]⟩
noncomputable def o96 (led : Bool) (P : Params) : Obj := ⟨(.type "set"), none, (.set ⟨[(6150, (.int 6150 420)), (6155, (.int 6155 421)), (6156, (.int 6156 422)), (173, (.int 173 418)), (6157, (.int 6157 423)), (847, (.int 847 419)), (8203, (.int 8203 424)), (8204, (.int 8204 425)), (8205, (.int 8205 426))]⟩ 10 ⟨31, ⟨[6, 11, 12, 13, 14, 15, 16, 17, 18]⟩, ⟨[]⟩, 0, led, 1, true⟩), ⟨[]⟩⟩
noncomputable def o97 (P : Params) : Obj := ⟨(.type "list_iterator"), none, (.fields ⟨[(.ref 123), (.int 9 0)]⟩), ⟨[]⟩⟩
noncomputable def t108 (P : Params) : BT := (.node (o71 P) (.node (o7 P) (.node (o62 P) .nil .nil) (.node (o84 P) .nil .nil)) (.node (o52 P) (.node (o74 P) .nil .nil) (.node (o97 P) .nil .nil)))
noncomputable def t109 (P : Params) : BT := (.node (o13 P) (t92 P) (t108 P))
noncomputable def t110 (P : Params) : BT := (.node (o5 P) (t91 P) (t109 P))
noncomputable def t111 (P : Params) : BT := (.node (o1 P) (t89 P) (t110 P))
noncomputable def t112 (led : Bool) (P : Params) : BT := (.node (o7 P) (.node (o39 P) (.node (o61 P) .nil .nil) (.node (o83 P) .nil .nil)) (.node (o51 P) (.node (o73 P) .nil .nil) (.node (o96 led P) .nil .nil)))
noncomputable def t113 (led : Bool) (P : Params) : BT := (.node (o12 P) (t72 P) (t112 led P))
noncomputable def t114 (led : Bool) (P : Params) : BT := (.node (o4 P) (t97 P) (t113 led P))
noncomputable def t115 (led : Bool) (P : Params) : BT := (.node (o2 P) (t114 led P) (t105 P))
noncomputable def t116 (led : Bool) (P : Params) : BT := (.node (o0 P) (t111 P) (t115 led P))
noncomputable def S19c1 (led : Bool) (w : World) (os : OsState) : SharedT := let P := w.params; ⟨(t116 led P), 126, life0, ⟨[]⟩, ⟨0, 0, 0, 0⟩, 459, os⟩
noncomputable def r19x1 (led : Bool) (w : World) (os : OsState) : Option (SharedT × Thread) := PySem.W.Fast.tw10295753902157049106 PySem.W.Fast.tw14364793385576792824 prog w 28 ann 1 197 (S19c0 led w os) (th19c0 w os)
noncomputable def th19c1 (led : Bool) (w : World) (os : OsState) : Thread := ⟨PySem.W.Fast.tw11892475500146522536 PySem.W.Fast.tw14364793385576792824 (.builtin "set.update.loop" ⟨[(.ref 124), (.ref 125)], []⟩), (.builtin "set.update.loop" ⟨[(.ref 124), (.ref 125)], []⟩), ⟨94, 9, 94, 107⟩, [.ret (kq (r19x1 led w os) 0) none false [] (.builtin "set.__init__" ⟨[(.ref 124), (.ref 123)], []⟩) ⟨94, 9, 94, 107⟩ [(.ref 124), (.ref 125)], .ret (kq (r19x1 led w os) 1) none false [(.ref 124), (.ref 124), (.ref 123)] (.builtin "type.__call__" ⟨[(.type "set"), (.ref 123)], []⟩) ⟨94, 9, 94, 107⟩ [(.builtin "set.__init__"), (.ref 124), (.ref 123), (.builtin "set.__init__"), (.ref 124), (.ref 123)], .ret (kq (r19x1 led w os) 2) none false [] cE ⟨94, 9, 94, 107⟩ [(.type "set"), (.ref 123)], topFrame qE]⟩
noncomputable def o98 (led : Bool) (P : Params) : Obj := ⟨(.type "set"), none, (.set ⟨[(65024, (.int 65024 434)), (65025, (.int 65025 435)), (65026, (.int 65026 436)), (65027, (.int 65027 437)), (65028, (.int 65028 438)), (65029, (.int 65029 439)), (6150, (.int 6150 420)), (65030, (.int 65030 440)), (65031, (.int 65031 441)), (6155, (.int 6155 421)), (6156, (.int 6156 422)), (6157, (.int 6157 423)), (8203, (.int 8203 424)), (8204, (.int 8204 425)), (8205, (.int 8205 426)), (173, (.int 173 418)), (847, (.int 847 419)), (8288, (.int 8288 427)), (65279, (.int 65279 428))]⟩ 21 ⟨127, ⟨[0, 1, 2, 3, 4, 5, 6, 7, 8, 11, 12, 13, 14, 15, 16, 45, 79, 96, 127]⟩, ⟨[]⟩, 0, led, 2, true⟩), ⟨[]⟩⟩
noncomputable def o99 (P : Params) : Obj := ⟨(.type "list_iterator"), none, (.fields ⟨[(.ref 123), (.int 19 0)]⟩), ⟨[]⟩⟩
noncomputable def t117 (P : Params) : BT := (.node (o71 P) (.node (o7 P) (.node (o62 P) .nil .nil) (.node (o84 P) .nil .nil)) (.node (o52 P) (.node (o74 P) .nil .nil) (.node (o99 P) .nil .nil)))
noncomputable def t118 (P : Params) : BT := (.node (o13 P) (t92 P) (t117 P))
noncomputable def t119 (P : Params) : BT := (.node (o5 P) (t91 P) (t118 P))
noncomputable def t120 (P : Params) : BT := (.node (o1 P) (t89 P) (t119 P))
noncomputable def t121 (led : Bool) (P : Params) : BT := (.node (o7 P) (.node (o39 P) (.node (o61 P) .nil .nil) (.node (o83 P) .nil .nil)) (.node (o51 P) (.node (o73 P) .nil .nil) (.node (o98 led P) .nil .nil)))
noncomputable def t122 (led : Bool) (P : Params) : BT := (.node (o12 P) (t72 P) (t121 led P))
noncomputable def t123 (led : Bool) (P : Params) : BT := (.node (o4 P) (t97 P) (t122 led P))
noncomputable def t124 (led : Bool) (P : Params) : BT := (.node (o2 P) (t123 led P) (t105 P))
noncomputable def t125 (led : Bool) (P : Params) : BT := (.node (o0 P) (t120 P) (t124 led P))
noncomputable def S19c2 (led : Bool) (w : World) (os : OsState) : SharedT := let P := w.params; ⟨(t125 led P), 126, life0, ⟨[]⟩, ⟨0, 0, 0, 0⟩, 469, os⟩
noncomputable def th19c2 (led : Bool) (w : World) (os : OsState) : Thread := ⟨PySem.W.Fast.tw11892475500146522536 PySem.W.Fast.tw14364793385576792824 (.builtin "set.update.loop" ⟨[(.ref 124), (.ref 125)], []⟩), (.builtin "set.update.loop" ⟨[(.ref 124), (.ref 125)], []⟩), ⟨94, 9, 94, 107⟩, [.ret (kq (r19x1 led w os) 0) none false [] (.builtin "set.__init__" ⟨[(.ref 124), (.ref 123)], []⟩) ⟨94, 9, 94, 107⟩ [(.ref 124), (.ref 125)], .ret (kq (r19x1 led w os) 1) none false [(.ref 124), (.ref 124), (.ref 123)] (.builtin "type.__call__" ⟨[(.type "set"), (.ref 123)], []⟩) ⟨94, 9, 94, 107⟩ [(.builtin "set.__init__"), (.ref 124), (.ref 123), (.builtin "set.__init__"), (.ref 124), (.ref 123)], .ret (kq (r19x1 led w os) 2) none false [] cE ⟨94, 9, 94, 107⟩ [(.type "set"), (.ref 123)], topFrame qE]⟩
noncomputable def dl10 (P : Params) : List DictEntry := dl9 P ++ [⟨(PyData.keyHash P ⟨⟨[98, 49, 95, 115, 101, 116]⟩⟩), (.str ⟨⟨[98, 49, 95, 115, 101, 116]⟩⟩ 477), (.ref 124)⟩]
noncomputable def o100 (P : Params) : Obj := ⟨(.type "dict"), none, (.dict ⟨dl10 P⟩ 26), ⟨[]⟩⟩
noncomputable def o101 (led : Bool) (P : Params) : Obj := ⟨(.type "set"), none, (.set ⟨[(65024, (.int 65024 434)), (65025, (.int 65025 435)), (65026, (.int 65026 436)), (65027, (.int 65027 437)), (65028, (.int 65028 438)), (65029, (.int 65029 439)), (6150, (.int 6150 420)), (65030, (.int 65030 440)), (65031, (.int 65031 441)), (65032, (.int 65032 442)), (65033, (.int 65033 443)), (6155, (.int 6155 421)), (6156, (.int 6156 422)), (6157, (.int 6157 423)), (8203, (.int 8203 424)), (8204, (.int 8204 425)), (8205, (.int 8205 426)), (65034, (.int 65034 444)), (65035, (.int 65035 445)), (65036, (.int 65036 446)), (65037, (.int 65037 447)), (65038, (.int 65038 448)), (65039, (.int 65039 449)), (173, (.int 173 418)), (847, (.int 847 419)), (8288, (.int 8288 427)), (65279, (.int 65279 428))]⟩ 29 ⟨127, ⟨[0, 1, 2, 3, 4, 5, 6, 7, 8, 9, 10, 11, 12, 13, 14, 15, 16, 17, 18, 19, 20, 21, 22, 45, 79, 96, 127]⟩, ⟨[]⟩, 0, led, 2, true⟩), ⟨[]⟩⟩
noncomputable def o102 (P : Params) : Obj := ⟨(.type "list_iterator"), none, (.fields ⟨[.none, (.int 27 0)]⟩), ⟨[]⟩⟩
noncomputable def o103 (P : Params) : Obj := ⟨(.type "StopIteration"), none, (.fields ⟨[(.ref 126), .none, .none, .none, (.bool false), .none]⟩), ⟨[]⟩⟩
noncomputable def t126 (P : Params) : BT := (.node (o28 P) (.node (o54 P) (.node (o103 P) .nil .nil) .nil) (.node (o7 P) .nil .nil))
noncomputable def t127 (P : Params) : BT := (.node (o7 P) (t126 P) (.node (o40 P) (.node (o64 P) .nil .nil) (.node (o8 P) .nil .nil)))
noncomputable def t128 (P : Params) : BT := (.node (o7 P) (t127 P) (t85 P))
noncomputable def t129 (P : Params) : BT := (.node (o100 P) (t128 P) (t88 P))
noncomputable def t130 (P : Params) : BT := (.node (o71 P) (.node (o7 P) (.node (o62 P) .nil .nil) (.node (o84 P) .nil .nil)) (.node (o52 P) (.node (o74 P) .nil .nil) (.node (o102 P) .nil .nil)))
noncomputable def t131 (P : Params) : BT := (.node (o13 P) (t92 P) (t130 P))
noncomputable def t132 (P : Params) : BT := (.node (o5 P) (t91 P) (t131 P))
noncomputable def t133 (P : Params) : BT := (.node (o1 P) (t129 P) (t132 P))
noncomputable def t134 (led : Bool) (P : Params) : BT := (.node (o7 P) (.node (o39 P) (.node (o61 P) .nil .nil) (.node (o83 P) .nil .nil)) (.node (o51 P) (.node (o73 P) .nil .nil) (.node (o101 led P) .nil .nil)))
noncomputable def t135 (led : Bool) (P : Params) : BT := (.node (o12 P) (t72 P) (t134 led P))
noncomputable def t136 (led : Bool) (P : Params) : BT := (.node (o4 P) (t97 P) (t135 led P))
noncomputable def t137 (P : Params) : BT := (.node (o27 P) (.node (o8 P) (.node (o63 P) .nil .nil) (.node (o7 P) .nil .nil)) (.node (o53 P) (.node (o75 P) .nil .nil) (.node (o7 P) .nil .nil)))
noncomputable def t138 (P : Params) : BT := (.node (o14 P) (t103 P) (t137 P))
noncomputable def t139 (P : Params) : BT := (.node (o6 P) (t102 P) (t138 P))
noncomputable def t140 (led : Bool) (P : Params) : BT := (.node (o2 P) (t136 led P) (t139 P))
noncomputable def t141 (led : Bool) (P : Params) : BT := (.node (o0 P) (t133 P) (t140 led P))
noncomputable def S20L (led : Bool) (w : World) (os : OsState) : SharedT := let P := w.params; ⟨(t141 led P), 128, life0, ⟨[]⟩, ⟨0, 0, 0, 0⟩, 478, os⟩
noncomputable def o104 (P : Params) : Obj := ⟨(.type "set"), none, (.set ⟨[(65024, (.int 65024 434)), (65025, (.int 65025 435)), (65026, (.int 65026 436)), (65027, (.int 65027 437)), (65028, (.int 65028 438)), (65029, (.int 65029 439)), (6150, (.int 6150 420)), (65030, (.int 65030 440)), (65031, (.int 65031 441)), (65032, (.int 65032 442)), (65033, (.int 65033 443)), (6155, (.int 6155 421)), (6156, (.int 6156 422)), (6157, (.int 6157 423)), (8203, (.int 8203 424)), (8204, (.int 8204 425)), (8205, (.int 8205 426)), (65034, (.int 65034 444)), (65035, (.int 65035 445)), (65036, (.int 65036 446)), (65037, (.int 65037 447)), (65038, (.int 65038 448)), (65039, (.int 65039 449)), (173, (.int 173 418)), (847, (.int 847 419)), (8288, (.int 8288 427)), (65279, (.int 65279 428))]⟩ 29 ⟨127, ⟨[0, 1, 2, 3, 4, 5, 6, 7, 8, 9, 10, 11, 12, 13, 14, 15, 16, 17, 18, 19, 20, 21, 22, 45, 79, 96, 127]⟩, ⟨[]⟩, 0, (!P.followText "set-order"), 2, true⟩), ⟨[]⟩⟩
noncomputable def t142 (P : Params) : BT := (.node (o7 P) (.node (o39 P) (.node (o61 P) .nil .nil) (.node (o83 P) .nil .nil)) (.node (o51 P) (.node (o73 P) .nil .nil) (.node (o104 P) .nil .nil)))
noncomputable def t143 (P : Params) : BT := (.node (o12 P) (t72 P) (t142 P))
noncomputable def t144 (P : Params) : BT := (.node (o4 P) (t97 P) (t143 P))
noncomputable def t145 (P : Params) : BT := (.node (o2 P) (t144 P) (t139 P))
noncomputable def t146 (P : Params) : BT := (.node (o0 P) (t133 P) (t145 P))
noncomputable def S20 (w : World) (os : OsState) : SharedT := let P := w.params; ⟨(t146 P), 128, life0, ⟨[]⟩, ⟨0, 0, 0, 0⟩, 478, os⟩
noncomputable def dl11 (P : Params) : List DictEntry := dl10 P ++ [⟨(PyData.keyHash P ⟨⟨[105, 110, 95, 116, 97, 98, 108, 101, 95, 98, 49]⟩⟩), (.str ⟨⟨[105, 110, 95, 116, 97, 98, 108, 101, 95, 98, 49]⟩⟩ 484), (.ref 134)⟩]
noncomputable def o105 (P : Params) : Obj := ⟨(.type "dict"), none, (.dict ⟨dl11 P⟩ 27), ⟨[]⟩⟩
noncomputable def o106 (P : Params) : Obj := ⟨.none, none, (.fields ⟨[(.int 2 0), (.int 0 0), (.ref 37), (.int 8 0), (.int 0 0), (.ref 50), (.int 21 0), (.int 0 0), (.ref 57), (.int 23 0), (.int 0 0), (.ref 70), (.int 34 0), (.int 0 0), (.ref 77), (.int 42 0), (.int 0 0), (.ref 86), (.int 59 0), (.int 0 0), (.ref 93), (.int 67 0), (.int 0 0), (.ref 100), (.int 84 0), (.int 0 0), (.ref 107), (.int 86 0), (.int 0 0), (.ref 115), (.int 95 0), (.int 0 0), (.ref 133)]⟩), ⟨[]⟩⟩
noncomputable def o107 (P : Params) : Obj := ⟨(.type "tuple"), none, (.seq ⟨[(.str ⟨⟨[99, 111, 100, 101]⟩⟩ 481)]⟩ 0), ⟨[]⟩⟩
noncomputable def o108 (P : Params) : Obj := ⟨.none, none, (fnD 20 ⟨⟨[105, 110, 95, 116, 97, 98, 108, 101, 95, 98, 49]⟩⟩ ⟨⟨[105, 110, 95, 116, 97, 98, 108, 101, 95, 98, 49]⟩⟩ [] .none .none .none .none none .none .none 0 0), ⟨[]⟩⟩
noncomputable def o109 (P : Params) : Obj := ⟨(.type "code"), none, (.fields ⟨[(.str ⟨⟨[105, 110, 95, 116, 97, 98, 108, 101, 95, 98, 49]⟩⟩ 478), (.str ⟨⟨[105, 110, 95, 116, 97, 98, 108, 101, 95, 98, 49]⟩⟩ 479), (.str ⟨⟨[47, 99, 108, 97, 105, 109, 47, 99, 117, 116, 46, 112, 121]⟩⟩ 480), (.int 95 0), (.int 1 0), (.int 0 0), (.int 0 0), (.int 3 0), (.ref 128), (.bool true), (.int 276 0), (.ref 129), .none, (.ref 130), (.ref 131), (.ref 132), (.int 482 0), (.int 95 0), (.str ⟨⟨[47, 99, 108, 97, 105, 109, 47, 99, 117, 116, 46, 112, 121]⟩⟩ 483)]⟩), ⟨[]⟩⟩
noncomputable def o110 (P : Params) : Obj := ⟨(.type "function"), none, (fnD 20 ⟨⟨[105, 110, 95, 116, 97, 98, 108, 101, 95, 98, 49]⟩⟩ ⟨⟨[105, 110, 95, 116, 97, 98, 108, 101, 95, 98, 49]⟩⟩ [] .none .none .none (.str ⟨⟨[99, 112, 121, 51, 49, 51, 46, 115, 116, 114, 105, 110, 103, 112, 114, 101, 112]⟩⟩ 416) none (.ref 133) .none 3 0), ⟨[]⟩⟩
noncomputable def t147 (P : Params) : BT := (.node (o7 P) (.node (o56 P) (.node (o7 P) .nil .nil) .nil) (.node (o77 P) .nil .nil))
noncomputable def t148 (P : Params) : BT := (.node (o18 P) (t147 P) (.node (o43 P) (.node (o66 P) .nil .nil) (.node (o87 P) .nil .nil)))
noncomputable def t149 (P : Params) : BT := (.node (o11 P) (t148 P) (t87 P))
noncomputable def t150 (P : Params) : BT := (.node (o105 P) (t128 P) (t149 P))
noncomputable def t151 (P : Params) : BT := (.node (o8 P) (.node (o7 P) (.node (o8 P) .nil .nil) .nil) (.node (o76 P) .nil .nil))
noncomputable def t152 (P : Params) : BT := (.node (o16 P) (t151 P) (.node (o41 P) (.node (o7 P) .nil .nil) (.node (o7 P) .nil .nil)))
noncomputable def t153 (P : Params) : BT := (.node (o9 P) (t152 P) (t90 P))
noncomputable def t154 (P : Params) : BT := (.node (o33 P) (.node (o57 P) (.node (o109 P) .nil .nil) .nil) (.node (o79 P) .nil .nil))
noncomputable def t155 (P : Params) : BT := (.node (o20 P) (t154 P) (.node (o47 P) (.node (o67 P) .nil .nil) (.node (o89 P) .nil .nil)))
noncomputable def t156 (P : Params) : BT := (.node (o106 P) (.node (o7 P) (.node (o62 P) .nil .nil) (.node (o84 P) .nil .nil)) (.node (o52 P) (.node (o74 P) .nil .nil) (.node (o102 P) .nil .nil)))
noncomputable def t157 (P : Params) : BT := (.node (o13 P) (t155 P) (t156 P))
noncomputable def t158 (P : Params) : BT := (.node (o5 P) (t153 P) (t157 P))
noncomputable def t159 (P : Params) : BT := (.node (o1 P) (t150 P) (t158 P))
noncomputable def t160 (P : Params) : BT := (.node (o7 P) (.node (o55 P) (.node (o7 P) .nil .nil) .nil) (.node (o8 P) .nil .nil))
noncomputable def t161 (P : Params) : BT := (.node (o15 P) (t160 P) (.node (o7 P) (.node (o65 P) .nil .nil) (.node (o85 P) .nil .nil)))
noncomputable def t162 (P : Params) : BT := (.node (o8 P) (t161 P) (t96 P))
noncomputable def t163 (P : Params) : BT := (.node (o32 P) (.node (o7 P) (.node (o108 P) .nil .nil) .nil) (.node (o78 P) .nil .nil))
noncomputable def t164 (P : Params) : BT := (.node (o19 P) (t163 P) (.node (o46 P) (.node (o7 P) .nil .nil) (.node (o88 P) .nil .nil)))
noncomputable def t165 (P : Params) : BT := (.node (o12 P) (t164 P) (t142 P))
noncomputable def t166 (P : Params) : BT := (.node (o4 P) (t162 P) (t165 P))
noncomputable def t167 (P : Params) : BT := (.node (o31 P) (.node (o8 P) (.node (o107 P) .nil .nil) .nil) (.node (o7 P) .nil .nil))
noncomputable def t168 (P : Params) : BT := (.node (o17 P) (t167 P) (.node (o42 P) (.node (o8 P) .nil .nil) (.node (o86 P) .nil .nil)))
noncomputable def t169 (P : Params) : BT := (.node (o10 P) (t168 P) (t101 P))
noncomputable def t170 (P : Params) : BT := (.node (o34 P) (.node (o58 P) (.node (o110 P) .nil .nil) .nil) (.node (o7 P) .nil .nil))
noncomputable def t171 (P : Params) : BT := (.node (o21 P) (t170 P) (.node (o48 P) (.node (o68 P) .nil .nil) (.node (o90 P) .nil .nil)))
noncomputable def t172 (P : Params) : BT := (.node (o14 P) (t171 P) (t137 P))
noncomputable def t173 (P : Params) : BT := (.node (o6 P) (t169 P) (t172 P))
noncomputable def t174 (P : Params) : BT := (.node (o2 P) (t166 P) (t173 P))
noncomputable def t175 (P : Params) : BT := (.node (o0 P) (t159 P) (t174 P))
noncomputable def S21 (w : World) (os : OsState) : SharedT := let P := w.params; ⟨(t175 P), 135, life0, ⟨[]⟩, ⟨0, 0, 0, 0⟩, 485, os⟩
noncomputable def dl12 (P : Params) : List DictEntry := [⟨181, (.int 181 485), (.str ⟨⟨[956]⟩⟩ 486)⟩, ⟨223, (.int 223 488), (.str ⟨⟨[115, 115]⟩⟩ 489)⟩, ⟨304, (.int 304 491), (.str ⟨⟨[105, 775]⟩⟩ 492)⟩, ⟨329, (.int 329 494), (.str ⟨⟨[700, 110]⟩⟩ 495)⟩, ⟨383, (.int 383 497), (.str ⟨⟨[115]⟩⟩ 498)⟩, ⟨496, (.int 496 500), (.str ⟨⟨[106, 780]⟩⟩ 501)⟩, ⟨837, (.int 837 503), (.str ⟨⟨[953]⟩⟩ 504)⟩, ⟨890, (.int 890 506), (.str ⟨⟨[32, 953]⟩⟩ 507)⟩, ⟨912, (.int 912 509), (.str ⟨⟨[953, 776, 769]⟩⟩ 510)⟩, ⟨944, (.int 944 512), (.str ⟨⟨[965, 776, 769]⟩⟩ 513)⟩, ⟨962, (.int 962 515), (.str ⟨⟨[963]⟩⟩ 516)⟩, ⟨976, (.int 976 518), (.str ⟨⟨[946]⟩⟩ 519)⟩, ⟨977, (.int 977 521), (.str ⟨⟨[952]⟩⟩ 522)⟩, ⟨978, (.int 978 524), (.str ⟨⟨[965]⟩⟩ 525)⟩, ⟨979, (.int 979 527), (.str ⟨⟨[973]⟩⟩ 528)⟩, ⟨980, (.int 980 530), (.str ⟨⟨[971]⟩⟩ 531)⟩, ⟨981, (.int 981 533), (.str ⟨⟨[966]⟩⟩ 534)⟩]
noncomputable def o111 (P : Params) : Obj := ⟨(.type "dict"), none, (.dict ⟨dl12 P⟩ 17), ⟨[]⟩⟩
noncomputable def t176 (P : Params) : BT := (.node (o35 P) (.node (o59 P) (.node (o111 P) .nil .nil) .nil) (.node (o8 P) .nil .nil))
noncomputable def t177 (P : Params) : BT := (.node (o22 P) (t176 P) (.node (o7 P) (.node (o69 P) .nil .nil) (.node (o91 P) .nil .nil)))
noncomputable def t178 (P : Params) : BT := (.node (o7 P) (t127 P) (t177 P))
noncomputable def t179 (P : Params) : BT := (.node (o105 P) (t178 P) (t149 P))
noncomputable def t180 (P : Params) : BT := (.node (o1 P) (t179 P) (t158 P))
noncomputable def t181 (P : Params) : BT := (.node (o0 P) (t180 P) (t174 P))
noncomputable def S21a0 (w : World) (os : OsState) : SharedT := let P := w.params; ⟨(t181 P), 136, life0, ⟨[]⟩, ⟨0, 0, 0, 0⟩, 536, os⟩
noncomputable abbrev S21b0 := S21a0
noncomputable def dl13 (P : Params) : List DictEntry := [⟨982, (.int 982 536), (.str ⟨⟨[960]⟩⟩ 537)⟩, ⟨1008, (.int 1008 539), (.str ⟨⟨[954]⟩⟩ 540)⟩, ⟨1009, (.int 1009 542), (.str ⟨⟨[961]⟩⟩ 543)⟩, ⟨1010, (.int 1010 545), (.str ⟨⟨[963]⟩⟩ 546)⟩, ⟨1013, (.int 1013 548), (.str ⟨⟨[949]⟩⟩ 549)⟩, ⟨1415, (.int 1415 551), (.str ⟨⟨[1381, 1410]⟩⟩ 552)⟩, ⟨7830, (.int 7830 554), (.str ⟨⟨[104, 817]⟩⟩ 555)⟩, ⟨7831, (.int 7831 557), (.str ⟨⟨[116, 776]⟩⟩ 558)⟩, ⟨7832, (.int 7832 560), (.str ⟨⟨[119, 778]⟩⟩ 561)⟩, ⟨7833, (.int 7833 563), (.str ⟨⟨[121, 778]⟩⟩ 564)⟩, ⟨7834, (.int 7834 566), (.str ⟨⟨[97, 702]⟩⟩ 567)⟩, ⟨7835, (.int 7835 569), (.str ⟨⟨[7777]⟩⟩ 570)⟩, ⟨8016, (.int 8016 572), (.str ⟨⟨[965, 787]⟩⟩ 573)⟩, ⟨8018, (.int 8018 575), (.str ⟨⟨[965, 787, 768]⟩⟩ 576)⟩, ⟨8020, (.int 8020 578), (.str ⟨⟨[965, 787, 769]⟩⟩ 579)⟩, ⟨8022, (.int 8022 581), (.str ⟨⟨[965, 787, 834]⟩⟩ 582)⟩, ⟨8064, (.int 8064 584), (.str ⟨⟨[7936, 953]⟩⟩ 585)⟩]
noncomputable def o112 (P : Params) : Obj := ⟨(.type "dict"), none, (.dict ⟨dl13 P⟩ 17), ⟨[]⟩⟩
noncomputable def t182 (P : Params) : BT := (.node (o6 P) (.node (o7 P) (.node (o112 P) .nil .nil) .nil) (.node (o80 P) .nil .nil))
noncomputable def t183 (P : Params) : BT := (.node (o23 P) (t182 P) (.node (o8 P) (.node (o7 P) .nil .nil) (.node (o92 P) .nil .nil)))
noncomputable def t184 (P : Params) : BT := (.node (o8 P) (t161 P) (t183 P))
noncomputable def t185 (P : Params) : BT := (.node (o4 P) (t184 P) (t165 P))
noncomputable def t186 (P : Params) : BT := (.node (o2 P) (t185 P) (t173 P))
noncomputable def t187 (P : Params) : BT := (.node (o0 P) (t180 P) (t186 P))
noncomputable def S21a1 (w : World) (os : OsState) : SharedT := let P := w.params; ⟨(t187 P), 137, life0, ⟨[]⟩, ⟨0, 0, 0, 0⟩, 587, os⟩
noncomputable def dl14 (P : Params) : List DictEntry := dl12 P ++ dl13 P
noncomputable def o113 (P : Params) : Obj := ⟨(.type "dict"), none, (.dict ⟨dl14 P⟩ 34), ⟨[]⟩⟩
noncomputable def t188 (P : Params) : BT := (.node (o35 P) (.node (o59 P) (.node (o113 P) .nil .nil) .nil) (.node (o8 P) .nil .nil))
noncomputable def t189 (P : Params) : BT := (.node (o22 P) (t188 P) (.node (o7 P) (.node (o69 P) .nil .nil) (.node (o91 P) .nil .nil)))
noncomputable def t190 (P : Params) : BT := (.node (o7 P) (t127 P) (t189 P))
noncomputable def t191 (P : Params) : BT := (.node (o105 P) (t190 P) (t149 P))
noncomputable def t192 (P : Params) : BT := (.node (o1 P) (t191 P) (t158 P))
noncomputable def t193 (P : Params) : BT := (.node (o0 P) (t192 P) (t186 P))
noncomputable def S21b1 (w : World) (os : OsState) : SharedT := let P := w.params; ⟨(t193 P), 137, life0, ⟨[]⟩, ⟨0, 0, 0, 0⟩, 587, os⟩
noncomputable def dl15 (P : Params) : List DictEntry := [⟨8065, (.int 8065 587), (.str ⟨⟨[7937, 953]⟩⟩ 588)⟩, ⟨8066, (.int 8066 590), (.str ⟨⟨[7938, 953]⟩⟩ 591)⟩, ⟨8067, (.int 8067 593), (.str ⟨⟨[7939, 953]⟩⟩ 594)⟩, ⟨8068, (.int 8068 596), (.str ⟨⟨[7940, 953]⟩⟩ 597)⟩, ⟨8069, (.int 8069 599), (.str ⟨⟨[7941, 953]⟩⟩ 600)⟩, ⟨8070, (.int 8070 602), (.str ⟨⟨[7942, 953]⟩⟩ 603)⟩, ⟨8071, (.int 8071 605), (.str ⟨⟨[7943, 953]⟩⟩ 606)⟩, ⟨8072, (.int 8072 608), (.str ⟨⟨[7936, 953]⟩⟩ 609)⟩, ⟨8073, (.int 8073 611), (.str ⟨⟨[7937, 953]⟩⟩ 612)⟩, ⟨8074, (.int 8074 614), (.str ⟨⟨[7938, 953]⟩⟩ 615)⟩, ⟨8075, (.int 8075 617), (.str ⟨⟨[7939, 953]⟩⟩ 618)⟩, ⟨8076, (.int 8076 620), (.str ⟨⟨[7940, 953]⟩⟩ 621)⟩, ⟨8077, (.int 8077 623), (.str ⟨⟨[7941, 953]⟩⟩ 624)⟩, ⟨8078, (.int 8078 626), (.str ⟨⟨[7942, 953]⟩⟩ 627)⟩, ⟨8079, (.int 8079 629), (.str ⟨⟨[7943, 953]⟩⟩ 630)⟩, ⟨8080, (.int 8080 632), (.str ⟨⟨[7968, 953]⟩⟩ 633)⟩, ⟨8081, (.int 8081 635), (.str ⟨⟨[7969, 953]⟩⟩ 636)⟩]
noncomputable def o114 (P : Params) : Obj := ⟨(.type "dict"), none, (.dict ⟨dl15 P⟩ 17), ⟨[]⟩⟩
noncomputable def t194 (P : Params) : BT := (.node (o36 P) (.node (o8 P) (.node (o114 P) .nil .nil) .nil) (.node (o7 P) .nil .nil))
noncomputable def t195 (P : Params) : BT := (.node (o24 P) (t194 P) (.node (o49 P) (.node (o8 P) .nil .nil) (.node (o7 P) .nil .nil)))
noncomputable def t196 (P : Params) : BT := (.node (o9 P) (t152 P) (t195 P))
noncomputable def t197 (P : Params) : BT := (.node (o5 P) (t196 P) (t157 P))
noncomputable def t198 (P : Params) : BT := (.node (o1 P) (t191 P) (t197 P))
noncomputable def t199 (P : Params) : BT := (.node (o0 P) (t198 P) (t186 P))
noncomputable def S21a2 (w : World) (os : OsState) : SharedT := let P := w.params; ⟨(t199 P), 138, life0, ⟨[]⟩, ⟨0, 0, 0, 0⟩, 638, os⟩
noncomputable def dl16 (P : Params) : List DictEntry := dl14 P ++ dl15 P
noncomputable def o115 (P : Params) : Obj := ⟨(.type "dict"), none, (.dict ⟨dl16 P⟩ 51), ⟨[]⟩⟩
noncomputable def t200 (P : Params) : BT := (.node (o35 P) (.node (o59 P) (.node (o115 P) .nil .nil) .nil) (.node (o8 P) .nil .nil))
noncomputable def t201 (P : Params) : BT := (.node (o22 P) (t200 P) (.node (o7 P) (.node (o69 P) .nil .nil) (.node (o91 P) .nil .nil)))
noncomputable def t202 (P : Params) : BT := (.node (o7 P) (t127 P) (t201 P))
noncomputable def t203 (P : Params) : BT := (.node (o105 P) (t202 P) (t149 P))
noncomputable def t204 (P : Params) : BT := (.node (o1 P) (t203 P) (t197 P))
noncomputable def t205 (P : Params) : BT := (.node (o0 P) (t204 P) (t186 P))
noncomputable def S21b2 (w : World) (os : OsState) : SharedT := let P := w.params; ⟨(t205 P), 138, life0, ⟨[]⟩, ⟨0, 0, 0, 0⟩, 638, os⟩
noncomputable def dl17 (P : Params) : List DictEntry := [⟨8082, (.int 8082 638), (.str ⟨⟨[7970, 953]⟩⟩ 639)⟩, ⟨8083, (.int 8083 641), (.str ⟨⟨[7971, 953]⟩⟩ 642)⟩, ⟨8084, (.int 8084 644), (.str ⟨⟨[7972, 953]⟩⟩ 645)⟩, ⟨8085, (.int 8085 647), (.str ⟨⟨[7973, 953]⟩⟩ 648)⟩, ⟨8086, (.int 8086 650), (.str ⟨⟨[7974, 953]⟩⟩ 651)⟩, ⟨8087, (.int 8087 653), (.str ⟨⟨[7975, 953]⟩⟩ 654)⟩, ⟨8088, (.int 8088 656), (.str ⟨⟨[7968, 953]⟩⟩ 657)⟩, ⟨8089, (.int 8089 659), (.str ⟨⟨[7969, 953]⟩⟩ 660)⟩, ⟨8090, (.int 8090 662), (.str ⟨⟨[7970, 953]⟩⟩ 663)⟩, ⟨8091, (.int 8091 665), (.str ⟨⟨[7971, 953]⟩⟩ 666)⟩, ⟨8092, (.int 8092 668), (.str ⟨⟨[7972, 953]⟩⟩ 669)⟩, ⟨8093, (.int 8093 671), (.str ⟨⟨[7973, 953]⟩⟩ 672)⟩, ⟨8094, (.int 8094 674), (.str ⟨⟨[7974, 953]⟩⟩ 675)⟩, ⟨8095, (.int 8095 677), (.str ⟨⟨[7975, 953]⟩⟩ 678)⟩, ⟨8096, (.int 8096 680), (.str ⟨⟨[8032, 953]⟩⟩ 681)⟩, ⟨8097, (.int 8097 683), (.str ⟨⟨[8033, 953]⟩⟩ 684)⟩, ⟨8098, (.int 8098 686), (.str ⟨⟨[8034, 953]⟩⟩ 687)⟩]
noncomputable def o116 (P : Params) : Obj := ⟨(.type "dict"), none, (.dict ⟨dl17 P⟩ 17), ⟨[]⟩⟩
noncomputable def t206 (P : Params) : BT := (.node (o37 P) (.node (o60 P) (.node (o116 P) .nil .nil) .nil) (.node (o81 P) .nil .nil))
noncomputable def t207 (P : Params) : BT := (.node (o25 P) (t206 P) (.node (o50 P) (.node (o72 P) .nil .nil) (.node (o93 P) .nil .nil)))
noncomputable def t208 (P : Params) : BT := (.node (o10 P) (t168 P) (t207 P))
noncomputable def t209 (P : Params) : BT := (.node (o6 P) (t208 P) (t172 P))
noncomputable def t210 (P : Params) : BT := (.node (o2 P) (t185 P) (t209 P))
noncomputable def t211 (P : Params) : BT := (.node (o0 P) (t204 P) (t210 P))
noncomputable def S21a3 (w : World) (os : OsState) : SharedT := let P := w.params; ⟨(t211 P), 139, life0, ⟨[]⟩, ⟨0, 0, 0, 0⟩, 689, os⟩
noncomputable def dl18 (P : Params) : List DictEntry := dl16 P ++ dl17 P
noncomputable def o117 (P : Params) : Obj := ⟨(.type "dict"), none, (.dict ⟨dl18 P⟩ 68), ⟨[]⟩⟩
noncomputable def t212 (P : Params) : BT := (.node (o35 P) (.node (o59 P) (.node (o117 P) .nil .nil) .nil) (.node (o8 P) .nil .nil))
noncomputable def t213 (P : Params) : BT := (.node (o22 P) (t212 P) (.node (o7 P) (.node (o69 P) .nil .nil) (.node (o91 P) .nil .nil)))
noncomputable def t214 (P : Params) : BT := (.node (o7 P) (t127 P) (t213 P))
noncomputable def t215 (P : Params) : BT := (.node (o105 P) (t214 P) (t149 P))
noncomputable def t216 (P : Params) : BT := (.node (o1 P) (t215 P) (t197 P))
noncomputable def t217 (P : Params) : BT := (.node (o0 P) (t216 P) (t210 P))
noncomputable def S21b3 (w : World) (os : OsState) : SharedT := let P := w.params; ⟨(t217 P), 139, life0, ⟨[]⟩, ⟨0, 0, 0, 0⟩, 689, os⟩
noncomputable def dl19 (P : Params) : List DictEntry := [⟨8099, (.int 8099 689), (.str ⟨⟨[8035, 953]⟩⟩ 690)⟩, ⟨8100, (.int 8100 692), (.str ⟨⟨[8036, 953]⟩⟩ 693)⟩, ⟨8101, (.int 8101 695), (.str ⟨⟨[8037, 953]⟩⟩ 696)⟩, ⟨8102, (.int 8102 698), (.str ⟨⟨[8038, 953]⟩⟩ 699)⟩, ⟨8103, (.int 8103 701), (.str ⟨⟨[8039, 953]⟩⟩ 702)⟩, ⟨8104, (.int 8104 704), (.str ⟨⟨[8032, 953]⟩⟩ 705)⟩, ⟨8105, (.int 8105 707), (.str ⟨⟨[8033, 953]⟩⟩ 708)⟩, ⟨8106, (.int 8106 710), (.str ⟨⟨[8034, 953]⟩⟩ 711)⟩, ⟨8107, (.int 8107 713), (.str ⟨⟨[8035, 953]⟩⟩ 714)⟩, ⟨8108, (.int 8108 716), (.str ⟨⟨[8036, 953]⟩⟩ 717)⟩, ⟨8109, (.int 8109 719), (.str ⟨⟨[8037, 953]⟩⟩ 720)⟩, ⟨8110, (.int 8110 722), (.str ⟨⟨[8038, 953]⟩⟩ 723)⟩, ⟨8111, (.int 8111 725), (.str ⟨⟨[8039, 953]⟩⟩ 726)⟩, ⟨8114, (.int 8114 728), (.str ⟨⟨[8048, 953]⟩⟩ 729)⟩, ⟨8115, (.int 8115 731), (.str ⟨⟨[945, 953]⟩⟩ 732)⟩, ⟨8116, (.int 8116 734), (.str ⟨⟨[940, 953]⟩⟩ 735)⟩, ⟨8118, (.int 8118 737), (.str ⟨⟨[945, 834]⟩⟩ 738)⟩]
noncomputable def o118 (P : Params) : Obj := ⟨(.type "dict"), none, (.dict ⟨dl19 P⟩ 17), ⟨[]⟩⟩
noncomputable def t218 (P : Params) : BT := (.node (o38 P) (.node (o7 P) (.node (o118 P) .nil .nil) .nil) (.node (o82 P) .nil .nil))
noncomputable def t219 (P : Params) : BT := (.node (o26 P) (t218 P) (.node (o7 P) (.node (o7 P) .nil .nil) (.node (o94 P) .nil .nil)))
noncomputable def t220 (P : Params) : BT := (.node (o11 P) (t148 P) (t219 P))
noncomputable def t221 (P : Params) : BT := (.node (o105 P) (t214 P) (t220 P))
noncomputable def t222 (P : Params) : BT := (.node (o1 P) (t221 P) (t197 P))
noncomputable def t223 (P : Params) : BT := (.node (o0 P) (t222 P) (t210 P))
noncomputable def S21a4 (w : World) (os : OsState) : SharedT := let P := w.params; ⟨(t223 P), 140, life0, ⟨[]⟩, ⟨0, 0, 0, 0⟩, 740, os⟩
noncomputable def dl20 (P : Params) : List DictEntry := dl18 P ++ dl19 P
noncomputable def o119 (P : Params) : Obj := ⟨(.type "dict"), none, (.dict ⟨dl20 P⟩ 85), ⟨[]⟩⟩
noncomputable def t224 (P : Params) : BT := (.node (o35 P) (.node (o59 P) (.node (o119 P) .nil .nil) .nil) (.node (o8 P) .nil .nil))
noncomputable def t225 (P : Params) : BT := (.node (o22 P) (t224 P) (.node (o7 P) (.node (o69 P) .nil .nil) (.node (o91 P) .nil .nil)))
noncomputable def t226 (P : Params) : BT := (.node (o7 P) (t127 P) (t225 P))
noncomputable def t227 (P : Params) : BT := (.node (o105 P) (t226 P) (t220 P))
noncomputable def t228 (P : Params) : BT := (.node (o1 P) (t227 P) (t197 P))
noncomputable def t229 (P : Params) : BT := (.node (o0 P) (t228 P) (t210 P))
noncomputable def S21b4 (w : World) (os : OsState) : SharedT := let P := w.params; ⟨(t229 P), 140, life0, ⟨[]⟩, ⟨0, 0, 0, 0⟩, 740, os⟩
noncomputable def dl21 (P : Params) : List DictEntry := [⟨8119, (.int 8119 740), (.str ⟨⟨[945, 834, 953]⟩⟩ 741)⟩, ⟨8124, (.int 8124 743), (.str ⟨⟨[945, 953]⟩⟩ 744)⟩, ⟨8126, (.int 8126 746), (.str ⟨⟨[953]⟩⟩ 747)⟩, ⟨8130, (.int 8130 749), (.str ⟨⟨[8052, 953]⟩⟩ 750)⟩, ⟨8131, (.int 8131 752), (.str ⟨⟨[951, 953]⟩⟩ 753)⟩, ⟨8132, (.int 8132 755), (.str ⟨⟨[942, 953]⟩⟩ 756)⟩, ⟨8134, (.int 8134 758), (.str ⟨⟨[951, 834]⟩⟩ 759)⟩, ⟨8135, (.int 8135 761), (.str ⟨⟨[951, 834, 953]⟩⟩ 762)⟩, ⟨8140, (.int 8140 764), (.str ⟨⟨[951, 953]⟩⟩ 765)⟩, ⟨8146, (.int 8146 767), (.str ⟨⟨[953, 776, 768]⟩⟩ 768)⟩, ⟨8147, (.int 8147 770), (.str ⟨⟨[953, 776, 769]⟩⟩ 771)⟩, ⟨8150, (.int 8150 773), (.str ⟨⟨[953, 834]⟩⟩ 774)⟩, ⟨8151, (.int 8151 776), (.str ⟨⟨[953, 776, 834]⟩⟩ 777)⟩, ⟨8162, (.int 8162 779), (.str ⟨⟨[965, 776, 768]⟩⟩ 780)⟩, ⟨8163, (.int 8163 782), (.str ⟨⟨[965, 776, 769]⟩⟩ 783)⟩, ⟨8164, (.int 8164 785), (.str ⟨⟨[961, 787]⟩⟩ 786)⟩, ⟨8166, (.int 8166 788), (.str ⟨⟨[965, 834]⟩⟩ 789)⟩]
noncomputable def o120 (P : Params) : Obj := ⟨(.type "dict"), none, (.dict ⟨dl21 P⟩ 17), ⟨[]⟩⟩
noncomputable def t230 (P : Params) : BT := (.node (o39 P) (.node (o61 P) (.node (o120 P) .nil .nil) .nil) (.node (o83 P) .nil .nil))
noncomputable def t231 (P : Params) : BT := (.node (o7 P) (t230 P) (.node (o51 P) (.node (o73 P) .nil .nil) (.node (o104 P) .nil .nil)))
noncomputable def t232 (P : Params) : BT := (.node (o12 P) (t164 P) (t231 P))
noncomputable def t233 (P : Params) : BT := (.node (o4 P) (t184 P) (t232 P))
noncomputable def t234 (P : Params) : BT := (.node (o2 P) (t233 P) (t209 P))
noncomputable def t235 (P : Params) : BT := (.node (o0 P) (t228 P) (t234 P))
noncomputable def S21a5 (w : World) (os : OsState) : SharedT := let P := w.params; ⟨(t235 P), 141, life0, ⟨[]⟩, ⟨0, 0, 0, 0⟩, 791, os⟩
noncomputable def dl22 (P : Params) : List DictEntry := dl20 P ++ dl21 P
noncomputable def o121 (P : Params) : Obj := ⟨(.type "dict"), none, (.dict ⟨dl22 P⟩ 102), ⟨[]⟩⟩
noncomputable def t236 (P : Params) : BT := (.node (o35 P) (.node (o59 P) (.node (o121 P) .nil .nil) .nil) (.node (o8 P) .nil .nil))
noncomputable def t237 (P : Params) : BT := (.node (o22 P) (t236 P) (.node (o7 P) (.node (o69 P) .nil .nil) (.node (o91 P) .nil .nil)))
noncomputable def t238 (P : Params) : BT := (.node (o7 P) (t127 P) (t237 P))
noncomputable def t239 (P : Params) : BT := (.node (o105 P) (t238 P) (t220 P))
noncomputable def t240 (P : Params) : BT := (.node (o1 P) (t239 P) (t197 P))
noncomputable def t241 (P : Params) : BT := (.node (o0 P) (t240 P) (t234 P))
noncomputable def S21b5 (w : World) (os : OsState) : SharedT := let P := w.params; ⟨(t241 P), 141, life0, ⟨[]⟩, ⟨0, 0, 0, 0⟩, 791, os⟩
noncomputable def dl23 (P : Params) : List DictEntry := [⟨8167, (.int 8167 791), (.str ⟨⟨[965, 776, 834]⟩⟩ 792)⟩, ⟨8178, (.int 8178 794), (.str ⟨⟨[8060, 953]⟩⟩ 795)⟩, ⟨8179, (.int 8179 797), (.str ⟨⟨[969, 953]⟩⟩ 798)⟩, ⟨8180, (.int 8180 800), (.str ⟨⟨[974, 953]⟩⟩ 801)⟩, ⟨8182, (.int 8182 803), (.str ⟨⟨[969, 834]⟩⟩ 804)⟩, ⟨8183, (.int 8183 806), (.str ⟨⟨[969, 834, 953]⟩⟩ 807)⟩, ⟨8188, (.int 8188 809), (.str ⟨⟨[969, 953]⟩⟩ 810)⟩, ⟨8360, (.int 8360 812), (.str ⟨⟨[114, 115]⟩⟩ 813)⟩, ⟨8450, (.int 8450 815), (.str ⟨⟨[99]⟩⟩ 816)⟩, ⟨8451, (.int 8451 818), (.str ⟨⟨[176, 99]⟩⟩ 819)⟩, ⟨8455, (.int 8455 821), (.str ⟨⟨[603]⟩⟩ 822)⟩, ⟨8457, (.int 8457 824), (.str ⟨⟨[176, 102]⟩⟩ 825)⟩, ⟨8459, (.int 8459 827), (.str ⟨⟨[104]⟩⟩ 828)⟩, ⟨8460, (.int 8460 830), (.str ⟨⟨[104]⟩⟩ 831)⟩, ⟨8461, (.int 8461 833), (.str ⟨⟨[104]⟩⟩ 834)⟩, ⟨8464, (.int 8464 836), (.str ⟨⟨[105]⟩⟩ 837)⟩, ⟨8465, (.int 8465 839), (.str ⟨⟨[105]⟩⟩ 840)⟩]
noncomputable def o122 (P : Params) : Obj := ⟨(.type "dict"), none, (.dict ⟨dl23 P⟩ 17), ⟨[]⟩⟩
noncomputable def t242 (P : Params) : BT := (.node (o7 P) (.node (o62 P) (.node (o122 P) .nil .nil) .nil) (.node (o84 P) .nil .nil))
noncomputable def t243 (P : Params) : BT := (.node (o106 P) (t242 P) (.node (o52 P) (.node (o74 P) .nil .nil) (.node (o102 P) .nil .nil)))
noncomputable def t244 (P : Params) : BT := (.node (o13 P) (t155 P) (t243 P))
noncomputable def t245 (P : Params) : BT := (.node (o5 P) (t196 P) (t244 P))
noncomputable def t246 (P : Params) : BT := (.node (o1 P) (t239 P) (t245 P))
noncomputable def t247 (P : Params) : BT := (.node (o0 P) (t246 P) (t234 P))
noncomputable def S21a6 (w : World) (os : OsState) : SharedT := let P := w.params; ⟨(t247 P), 142, life0, ⟨[]⟩, ⟨0, 0, 0, 0⟩, 842, os⟩
noncomputable def dl24 (P : Params) : List DictEntry := dl22 P ++ dl23 P
noncomputable def o123 (P : Params) : Obj := ⟨(.type "dict"), none, (.dict ⟨dl24 P⟩ 119), ⟨[]⟩⟩
noncomputable def t248 (P : Params) : BT := (.node (o35 P) (.node (o59 P) (.node (o123 P) .nil .nil) .nil) (.node (o8 P) .nil .nil))
noncomputable def t249 (P : Params) : BT := (.node (o22 P) (t248 P) (.node (o7 P) (.node (o69 P) .nil .nil) (.node (o91 P) .nil .nil)))
noncomputable def t250 (P : Params) : BT := (.node (o7 P) (t127 P) (t249 P))
noncomputable def t251 (P : Params) : BT := (.node (o105 P) (t250 P) (t220 P))
noncomputable def t252 (P : Params) : BT := (.node (o1 P) (t251 P) (t245 P))
noncomputable def t253 (P : Params) : BT := (.node (o0 P) (t252 P) (t234 P))
noncomputable def S21b6 (w : World) (os : OsState) : SharedT := let P := w.params; ⟨(t253 P), 142, life0, ⟨[]⟩, ⟨0, 0, 0, 0⟩, 842, os⟩
noncomputable def dl25 (P : Params) : List DictEntry := [⟨8466, (.int 8466 842), (.str ⟨⟨[108]⟩⟩ 843)⟩, ⟨8469, (.int 8469 845), (.str ⟨⟨[110]⟩⟩ 846)⟩, ⟨8470, (.int 8470 848), (.str ⟨⟨[110, 111]⟩⟩ 849)⟩, ⟨8473, (.int 8473 851), (.str ⟨⟨[112]⟩⟩ 852)⟩, ⟨8474, (.int 8474 854), (.str ⟨⟨[113]⟩⟩ 855)⟩, ⟨8475, (.int 8475 857), (.str ⟨⟨[114]⟩⟩ 858)⟩, ⟨8476, (.int 8476 860), (.str ⟨⟨[114]⟩⟩ 861)⟩, ⟨8477, (.int 8477 863), (.str ⟨⟨[114]⟩⟩ 864)⟩, ⟨8480, (.int 8480 866), (.str ⟨⟨[115, 109]⟩⟩ 867)⟩, ⟨8481, (.int 8481 869), (.str ⟨⟨[116, 101, 108]⟩⟩ 870)⟩, ⟨8482, (.int 8482 872), (.str ⟨⟨[116, 109]⟩⟩ 873)⟩, ⟨8484, (.int 8484 875), (.str ⟨⟨[122]⟩⟩ 876)⟩, ⟨8488, (.int 8488 878), (.str ⟨⟨[122]⟩⟩ 879)⟩, ⟨8492, (.int 8492 881), (.str ⟨⟨[98]⟩⟩ 882)⟩, ⟨8493, (.int 8493 884), (.str ⟨⟨[99]⟩⟩ 885)⟩, ⟨8496, (.int 8496 887), (.str ⟨⟨[101]⟩⟩ 888)⟩, ⟨8497, (.int 8497 890), (.str ⟨⟨[102]⟩⟩ 891)⟩]
noncomputable def o124 (P : Params) : Obj := ⟨(.type "dict"), none, (.dict ⟨dl25 P⟩ 17), ⟨[]⟩⟩
noncomputable def t254 (P : Params) : BT := (.node (o8 P) (.node (o63 P) (.node (o124 P) .nil .nil) .nil) (.node (o7 P) .nil .nil))
noncomputable def t255 (P : Params) : BT := (.node (o27 P) (t254 P) (.node (o53 P) (.node (o75 P) .nil .nil) (.node (o7 P) .nil .nil)))
noncomputable def t256 (P : Params) : BT := (.node (o14 P) (t171 P) (t255 P))
noncomputable def t257 (P : Params) : BT := (.node (o6 P) (t208 P) (t256 P))
noncomputable def t258 (P : Params) : BT := (.node (o2 P) (t233 P) (t257 P))
noncomputable def t259 (P : Params) : BT := (.node (o0 P) (t252 P) (t258 P))
noncomputable def S21a7 (w : World) (os : OsState) : SharedT := let P := w.params; ⟨(t259 P), 143, life0, ⟨[]⟩, ⟨0, 0, 0, 0⟩, 893, os⟩
noncomputable def dl26 (P : Params) : List DictEntry := dl24 P ++ dl25 P
noncomputable def o125 (P : Params) : Obj := ⟨(.type "dict"), none, (.dict ⟨dl26 P⟩ 136), ⟨[]⟩⟩
noncomputable def t260 (P : Params) : BT := (.node (o35 P) (.node (o59 P) (.node (o125 P) .nil .nil) .nil) (.node (o8 P) .nil .nil))
noncomputable def t261 (P : Params) : BT := (.node (o22 P) (t260 P) (.node (o7 P) (.node (o69 P) .nil .nil) (.node (o91 P) .nil .nil)))
noncomputable def t262 (P : Params) : BT := (.node (o7 P) (t127 P) (t261 P))
noncomputable def t263 (P : Params) : BT := (.node (o105 P) (t262 P) (t220 P))
noncomputable def t264 (P : Params) : BT := (.node (o1 P) (t263 P) (t245 P))
noncomputable def t265 (P : Params) : BT := (.node (o0 P) (t264 P) (t258 P))
noncomputable def S21b7 (w : World) (os : OsState) : SharedT := let P := w.params; ⟨(t265 P), 143, life0, ⟨[]⟩, ⟨0, 0, 0, 0⟩, 893, os⟩
noncomputable def dl27 (P : Params) : List DictEntry := [⟨8499, (.int 8499 893), (.str ⟨⟨[109]⟩⟩ 894)⟩, ⟨8510, (.int 8510 896), (.str ⟨⟨[947]⟩⟩ 897)⟩, ⟨8511, (.int 8511 899), (.str ⟨⟨[960]⟩⟩ 900)⟩, ⟨8517, (.int 8517 902), (.str ⟨⟨[100]⟩⟩ 903)⟩, ⟨13169, (.int 13169 905), (.str ⟨⟨[104, 112, 97]⟩⟩ 906)⟩, ⟨13171, (.int 13171 908), (.str ⟨⟨[97, 117]⟩⟩ 909)⟩, ⟨13173, (.int 13173 911), (.str ⟨⟨[111, 118]⟩⟩ 912)⟩, ⟨13184, (.int 13184 914), (.str ⟨⟨[112, 97]⟩⟩ 915)⟩, ⟨13185, (.int 13185 917), (.str ⟨⟨[110, 97]⟩⟩ 918)⟩, ⟨13186, (.int 13186 920), (.str ⟨⟨[956, 97]⟩⟩ 921)⟩, ⟨13187, (.int 13187 923), (.str ⟨⟨[109, 97]⟩⟩ 924)⟩, ⟨13188, (.int 13188 926), (.str ⟨⟨[107, 97]⟩⟩ 927)⟩, ⟨13189, (.int 13189 929), (.str ⟨⟨[107, 98]⟩⟩ 930)⟩, ⟨13190, (.int 13190 932), (.str ⟨⟨[109, 98]⟩⟩ 933)⟩, ⟨13191, (.int 13191 935), (.str ⟨⟨[103, 98]⟩⟩ 936)⟩, ⟨13194, (.int 13194 938), (.str ⟨⟨[112, 102]⟩⟩ 939)⟩, ⟨13195, (.int 13195 941), (.str ⟨⟨[110, 102]⟩⟩ 942)⟩]
noncomputable def o126 (P : Params) : Obj := ⟨(.type "dict"), none, (.dict ⟨dl27 P⟩ 17), ⟨[]⟩⟩
noncomputable def t266 (P : Params) : BT := (.node (o40 P) (.node (o64 P) (.node (o126 P) .nil .nil) .nil) (.node (o8 P) .nil .nil))
noncomputable def t267 (P : Params) : BT := (.node (o7 P) (t126 P) (t266 P))
noncomputable def t268 (P : Params) : BT := (.node (o7 P) (t267 P) (t261 P))
noncomputable def t269 (P : Params) : BT := (.node (o105 P) (t268 P) (t220 P))
noncomputable def t270 (P : Params) : BT := (.node (o1 P) (t269 P) (t245 P))
noncomputable def t271 (P : Params) : BT := (.node (o0 P) (t270 P) (t258 P))
noncomputable def S21a8 (w : World) (os : OsState) : SharedT := let P := w.params; ⟨(t271 P), 144, life0, ⟨[]⟩, ⟨0, 0, 0, 0⟩, 944, os⟩
noncomputable def dl28 (P : Params) : List DictEntry := dl26 P ++ dl27 P
noncomputable def o127 (P : Params) : Obj := ⟨(.type "dict"), none, (.dict ⟨dl28 P⟩ 153), ⟨[]⟩⟩
noncomputable def t272 (P : Params) : BT := (.node (o35 P) (.node (o59 P) (.node (o127 P) .nil .nil) .nil) (.node (o8 P) .nil .nil))
noncomputable def t273 (P : Params) : BT := (.node (o22 P) (t272 P) (.node (o7 P) (.node (o69 P) .nil .nil) (.node (o91 P) .nil .nil)))
noncomputable def t274 (P : Params) : BT := (.node (o7 P) (t267 P) (t273 P))
noncomputable def t275 (P : Params) : BT := (.node (o105 P) (t274 P) (t220 P))
noncomputable def t276 (P : Params) : BT := (.node (o1 P) (t275 P) (t245 P))
noncomputable def t277 (P : Params) : BT := (.node (o0 P) (t276 P) (t258 P))
noncomputable def S21b8 (w : World) (os : OsState) : SharedT := let P := w.params; ⟨(t277 P), 144, life0, ⟨[]⟩, ⟨0, 0, 0, 0⟩, 944, os⟩
noncomputable def dl29 (P : Params) : List DictEntry := [⟨13196, (.int 13196 944), (.str ⟨⟨[956, 102]⟩⟩ 945)⟩, ⟨13200, (.int 13200 947), (.str ⟨⟨[104, 122]⟩⟩ 948)⟩, ⟨13201, (.int 13201 950), (.str ⟨⟨[107, 104, 122]⟩⟩ 951)⟩, ⟨13202, (.int 13202 953), (.str ⟨⟨[109, 104, 122]⟩⟩ 954)⟩, ⟨13203, (.int 13203 956), (.str ⟨⟨[103, 104, 122]⟩⟩ 957)⟩, ⟨13204, (.int 13204 959), (.str ⟨⟨[116, 104, 122]⟩⟩ 960)⟩, ⟨13225, (.int 13225 962), (.str ⟨⟨[112, 97]⟩⟩ 963)⟩, ⟨13226, (.int 13226 965), (.str ⟨⟨[107, 112, 97]⟩⟩ 966)⟩, ⟨13227, (.int 13227 968), (.str ⟨⟨[109, 112, 97]⟩⟩ 969)⟩, ⟨13228, (.int 13228 971), (.str ⟨⟨[103, 112, 97]⟩⟩ 972)⟩, ⟨13236, (.int 13236 974), (.str ⟨⟨[112, 118]⟩⟩ 975)⟩, ⟨13237, (.int 13237 977), (.str ⟨⟨[110, 118]⟩⟩ 978)⟩, ⟨13238, (.int 13238 980), (.str ⟨⟨[956, 118]⟩⟩ 981)⟩, ⟨13239, (.int 13239 983), (.str ⟨⟨[109, 118]⟩⟩ 984)⟩, ⟨13240, (.int 13240 986), (.str ⟨⟨[107, 118]⟩⟩ 987)⟩, ⟨13241, (.int 13241 989), (.str ⟨⟨[109, 118]⟩⟩ 990)⟩, ⟨13242, (.int 13242 992), (.str ⟨⟨[112, 119]⟩⟩ 993)⟩]
noncomputable def o128 (P : Params) : Obj := ⟨(.type "dict"), none, (.dict ⟨dl29 P⟩ 17), ⟨[]⟩⟩
noncomputable def t278 (P : Params) : BT := (.node (o7 P) (.node (o65 P) (.node (o128 P) .nil .nil) .nil) (.node (o85 P) .nil .nil))
noncomputable def t279 (P : Params) : BT := (.node (o15 P) (t160 P) (t278 P))
noncomputable def t280 (P : Params) : BT := (.node (o8 P) (t279 P) (t183 P))
noncomputable def t281 (P : Params) : BT := (.node (o4 P) (t280 P) (t232 P))
noncomputable def t282 (P : Params) : BT := (.node (o2 P) (t281 P) (t257 P))
noncomputable def t283 (P : Params) : BT := (.node (o0 P) (t276 P) (t282 P))
noncomputable def S21a9 (w : World) (os : OsState) : SharedT := let P := w.params; ⟨(t283 P), 145, life0, ⟨[]⟩, ⟨0, 0, 0, 0⟩, 995, os⟩
noncomputable def dl30 (P : Params) : List DictEntry := dl28 P ++ dl29 P
noncomputable def o129 (P : Params) : Obj := ⟨(.type "dict"), none, (.dict ⟨dl30 P⟩ 170), ⟨[]⟩⟩
noncomputable def t284 (P : Params) : BT := (.node (o35 P) (.node (o59 P) (.node (o129 P) .nil .nil) .nil) (.node (o8 P) .nil .nil))
noncomputable def t285 (P : Params) : BT := (.node (o22 P) (t284 P) (.node (o7 P) (.node (o69 P) .nil .nil) (.node (o91 P) .nil .nil)))
noncomputable def t286 (P : Params) : BT := (.node (o7 P) (t267 P) (t285 P))
noncomputable def t287 (P : Params) : BT := (.node (o105 P) (t286 P) (t220 P))
noncomputable def t288 (P : Params) : BT := (.node (o1 P) (t287 P) (t245 P))
noncomputable def t289 (P : Params) : BT := (.node (o0 P) (t288 P) (t282 P))
noncomputable def S21b9 (w : World) (os : OsState) : SharedT := let P := w.params; ⟨(t289 P), 145, life0, ⟨[]⟩, ⟨0, 0, 0, 0⟩, 995, os⟩
noncomputable def dl31 (P : Params) : List DictEntry := [⟨13243, (.int 13243 995), (.str ⟨⟨[110, 119]⟩⟩ 996)⟩, ⟨13244, (.int 13244 998), (.str ⟨⟨[956, 119]⟩⟩ 999)⟩, ⟨13245, (.int 13245 1001), (.str ⟨⟨[109, 119]⟩⟩ 1002)⟩, ⟨13246, (.int 13246 1004), (.str ⟨⟨[107, 119]⟩⟩ 1005)⟩, ⟨13247, (.int 13247 1007), (.str ⟨⟨[109, 119]⟩⟩ 1008)⟩, ⟨13248, (.int 13248 1010), (.str ⟨⟨[107, 969]⟩⟩ 1011)⟩, ⟨13249, (.int 13249 1013), (.str ⟨⟨[109, 969]⟩⟩ 1014)⟩, ⟨13251, (.int 13251 1016), (.str ⟨⟨[98, 113]⟩⟩ 1017)⟩, ⟨13254, (.int 13254 1019), (.str ⟨⟨[99, 8725, 107, 103]⟩⟩ 1020)⟩, ⟨13255, (.int 13255 1022), (.str ⟨⟨[99, 111, 46]⟩⟩ 1023)⟩, ⟨13256, (.int 13256 1025), (.str ⟨⟨[100, 98]⟩⟩ 1026)⟩, ⟨13257, (.int 13257 1028), (.str ⟨⟨[103, 121]⟩⟩ 1029)⟩, ⟨13259, (.int 13259 1031), (.str ⟨⟨[104, 112]⟩⟩ 1032)⟩, ⟨13261, (.int 13261 1034), (.str ⟨⟨[107, 107]⟩⟩ 1035)⟩, ⟨13262, (.int 13262 1037), (.str ⟨⟨[107, 109]⟩⟩ 1038)⟩, ⟨13271, (.int 13271 1040), (.str ⟨⟨[112, 104]⟩⟩ 1041)⟩, ⟨13273, (.int 13273 1043), (.str ⟨⟨[112, 112, 109]⟩⟩ 1044)⟩]
noncomputable def o130 (P : Params) : Obj := ⟨(.type "dict"), none, (.dict ⟨dl31 P⟩ 17), ⟨[]⟩⟩
noncomputable def t290 (P : Params) : BT := (.node (o41 P) (.node (o7 P) (.node (o130 P) .nil .nil) .nil) (.node (o7 P) .nil .nil))
noncomputable def t291 (P : Params) : BT := (.node (o16 P) (t151 P) (t290 P))
noncomputable def t292 (P : Params) : BT := (.node (o9 P) (t291 P) (t195 P))
noncomputable def t293 (P : Params) : BT := (.node (o5 P) (t292 P) (t244 P))
noncomputable def t294 (P : Params) : BT := (.node (o1 P) (t287 P) (t293 P))
noncomputable def t295 (P : Params) : BT := (.node (o0 P) (t294 P) (t282 P))
noncomputable def S21a10 (w : World) (os : OsState) : SharedT := let P := w.params; ⟨(t295 P), 146, life0, ⟨[]⟩, ⟨0, 0, 0, 0⟩, 1046, os⟩
noncomputable def dl32 (P : Params) : List DictEntry := dl30 P ++ dl31 P
noncomputable def o131 (P : Params) : Obj := ⟨(.type "dict"), none, (.dict ⟨dl32 P⟩ 187), ⟨[]⟩⟩
noncomputable def t296 (P : Params) : BT := (.node (o35 P) (.node (o59 P) (.node (o131 P) .nil .nil) .nil) (.node (o8 P) .nil .nil))
noncomputable def t297 (P : Params) : BT := (.node (o22 P) (t296 P) (.node (o7 P) (.node (o69 P) .nil .nil) (.node (o91 P) .nil .nil)))
noncomputable def t298 (P : Params) : BT := (.node (o7 P) (t267 P) (t297 P))
noncomputable def t299 (P : Params) : BT := (.node (o105 P) (t298 P) (t220 P))
noncomputable def t300 (P : Params) : BT := (.node (o1 P) (t299 P) (t293 P))
noncomputable def t301 (P : Params) : BT := (.node (o0 P) (t300 P) (t282 P))
noncomputable def S21b10 (w : World) (os : OsState) : SharedT := let P := w.params; ⟨(t301 P), 146, life0, ⟨[]⟩, ⟨0, 0, 0, 0⟩, 1046, os⟩
noncomputable def dl33 (P : Params) : List DictEntry := [⟨13274, (.int 13274 1046), (.str ⟨⟨[112, 114]⟩⟩ 1047)⟩, ⟨13276, (.int 13276 1049), (.str ⟨⟨[115, 118]⟩⟩ 1050)⟩, ⟨13277, (.int 13277 1052), (.str ⟨⟨[119, 98]⟩⟩ 1053)⟩, ⟨64256, (.int 64256 1055), (.str ⟨⟨[102, 102]⟩⟩ 1056)⟩, ⟨64257, (.int 64257 1058), (.str ⟨⟨[102, 105]⟩⟩ 1059)⟩, ⟨64258, (.int 64258 1061), (.str ⟨⟨[102, 108]⟩⟩ 1062)⟩, ⟨64259, (.int 64259 1064), (.str ⟨⟨[102, 102, 105]⟩⟩ 1065)⟩, ⟨64260, (.int 64260 1067), (.str ⟨⟨[102, 102, 108]⟩⟩ 1068)⟩, ⟨64261, (.int 64261 1070), (.str ⟨⟨[115, 116]⟩⟩ 1071)⟩, ⟨64262, (.int 64262 1073), (.str ⟨⟨[115, 116]⟩⟩ 1074)⟩, ⟨64275, (.int 64275 1076), (.str ⟨⟨[1396, 1398]⟩⟩ 1077)⟩, ⟨64276, (.int 64276 1079), (.str ⟨⟨[1396, 1381]⟩⟩ 1080)⟩, ⟨64277, (.int 64277 1082), (.str ⟨⟨[1396, 1387]⟩⟩ 1083)⟩, ⟨64278, (.int 64278 1085), (.str ⟨⟨[1406, 1398]⟩⟩ 1086)⟩, ⟨64279, (.int 64279 1088), (.str ⟨⟨[1396, 1389]⟩⟩ 1089)⟩, ⟨119808, (.int 119808 1091), (.str ⟨⟨[97]⟩⟩ 1092)⟩, ⟨119809, (.int 119809 1094), (.str ⟨⟨[98]⟩⟩ 1095)⟩]
noncomputable def o132 (P : Params) : Obj := ⟨(.type "dict"), none, (.dict ⟨dl33 P⟩ 17), ⟨[]⟩⟩
noncomputable def t302 (P : Params) : BT := (.node (o42 P) (.node (o8 P) (.node (o132 P) .nil .nil) .nil) (.node (o86 P) .nil .nil))
noncomputable def t303 (P : Params) : BT := (.node (o17 P) (t167 P) (t302 P))
noncomputable def t304 (P : Params) : BT := (.node (o10 P) (t303 P) (t207 P))
noncomputable def t305 (P : Params) : BT := (.node (o6 P) (t304 P) (t256 P))
noncomputable def t306 (P : Params) : BT := (.node (o2 P) (t281 P) (t305 P))
noncomputable def t307 (P : Params) : BT := (.node (o0 P) (t300 P) (t306 P))
noncomputable def S21a11 (w : World) (os : OsState) : SharedT := let P := w.params; ⟨(t307 P), 147, life0, ⟨[]⟩, ⟨0, 0, 0, 0⟩, 1097, os⟩
noncomputable def dl34 (P : Params) : List DictEntry := dl32 P ++ dl33 P
noncomputable def o133 (P : Params) : Obj := ⟨(.type "dict"), none, (.dict ⟨dl34 P⟩ 204), ⟨[]⟩⟩
noncomputable def t308 (P : Params) : BT := (.node (o35 P) (.node (o59 P) (.node (o133 P) .nil .nil) .nil) (.node (o8 P) .nil .nil))
noncomputable def t309 (P : Params) : BT := (.node (o22 P) (t308 P) (.node (o7 P) (.node (o69 P) .nil .nil) (.node (o91 P) .nil .nil)))
noncomputable def t310 (P : Params) : BT := (.node (o7 P) (t267 P) (t309 P))
noncomputable def t311 (P : Params) : BT := (.node (o105 P) (t310 P) (t220 P))
noncomputable def t312 (P : Params) : BT := (.node (o1 P) (t311 P) (t293 P))
noncomputable def t313 (P : Params) : BT := (.node (o0 P) (t312 P) (t306 P))
noncomputable def S21b11 (w : World) (os : OsState) : SharedT := let P := w.params; ⟨(t313 P), 147, life0, ⟨[]⟩, ⟨0, 0, 0, 0⟩, 1097, os⟩
noncomputable def dl35 (P : Params) : List DictEntry := [⟨119810, (.int 119810 1097), (.str ⟨⟨[99]⟩⟩ 1098)⟩, ⟨119811, (.int 119811 1100), (.str ⟨⟨[100]⟩⟩ 1101)⟩, ⟨119812, (.int 119812 1103), (.str ⟨⟨[101]⟩⟩ 1104)⟩, ⟨119813, (.int 119813 1106), (.str ⟨⟨[102]⟩⟩ 1107)⟩, ⟨119814, (.int 119814 1109), (.str ⟨⟨[103]⟩⟩ 1110)⟩, ⟨119815, (.int 119815 1112), (.str ⟨⟨[104]⟩⟩ 1113)⟩, ⟨119816, (.int 119816 1115), (.str ⟨⟨[105]⟩⟩ 1116)⟩, ⟨119817, (.int 119817 1118), (.str ⟨⟨[106]⟩⟩ 1119)⟩, ⟨119818, (.int 119818 1121), (.str ⟨⟨[107]⟩⟩ 1122)⟩, ⟨119819, (.int 119819 1124), (.str ⟨⟨[108]⟩⟩ 1125)⟩, ⟨119820, (.int 119820 1127), (.str ⟨⟨[109]⟩⟩ 1128)⟩, ⟨119821, (.int 119821 1130), (.str ⟨⟨[110]⟩⟩ 1131)⟩, ⟨119822, (.int 119822 1133), (.str ⟨⟨[111]⟩⟩ 1134)⟩, ⟨119823, (.int 119823 1136), (.str ⟨⟨[112]⟩⟩ 1137)⟩, ⟨119824, (.int 119824 1139), (.str ⟨⟨[113]⟩⟩ 1140)⟩, ⟨119825, (.int 119825 1142), (.str ⟨⟨[114]⟩⟩ 1143)⟩, ⟨119826, (.int 119826 1145), (.str ⟨⟨[115]⟩⟩ 1146)⟩]
noncomputable def o134 (P : Params) : Obj := ⟨(.type "dict"), none, (.dict ⟨dl35 P⟩ 17), ⟨[]⟩⟩
noncomputable def t314 (P : Params) : BT := (.node (o43 P) (.node (o66 P) (.node (o134 P) .nil .nil) .nil) (.node (o87 P) .nil .nil))
noncomputable def t315 (P : Params) : BT := (.node (o18 P) (t147 P) (t314 P))
noncomputable def t316 (P : Params) : BT := (.node (o11 P) (t315 P) (t219 P))
noncomputable def t317 (P : Params) : BT := (.node (o105 P) (t310 P) (t316 P))
noncomputable def t318 (P : Params) : BT := (.node (o1 P) (t317 P) (t293 P))
noncomputable def t319 (P : Params) : BT := (.node (o0 P) (t318 P) (t306 P))
noncomputable def S21a12 (w : World) (os : OsState) : SharedT := let P := w.params; ⟨(t319 P), 148, life0, ⟨[]⟩, ⟨0, 0, 0, 0⟩, 1148, os⟩
noncomputable def dl36 (P : Params) : List DictEntry := dl34 P ++ dl35 P
noncomputable def o135 (P : Params) : Obj := ⟨(.type "dict"), none, (.dict ⟨dl36 P⟩ 221), ⟨[]⟩⟩
noncomputable def t320 (P : Params) : BT := (.node (o35 P) (.node (o59 P) (.node (o135 P) .nil .nil) .nil) (.node (o8 P) .nil .nil))
noncomputable def t321 (P : Params) : BT := (.node (o22 P) (t320 P) (.node (o7 P) (.node (o69 P) .nil .nil) (.node (o91 P) .nil .nil)))
noncomputable def t322 (P : Params) : BT := (.node (o7 P) (t267 P) (t321 P))
noncomputable def t323 (P : Params) : BT := (.node (o105 P) (t322 P) (t316 P))
noncomputable def t324 (P : Params) : BT := (.node (o1 P) (t323 P) (t293 P))
noncomputable def t325 (P : Params) : BT := (.node (o0 P) (t324 P) (t306 P))
noncomputable def S21b12 (w : World) (os : OsState) : SharedT := let P := w.params; ⟨(t325 P), 148, life0, ⟨[]⟩, ⟨0, 0, 0, 0⟩, 1148, os⟩
noncomputable def dl37 (P : Params) : List DictEntry := [⟨119827, (.int 119827 1148), (.str ⟨⟨[116]⟩⟩ 1149)⟩, ⟨119828, (.int 119828 1151), (.str ⟨⟨[117]⟩⟩ 1152)⟩, ⟨119829, (.int 119829 1154), (.str ⟨⟨[118]⟩⟩ 1155)⟩, ⟨119830, (.int 119830 1157), (.str ⟨⟨[119]⟩⟩ 1158)⟩, ⟨119831, (.int 119831 1160), (.str ⟨⟨[120]⟩⟩ 1161)⟩, ⟨119832, (.int 119832 1163), (.str ⟨⟨[121]⟩⟩ 1164)⟩, ⟨119833, (.int 119833 1166), (.str ⟨⟨[122]⟩⟩ 1167)⟩, ⟨119860, (.int 119860 1169), (.str ⟨⟨[97]⟩⟩ 1170)⟩, ⟨119861, (.int 119861 1172), (.str ⟨⟨[98]⟩⟩ 1173)⟩, ⟨119862, (.int 119862 1175), (.str ⟨⟨[99]⟩⟩ 1176)⟩, ⟨119863, (.int 119863 1178), (.str ⟨⟨[100]⟩⟩ 1179)⟩, ⟨119864, (.int 119864 1181), (.str ⟨⟨[101]⟩⟩ 1182)⟩, ⟨119865, (.int 119865 1184), (.str ⟨⟨[102]⟩⟩ 1185)⟩, ⟨119866, (.int 119866 1187), (.str ⟨⟨[103]⟩⟩ 1188)⟩, ⟨119867, (.int 119867 1190), (.str ⟨⟨[104]⟩⟩ 1191)⟩, ⟨119868, (.int 119868 1193), (.str ⟨⟨[105]⟩⟩ 1194)⟩, ⟨119869, (.int 119869 1196), (.str ⟨⟨[106]⟩⟩ 1197)⟩]
noncomputable def o136 (P : Params) : Obj := ⟨(.type "dict"), none, (.dict ⟨dl37 P⟩ 17), ⟨[]⟩⟩
noncomputable def t326 (P : Params) : BT := (.node (o46 P) (.node (o7 P) (.node (o136 P) .nil .nil) .nil) (.node (o88 P) .nil .nil))
noncomputable def t327 (P : Params) : BT := (.node (o19 P) (t163 P) (t326 P))
noncomputable def t328 (P : Params) : BT := (.node (o12 P) (t327 P) (t231 P))
noncomputable def t329 (P : Params) : BT := (.node (o4 P) (t280 P) (t328 P))
noncomputable def t330 (P : Params) : BT := (.node (o2 P) (t329 P) (t305 P))
noncomputable def t331 (P : Params) : BT := (.node (o0 P) (t324 P) (t330 P))
noncomputable def S21a13 (w : World) (os : OsState) : SharedT := let P := w.params; ⟨(t331 P), 149, life0, ⟨[]⟩, ⟨0, 0, 0, 0⟩, 1199, os⟩
noncomputable def dl38 (P : Params) : List DictEntry := dl36 P ++ dl37 P
noncomputable def o137 (P : Params) : Obj := ⟨(.type "dict"), none, (.dict ⟨dl38 P⟩ 238), ⟨[]⟩⟩
noncomputable def t332 (P : Params) : BT := (.node (o35 P) (.node (o59 P) (.node (o137 P) .nil .nil) .nil) (.node (o8 P) .nil .nil))
noncomputable def t333 (P : Params) : BT := (.node (o22 P) (t332 P) (.node (o7 P) (.node (o69 P) .nil .nil) (.node (o91 P) .nil .nil)))
noncomputable def t334 (P : Params) : BT := (.node (o7 P) (t267 P) (t333 P))
noncomputable def t335 (P : Params) : BT := (.node (o105 P) (t334 P) (t316 P))
noncomputable def t336 (P : Params) : BT := (.node (o1 P) (t335 P) (t293 P))
noncomputable def t337 (P : Params) : BT := (.node (o0 P) (t336 P) (t330 P))
noncomputable def S21b13 (w : World) (os : OsState) : SharedT := let P := w.params; ⟨(t337 P), 149, life0, ⟨[]⟩, ⟨0, 0, 0, 0⟩, 1199, os⟩
noncomputable def dl39 (P : Params) : List DictEntry := [⟨119870, (.int 119870 1199), (.str ⟨⟨[107]⟩⟩ 1200)⟩, ⟨119871, (.int 119871 1202), (.str ⟨⟨[108]⟩⟩ 1203)⟩, ⟨119872, (.int 119872 1205), (.str ⟨⟨[109]⟩⟩ 1206)⟩, ⟨119873, (.int 119873 1208), (.str ⟨⟨[110]⟩⟩ 1209)⟩, ⟨119874, (.int 119874 1211), (.str ⟨⟨[111]⟩⟩ 1212)⟩, ⟨119875, (.int 119875 1214), (.str ⟨⟨[112]⟩⟩ 1215)⟩, ⟨119876, (.int 119876 1217), (.str ⟨⟨[113]⟩⟩ 1218)⟩, ⟨119877, (.int 119877 1220), (.str ⟨⟨[114]⟩⟩ 1221)⟩, ⟨119878, (.int 119878 1223), (.str ⟨⟨[115]⟩⟩ 1224)⟩, ⟨119879, (.int 119879 1226), (.str ⟨⟨[116]⟩⟩ 1227)⟩, ⟨119880, (.int 119880 1229), (.str ⟨⟨[117]⟩⟩ 1230)⟩, ⟨119881, (.int 119881 1232), (.str ⟨⟨[118]⟩⟩ 1233)⟩, ⟨119882, (.int 119882 1235), (.str ⟨⟨[119]⟩⟩ 1236)⟩, ⟨119883, (.int 119883 1238), (.str ⟨⟨[120]⟩⟩ 1239)⟩, ⟨119884, (.int 119884 1241), (.str ⟨⟨[121]⟩⟩ 1242)⟩, ⟨119885, (.int 119885 1244), (.str ⟨⟨[122]⟩⟩ 1245)⟩, ⟨119912, (.int 119912 1247), (.str ⟨⟨[97]⟩⟩ 1248)⟩]
noncomputable def o138 (P : Params) : Obj := ⟨(.type "dict"), none, (.dict ⟨dl39 P⟩ 17), ⟨[]⟩⟩
noncomputable def t338 (P : Params) : BT := (.node (o47 P) (.node (o67 P) (.node (o138 P) .nil .nil) .nil) (.node (o89 P) .nil .nil))
noncomputable def t339 (P : Params) : BT := (.node (o20 P) (t154 P) (t338 P))
noncomputable def t340 (P : Params) : BT := (.node (o13 P) (t339 P) (t243 P))
noncomputable def t341 (P : Params) : BT := (.node (o5 P) (t292 P) (t340 P))
noncomputable def t342 (P : Params) : BT := (.node (o1 P) (t335 P) (t341 P))
noncomputable def t343 (P : Params) : BT := (.node (o0 P) (t342 P) (t330 P))
noncomputable def S21a14 (w : World) (os : OsState) : SharedT := let P := w.params; ⟨(t343 P), 150, life0, ⟨[]⟩, ⟨0, 0, 0, 0⟩, 1250, os⟩
noncomputable def dl40 (P : Params) : List DictEntry := dl38 P ++ dl39 P
noncomputable def o139 (P : Params) : Obj := ⟨(.type "dict"), none, (.dict ⟨dl40 P⟩ 255), ⟨[]⟩⟩
noncomputable def t344 (P : Params) : BT := (.node (o35 P) (.node (o59 P) (.node (o139 P) .nil .nil) .nil) (.node (o8 P) .nil .nil))
noncomputable def t345 (P : Params) : BT := (.node (o22 P) (t344 P) (.node (o7 P) (.node (o69 P) .nil .nil) (.node (o91 P) .nil .nil)))
noncomputable def t346 (P : Params) : BT := (.node (o7 P) (t267 P) (t345 P))
noncomputable def t347 (P : Params) : BT := (.node (o105 P) (t346 P) (t316 P))
noncomputable def t348 (P : Params) : BT := (.node (o1 P) (t347 P) (t341 P))
noncomputable def t349 (P : Params) : BT := (.node (o0 P) (t348 P) (t330 P))
noncomputable def S21b14 (w : World) (os : OsState) : SharedT := let P := w.params; ⟨(t349 P), 150, life0, ⟨[]⟩, ⟨0, 0, 0, 0⟩, 1250, os⟩
noncomputable def dl41 (P : Params) : List DictEntry := [⟨119913, (.int 119913 1250), (.str ⟨⟨[98]⟩⟩ 1251)⟩, ⟨119914, (.int 119914 1253), (.str ⟨⟨[99]⟩⟩ 1254)⟩, ⟨119915, (.int 119915 1256), (.str ⟨⟨[100]⟩⟩ 1257)⟩, ⟨119916, (.int 119916 1259), (.str ⟨⟨[101]⟩⟩ 1260)⟩, ⟨119917, (.int 119917 1262), (.str ⟨⟨[102]⟩⟩ 1263)⟩, ⟨119918, (.int 119918 1265), (.str ⟨⟨[103]⟩⟩ 1266)⟩, ⟨119919, (.int 119919 1268), (.str ⟨⟨[104]⟩⟩ 1269)⟩, ⟨119920, (.int 119920 1271), (.str ⟨⟨[105]⟩⟩ 1272)⟩, ⟨119921, (.int 119921 1274), (.str ⟨⟨[106]⟩⟩ 1275)⟩, ⟨119922, (.int 119922 1277), (.str ⟨⟨[107]⟩⟩ 1278)⟩, ⟨119923, (.int 119923 1280), (.str ⟨⟨[108]⟩⟩ 1281)⟩, ⟨119924, (.int 119924 1283), (.str ⟨⟨[109]⟩⟩ 1284)⟩, ⟨119925, (.int 119925 1286), (.str ⟨⟨[110]⟩⟩ 1287)⟩, ⟨119926, (.int 119926 1289), (.str ⟨⟨[111]⟩⟩ 1290)⟩, ⟨119927, (.int 119927 1292), (.str ⟨⟨[112]⟩⟩ 1293)⟩, ⟨119928, (.int 119928 1295), (.str ⟨⟨[113]⟩⟩ 1296)⟩, ⟨119929, (.int 119929 1298), (.str ⟨⟨[114]⟩⟩ 1299)⟩]
noncomputable def o140 (P : Params) : Obj := ⟨(.type "dict"), none, (.dict ⟨dl41 P⟩ 17), ⟨[]⟩⟩
noncomputable def t350 (P : Params) : BT := (.node (o48 P) (.node (o68 P) (.node (o140 P) .nil .nil) .nil) (.node (o90 P) .nil .nil))
noncomputable def t351 (P : Params) : BT := (.node (o21 P) (t170 P) (t350 P))
noncomputable def t352 (P : Params) : BT := (.node (o14 P) (t351 P) (t255 P))
noncomputable def t353 (P : Params) : BT := (.node (o6 P) (t304 P) (t352 P))
noncomputable def t354 (P : Params) : BT := (.node (o2 P) (t329 P) (t353 P))
noncomputable def t355 (P : Params) : BT := (.node (o0 P) (t348 P) (t354 P))
noncomputable def S21a15 (w : World) (os : OsState) : SharedT := let P := w.params; ⟨(t355 P), 151, life0, ⟨[]⟩, ⟨0, 0, 0, 0⟩, 1301, os⟩
noncomputable def dl42 (P : Params) : List DictEntry := dl40 P ++ dl41 P
noncomputable def o141 (P : Params) : Obj := ⟨(.type "dict"), none, (.dict ⟨dl42 P⟩ 272), ⟨[]⟩⟩
noncomputable def t356 (P : Params) : BT := (.node (o35 P) (.node (o59 P) (.node (o141 P) .nil .nil) .nil) (.node (o8 P) .nil .nil))
noncomputable def t357 (P : Params) : BT := (.node (o22 P) (t356 P) (.node (o7 P) (.node (o69 P) .nil .nil) (.node (o91 P) .nil .nil)))
noncomputable def t358 (P : Params) : BT := (.node (o7 P) (t267 P) (t357 P))
noncomputable def t359 (P : Params) : BT := (.node (o105 P) (t358 P) (t316 P))
noncomputable def t360 (P : Params) : BT := (.node (o1 P) (t359 P) (t341 P))
noncomputable def t361 (P : Params) : BT := (.node (o0 P) (t360 P) (t354 P))
noncomputable def S21b15 (w : World) (os : OsState) : SharedT := let P := w.params; ⟨(t361 P), 151, life0, ⟨[]⟩, ⟨0, 0, 0, 0⟩, 1301, os⟩
noncomputable def dl43 (P : Params) : List DictEntry := [⟨119930, (.int 119930 1301), (.str ⟨⟨[115]⟩⟩ 1302)⟩, ⟨119931, (.int 119931 1304), (.str ⟨⟨[116]⟩⟩ 1305)⟩, ⟨119932, (.int 119932 1307), (.str ⟨⟨[117]⟩⟩ 1308)⟩, ⟨119933, (.int 119933 1310), (.str ⟨⟨[118]⟩⟩ 1311)⟩, ⟨119934, (.int 119934 1313), (.str ⟨⟨[119]⟩⟩ 1314)⟩, ⟨119935, (.int 119935 1316), (.str ⟨⟨[120]⟩⟩ 1317)⟩, ⟨119936, (.int 119936 1319), (.str ⟨⟨[121]⟩⟩ 1320)⟩, ⟨119937, (.int 119937 1322), (.str ⟨⟨[122]⟩⟩ 1323)⟩, ⟨119964, (.int 119964 1325), (.str ⟨⟨[97]⟩⟩ 1326)⟩, ⟨119966, (.int 119966 1328), (.str ⟨⟨[99]⟩⟩ 1329)⟩, ⟨119967, (.int 119967 1331), (.str ⟨⟨[100]⟩⟩ 1332)⟩, ⟨119970, (.int 119970 1334), (.str ⟨⟨[103]⟩⟩ 1335)⟩, ⟨119973, (.int 119973 1337), (.str ⟨⟨[106]⟩⟩ 1338)⟩, ⟨119974, (.int 119974 1340), (.str ⟨⟨[107]⟩⟩ 1341)⟩, ⟨119977, (.int 119977 1343), (.str ⟨⟨[110]⟩⟩ 1344)⟩, ⟨119978, (.int 119978 1346), (.str ⟨⟨[111]⟩⟩ 1347)⟩, ⟨119979, (.int 119979 1349), (.str ⟨⟨[112]⟩⟩ 1350)⟩]
noncomputable def o142 (P : Params) : Obj := ⟨(.type "dict"), none, (.dict ⟨dl43 P⟩ 17), ⟨[]⟩⟩
noncomputable def t362 (P : Params) : BT := (.node (o7 P) (.node (o69 P) (.node (o142 P) .nil .nil) .nil) (.node (o91 P) .nil .nil))
noncomputable def t363 (P : Params) : BT := (.node (o22 P) (t356 P) (t362 P))
noncomputable def t364 (P : Params) : BT := (.node (o7 P) (t267 P) (t363 P))
noncomputable def t365 (P : Params) : BT := (.node (o105 P) (t364 P) (t316 P))
noncomputable def t366 (P : Params) : BT := (.node (o1 P) (t365 P) (t341 P))
noncomputable def t367 (P : Params) : BT := (.node (o0 P) (t366 P) (t354 P))
noncomputable def S21a16 (w : World) (os : OsState) : SharedT := let P := w.params; ⟨(t367 P), 152, life0, ⟨[]⟩, ⟨0, 0, 0, 0⟩, 1352, os⟩
noncomputable def dl44 (P : Params) : List DictEntry := dl42 P ++ dl43 P
noncomputable def o143 (P : Params) : Obj := ⟨(.type "dict"), none, (.dict ⟨dl44 P⟩ 289), ⟨[]⟩⟩
noncomputable def t368 (P : Params) : BT := (.node (o35 P) (.node (o59 P) (.node (o143 P) .nil .nil) .nil) (.node (o8 P) .nil .nil))
noncomputable def t369 (P : Params) : BT := (.node (o22 P) (t368 P) (t362 P))
noncomputable def t370 (P : Params) : BT := (.node (o7 P) (t267 P) (t369 P))
noncomputable def t371 (P : Params) : BT := (.node (o105 P) (t370 P) (t316 P))
noncomputable def t372 (P : Params) : BT := (.node (o1 P) (t371 P) (t341 P))
noncomputable def t373 (P : Params) : BT := (.node (o0 P) (t372 P) (t354 P))
noncomputable def S21b16 (w : World) (os : OsState) : SharedT := let P := w.params; ⟨(t373 P), 152, life0, ⟨[]⟩, ⟨0, 0, 0, 0⟩, 1352, os⟩
noncomputable def dl45 (P : Params) : List DictEntry := [⟨119980, (.int 119980 1352), (.str ⟨⟨[113]⟩⟩ 1353)⟩, ⟨119982, (.int 119982 1355), (.str ⟨⟨[115]⟩⟩ 1356)⟩, ⟨119983, (.int 119983 1358), (.str ⟨⟨[116]⟩⟩ 1359)⟩, ⟨119984, (.int 119984 1361), (.str ⟨⟨[117]⟩⟩ 1362)⟩, ⟨119985, (.int 119985 1364), (.str ⟨⟨[118]⟩⟩ 1365)⟩, ⟨119986, (.int 119986 1367), (.str ⟨⟨[119]⟩⟩ 1368)⟩, ⟨119987, (.int 119987 1370), (.str ⟨⟨[120]⟩⟩ 1371)⟩, ⟨119988, (.int 119988 1373), (.str ⟨⟨[121]⟩⟩ 1374)⟩, ⟨119989, (.int 119989 1376), (.str ⟨⟨[122]⟩⟩ 1377)⟩, ⟨120016, (.int 120016 1379), (.str ⟨⟨[97]⟩⟩ 1380)⟩, ⟨120017, (.int 120017 1382), (.str ⟨⟨[98]⟩⟩ 1383)⟩, ⟨120018, (.int 120018 1385), (.str ⟨⟨[99]⟩⟩ 1386)⟩, ⟨120019, (.int 120019 1388), (.str ⟨⟨[100]⟩⟩ 1389)⟩, ⟨120020, (.int 120020 1391), (.str ⟨⟨[101]⟩⟩ 1392)⟩, ⟨120021, (.int 120021 1394), (.str ⟨⟨[102]⟩⟩ 1395)⟩, ⟨120022, (.int 120022 1397), (.str ⟨⟨[103]⟩⟩ 1398)⟩, ⟨120023, (.int 120023 1400), (.str ⟨⟨[104]⟩⟩ 1401)⟩]
noncomputable def o144 (P : Params) : Obj := ⟨(.type "dict"), none, (.dict ⟨dl45 P⟩ 17), ⟨[]⟩⟩
noncomputable def t374 (P : Params) : BT := (.node (o8 P) (.node (o7 P) (.node (o144 P) .nil .nil) .nil) (.node (o92 P) .nil .nil))
noncomputable def t375 (P : Params) : BT := (.node (o23 P) (t182 P) (t374 P))
noncomputable def t376 (P : Params) : BT := (.node (o8 P) (t279 P) (t375 P))
noncomputable def t377 (P : Params) : BT := (.node (o4 P) (t376 P) (t328 P))
noncomputable def t378 (P : Params) : BT := (.node (o2 P) (t377 P) (t353 P))
noncomputable def t379 (P : Params) : BT := (.node (o0 P) (t372 P) (t378 P))
noncomputable def S21a17 (w : World) (os : OsState) : SharedT := let P := w.params; ⟨(t379 P), 153, life0, ⟨[]⟩, ⟨0, 0, 0, 0⟩, 1403, os⟩
noncomputable def dl46 (P : Params) : List DictEntry := dl44 P ++ dl45 P
noncomputable def o145 (P : Params) : Obj := ⟨(.type "dict"), none, (.dict ⟨dl46 P⟩ 306), ⟨[]⟩⟩
noncomputable def t380 (P : Params) : BT := (.node (o35 P) (.node (o59 P) (.node (o145 P) .nil .nil) .nil) (.node (o8 P) .nil .nil))
noncomputable def t381 (P : Params) : BT := (.node (o22 P) (t380 P) (t362 P))
noncomputable def t382 (P : Params) : BT := (.node (o7 P) (t267 P) (t381 P))
noncomputable def t383 (P : Params) : BT := (.node (o105 P) (t382 P) (t316 P))
noncomputable def t384 (P : Params) : BT := (.node (o1 P) (t383 P) (t341 P))
noncomputable def t385 (P : Params) : BT := (.node (o0 P) (t384 P) (t378 P))
noncomputable def S21b17 (w : World) (os : OsState) : SharedT := let P := w.params; ⟨(t385 P), 153, life0, ⟨[]⟩, ⟨0, 0, 0, 0⟩, 1403, os⟩
noncomputable def dl47 (P : Params) : List DictEntry := [⟨120024, (.int 120024 1403), (.str ⟨⟨[105]⟩⟩ 1404)⟩, ⟨120025, (.int 120025 1406), (.str ⟨⟨[106]⟩⟩ 1407)⟩, ⟨120026, (.int 120026 1409), (.str ⟨⟨[107]⟩⟩ 1410)⟩, ⟨120027, (.int 120027 1412), (.str ⟨⟨[108]⟩⟩ 1413)⟩, ⟨120028, (.int 120028 1415), (.str ⟨⟨[109]⟩⟩ 1416)⟩, ⟨120029, (.int 120029 1418), (.str ⟨⟨[110]⟩⟩ 1419)⟩, ⟨120030, (.int 120030 1421), (.str ⟨⟨[111]⟩⟩ 1422)⟩, ⟨120031, (.int 120031 1424), (.str ⟨⟨[112]⟩⟩ 1425)⟩, ⟨120032, (.int 120032 1427), (.str ⟨⟨[113]⟩⟩ 1428)⟩, ⟨120033, (.int 120033 1430), (.str ⟨⟨[114]⟩⟩ 1431)⟩, ⟨120034, (.int 120034 1433), (.str ⟨⟨[115]⟩⟩ 1434)⟩, ⟨120035, (.int 120035 1436), (.str ⟨⟨[116]⟩⟩ 1437)⟩, ⟨120036, (.int 120036 1439), (.str ⟨⟨[117]⟩⟩ 1440)⟩, ⟨120037, (.int 120037 1442), (.str ⟨⟨[118]⟩⟩ 1443)⟩, ⟨120038, (.int 120038 1445), (.str ⟨⟨[119]⟩⟩ 1446)⟩, ⟨120039, (.int 120039 1448), (.str ⟨⟨[120]⟩⟩ 1449)⟩, ⟨120040, (.int 120040 1451), (.str ⟨⟨[121]⟩⟩ 1452)⟩]
noncomputable def o146 (P : Params) : Obj := ⟨(.type "dict"), none, (.dict ⟨dl47 P⟩ 17), ⟨[]⟩⟩
noncomputable def t386 (P : Params) : BT := (.node (o49 P) (.node (o8 P) (.node (o146 P) .nil .nil) .nil) (.node (o7 P) .nil .nil))
noncomputable def t387 (P : Params) : BT := (.node (o24 P) (t194 P) (t386 P))
noncomputable def t388 (P : Params) : BT := (.node (o9 P) (t291 P) (t387 P))
noncomputable def t389 (P : Params) : BT := (.node (o5 P) (t388 P) (t340 P))
noncomputable def t390 (P : Params) : BT := (.node (o1 P) (t383 P) (t389 P))
noncomputable def t391 (P : Params) : BT := (.node (o0 P) (t390 P) (t378 P))
noncomputable def S21a18 (w : World) (os : OsState) : SharedT := let P := w.params; ⟨(t391 P), 154, life0, ⟨[]⟩, ⟨0, 0, 0, 0⟩, 1454, os⟩
noncomputable def dl48 (P : Params) : List DictEntry := dl46 P ++ dl47 P
noncomputable def o147 (P : Params) : Obj := ⟨(.type "dict"), none, (.dict ⟨dl48 P⟩ 323), ⟨[]⟩⟩
noncomputable def t392 (P : Params) : BT := (.node (o35 P) (.node (o59 P) (.node (o147 P) .nil .nil) .nil) (.node (o8 P) .nil .nil))
noncomputable def t393 (P : Params) : BT := (.node (o22 P) (t392 P) (t362 P))
noncomputable def t394 (P : Params) : BT := (.node (o7 P) (t267 P) (t393 P))
noncomputable def t395 (P : Params) : BT := (.node (o105 P) (t394 P) (t316 P))
noncomputable def t396 (P : Params) : BT := (.node (o1 P) (t395 P) (t389 P))
noncomputable def t397 (P : Params) : BT := (.node (o0 P) (t396 P) (t378 P))
noncomputable def S21b18 (w : World) (os : OsState) : SharedT := let P := w.params; ⟨(t397 P), 154, life0, ⟨[]⟩, ⟨0, 0, 0, 0⟩, 1454, os⟩
noncomputable def dl49 (P : Params) : List DictEntry := [⟨120041, (.int 120041 1454), (.str ⟨⟨[122]⟩⟩ 1455)⟩, ⟨120068, (.int 120068 1457), (.str ⟨⟨[97]⟩⟩ 1458)⟩, ⟨120069, (.int 120069 1460), (.str ⟨⟨[98]⟩⟩ 1461)⟩, ⟨120071, (.int 120071 1463), (.str ⟨⟨[100]⟩⟩ 1464)⟩, ⟨120072, (.int 120072 1466), (.str ⟨⟨[101]⟩⟩ 1467)⟩, ⟨120073, (.int 120073 1469), (.str ⟨⟨[102]⟩⟩ 1470)⟩, ⟨120074, (.int 120074 1472), (.str ⟨⟨[103]⟩⟩ 1473)⟩, ⟨120077, (.int 120077 1475), (.str ⟨⟨[106]⟩⟩ 1476)⟩, ⟨120078, (.int 120078 1478), (.str ⟨⟨[107]⟩⟩ 1479)⟩, ⟨120079, (.int 120079 1481), (.str ⟨⟨[108]⟩⟩ 1482)⟩, ⟨120080, (.int 120080 1484), (.str ⟨⟨[109]⟩⟩ 1485)⟩, ⟨120081, (.int 120081 1487), (.str ⟨⟨[110]⟩⟩ 1488)⟩, ⟨120082, (.int 120082 1490), (.str ⟨⟨[111]⟩⟩ 1491)⟩, ⟨120083, (.int 120083 1493), (.str ⟨⟨[112]⟩⟩ 1494)⟩, ⟨120084, (.int 120084 1496), (.str ⟨⟨[113]⟩⟩ 1497)⟩, ⟨120086, (.int 120086 1499), (.str ⟨⟨[115]⟩⟩ 1500)⟩, ⟨120087, (.int 120087 1502), (.str ⟨⟨[116]⟩⟩ 1503)⟩]
noncomputable def o148 (P : Params) : Obj := ⟨(.type "dict"), none, (.dict ⟨dl49 P⟩ 17), ⟨[]⟩⟩
noncomputable def t398 (P : Params) : BT := (.node (o50 P) (.node (o72 P) (.node (o148 P) .nil .nil) .nil) (.node (o93 P) .nil .nil))
noncomputable def t399 (P : Params) : BT := (.node (o25 P) (t206 P) (t398 P))
noncomputable def t400 (P : Params) : BT := (.node (o10 P) (t303 P) (t399 P))
noncomputable def t401 (P : Params) : BT := (.node (o6 P) (t400 P) (t352 P))
noncomputable def t402 (P : Params) : BT := (.node (o2 P) (t377 P) (t401 P))
noncomputable def t403 (P : Params) : BT := (.node (o0 P) (t396 P) (t402 P))
noncomputable def S21a19 (w : World) (os : OsState) : SharedT := let P := w.params; ⟨(t403 P), 155, life0, ⟨[]⟩, ⟨0, 0, 0, 0⟩, 1505, os⟩
noncomputable def dl50 (P : Params) : List DictEntry := dl48 P ++ dl49 P
noncomputable def o149 (P : Params) : Obj := ⟨(.type "dict"), none, (.dict ⟨dl50 P⟩ 340), ⟨[]⟩⟩
noncomputable def t404 (P : Params) : BT := (.node (o35 P) (.node (o59 P) (.node (o149 P) .nil .nil) .nil) (.node (o8 P) .nil .nil))
noncomputable def t405 (P : Params) : BT := (.node (o22 P) (t404 P) (t362 P))
noncomputable def t406 (P : Params) : BT := (.node (o7 P) (t267 P) (t405 P))
noncomputable def t407 (P : Params) : BT := (.node (o105 P) (t406 P) (t316 P))
noncomputable def t408 (P : Params) : BT := (.node (o1 P) (t407 P) (t389 P))
noncomputable def t409 (P : Params) : BT := (.node (o0 P) (t408 P) (t402 P))
noncomputable def S21b19 (w : World) (os : OsState) : SharedT := let P := w.params; ⟨(t409 P), 155, life0, ⟨[]⟩, ⟨0, 0, 0, 0⟩, 1505, os⟩
noncomputable def dl51 (P : Params) : List DictEntry := [⟨120088, (.int 120088 1505), (.str ⟨⟨[117]⟩⟩ 1506)⟩, ⟨120089, (.int 120089 1508), (.str ⟨⟨[118]⟩⟩ 1509)⟩, ⟨120090, (.int 120090 1511), (.str ⟨⟨[119]⟩⟩ 1512)⟩, ⟨120091, (.int 120091 1514), (.str ⟨⟨[120]⟩⟩ 1515)⟩, ⟨120092, (.int 120092 1517), (.str ⟨⟨[121]⟩⟩ 1518)⟩, ⟨120120, (.int 120120 1520), (.str ⟨⟨[97]⟩⟩ 1521)⟩, ⟨120121, (.int 120121 1523), (.str ⟨⟨[98]⟩⟩ 1524)⟩, ⟨120123, (.int 120123 1526), (.str ⟨⟨[100]⟩⟩ 1527)⟩, ⟨120124, (.int 120124 1529), (.str ⟨⟨[101]⟩⟩ 1530)⟩, ⟨120125, (.int 120125 1532), (.str ⟨⟨[102]⟩⟩ 1533)⟩, ⟨120126, (.int 120126 1535), (.str ⟨⟨[103]⟩⟩ 1536)⟩, ⟨120128, (.int 120128 1538), (.str ⟨⟨[105]⟩⟩ 1539)⟩, ⟨120129, (.int 120129 1541), (.str ⟨⟨[106]⟩⟩ 1542)⟩, ⟨120130, (.int 120130 1544), (.str ⟨⟨[107]⟩⟩ 1545)⟩, ⟨120131, (.int 120131 1547), (.str ⟨⟨[108]⟩⟩ 1548)⟩, ⟨120132, (.int 120132 1550), (.str ⟨⟨[109]⟩⟩ 1551)⟩, ⟨120134, (.int 120134 1553), (.str ⟨⟨[111]⟩⟩ 1554)⟩]
noncomputable def o150 (P : Params) : Obj := ⟨(.type "dict"), none, (.dict ⟨dl51 P⟩ 17), ⟨[]⟩⟩
noncomputable def t410 (P : Params) : BT := (.node (o7 P) (.node (o7 P) (.node (o150 P) .nil .nil) .nil) (.node (o94 P) .nil .nil))
noncomputable def t411 (P : Params) : BT := (.node (o26 P) (t218 P) (t410 P))
noncomputable def t412 (P : Params) : BT := (.node (o11 P) (t315 P) (t411 P))
noncomputable def t413 (P : Params) : BT := (.node (o105 P) (t406 P) (t412 P))
noncomputable def t414 (P : Params) : BT := (.node (o1 P) (t413 P) (t389 P))
noncomputable def t415 (P : Params) : BT := (.node (o0 P) (t414 P) (t402 P))
noncomputable def S21a20 (w : World) (os : OsState) : SharedT := let P := w.params; ⟨(t415 P), 156, life0, ⟨[]⟩, ⟨0, 0, 0, 0⟩, 1556, os⟩
noncomputable def dl52 (P : Params) : List DictEntry := dl50 P ++ dl51 P
noncomputable def o151 (P : Params) : Obj := ⟨(.type "dict"), none, (.dict ⟨dl52 P⟩ 357), ⟨[]⟩⟩
noncomputable def t416 (P : Params) : BT := (.node (o35 P) (.node (o59 P) (.node (o151 P) .nil .nil) .nil) (.node (o8 P) .nil .nil))
noncomputable def t417 (P : Params) : BT := (.node (o22 P) (t416 P) (t362 P))
noncomputable def t418 (P : Params) : BT := (.node (o7 P) (t267 P) (t417 P))
noncomputable def t419 (P : Params) : BT := (.node (o105 P) (t418 P) (t412 P))
noncomputable def t420 (P : Params) : BT := (.node (o1 P) (t419 P) (t389 P))
noncomputable def t421 (P : Params) : BT := (.node (o0 P) (t420 P) (t402 P))
noncomputable def S21b20 (w : World) (os : OsState) : SharedT := let P := w.params; ⟨(t421 P), 156, life0, ⟨[]⟩, ⟨0, 0, 0, 0⟩, 1556, os⟩
noncomputable def dl53 (P : Params) : List DictEntry := [⟨120138, (.int 120138 1556), (.str ⟨⟨[115]⟩⟩ 1557)⟩, ⟨120139, (.int 120139 1559), (.str ⟨⟨[116]⟩⟩ 1560)⟩, ⟨120140, (.int 120140 1562), (.str ⟨⟨[117]⟩⟩ 1563)⟩, ⟨120141, (.int 120141 1565), (.str ⟨⟨[118]⟩⟩ 1566)⟩, ⟨120142, (.int 120142 1568), (.str ⟨⟨[119]⟩⟩ 1569)⟩, ⟨120143, (.int 120143 1571), (.str ⟨⟨[120]⟩⟩ 1572)⟩, ⟨120144, (.int 120144 1574), (.str ⟨⟨[121]⟩⟩ 1575)⟩, ⟨120172, (.int 120172 1577), (.str ⟨⟨[97]⟩⟩ 1578)⟩, ⟨120173, (.int 120173 1580), (.str ⟨⟨[98]⟩⟩ 1581)⟩, ⟨120174, (.int 120174 1583), (.str ⟨⟨[99]⟩⟩ 1584)⟩, ⟨120175, (.int 120175 1586), (.str ⟨⟨[100]⟩⟩ 1587)⟩, ⟨120176, (.int 120176 1589), (.str ⟨⟨[101]⟩⟩ 1590)⟩, ⟨120177, (.int 120177 1592), (.str ⟨⟨[102]⟩⟩ 1593)⟩, ⟨120178, (.int 120178 1595), (.str ⟨⟨[103]⟩⟩ 1596)⟩, ⟨120179, (.int 120179 1598), (.str ⟨⟨[104]⟩⟩ 1599)⟩, ⟨120180, (.int 120180 1601), (.str ⟨⟨[105]⟩⟩ 1602)⟩, ⟨120181, (.int 120181 1604), (.str ⟨⟨[106]⟩⟩ 1605)⟩]
noncomputable def o152 (P : Params) : Obj := ⟨(.type "dict"), none, (.dict ⟨dl53 P⟩ 17), ⟨[]⟩⟩
noncomputable def t422 (P : Params) : BT := (.node (o51 P) (.node (o73 P) (.node (o152 P) .nil .nil) .nil) (.node (o104 P) .nil .nil))
noncomputable def t423 (P : Params) : BT := (.node (o7 P) (t230 P) (t422 P))
noncomputable def t424 (P : Params) : BT := (.node (o12 P) (t327 P) (t423 P))
noncomputable def t425 (P : Params) : BT := (.node (o4 P) (t376 P) (t424 P))
noncomputable def t426 (P : Params) : BT := (.node (o2 P) (t425 P) (t401 P))
noncomputable def t427 (P : Params) : BT := (.node (o0 P) (t420 P) (t426 P))
noncomputable def S21a21 (w : World) (os : OsState) : SharedT := let P := w.params; ⟨(t427 P), 157, life0, ⟨[]⟩, ⟨0, 0, 0, 0⟩, 1607, os⟩
noncomputable def dl54 (P : Params) : List DictEntry := dl52 P ++ dl53 P
noncomputable def o153 (P : Params) : Obj := ⟨(.type "dict"), none, (.dict ⟨dl54 P⟩ 374), ⟨[]⟩⟩
noncomputable def t428 (P : Params) : BT := (.node (o35 P) (.node (o59 P) (.node (o153 P) .nil .nil) .nil) (.node (o8 P) .nil .nil))
noncomputable def t429 (P : Params) : BT := (.node (o22 P) (t428 P) (t362 P))
noncomputable def t430 (P : Params) : BT := (.node (o7 P) (t267 P) (t429 P))
noncomputable def t431 (P : Params) : BT := (.node (o105 P) (t430 P) (t412 P))
noncomputable def t432 (P : Params) : BT := (.node (o1 P) (t431 P) (t389 P))
noncomputable def t433 (P : Params) : BT := (.node (o0 P) (t432 P) (t426 P))
noncomputable def S21b21 (w : World) (os : OsState) : SharedT := let P := w.params; ⟨(t433 P), 157, life0, ⟨[]⟩, ⟨0, 0, 0, 0⟩, 1607, os⟩
noncomputable def dl55 (P : Params) : List DictEntry := [⟨120182, (.int 120182 1607), (.str ⟨⟨[107]⟩⟩ 1608)⟩, ⟨120183, (.int 120183 1610), (.str ⟨⟨[108]⟩⟩ 1611)⟩, ⟨120184, (.int 120184 1613), (.str ⟨⟨[109]⟩⟩ 1614)⟩, ⟨120185, (.int 120185 1616), (.str ⟨⟨[110]⟩⟩ 1617)⟩, ⟨120186, (.int 120186 1619), (.str ⟨⟨[111]⟩⟩ 1620)⟩, ⟨120187, (.int 120187 1622), (.str ⟨⟨[112]⟩⟩ 1623)⟩, ⟨120188, (.int 120188 1625), (.str ⟨⟨[113]⟩⟩ 1626)⟩, ⟨120189, (.int 120189 1628), (.str ⟨⟨[114]⟩⟩ 1629)⟩, ⟨120190, (.int 120190 1631), (.str ⟨⟨[115]⟩⟩ 1632)⟩, ⟨120191, (.int 120191 1634), (.str ⟨⟨[116]⟩⟩ 1635)⟩, ⟨120192, (.int 120192 1637), (.str ⟨⟨[117]⟩⟩ 1638)⟩, ⟨120193, (.int 120193 1640), (.str ⟨⟨[118]⟩⟩ 1641)⟩, ⟨120194, (.int 120194 1643), (.str ⟨⟨[119]⟩⟩ 1644)⟩, ⟨120195, (.int 120195 1646), (.str ⟨⟨[120]⟩⟩ 1647)⟩, ⟨120196, (.int 120196 1649), (.str ⟨⟨[121]⟩⟩ 1650)⟩, ⟨120197, (.int 120197 1652), (.str ⟨⟨[122]⟩⟩ 1653)⟩, ⟨120224, (.int 120224 1655), (.str ⟨⟨[97]⟩⟩ 1656)⟩]
noncomputable def o154 (P : Params) : Obj := ⟨(.type "dict"), none, (.dict ⟨dl55 P⟩ 17), ⟨[]⟩⟩
noncomputable def t434 (P : Params) : BT := (.node (o52 P) (.node (o74 P) (.node (o154 P) .nil .nil) .nil) (.node (o102 P) .nil .nil))
noncomputable def t435 (P : Params) : BT := (.node (o106 P) (t242 P) (t434 P))
noncomputable def t436 (P : Params) : BT := (.node (o13 P) (t339 P) (t435 P))
noncomputable def t437 (P : Params) : BT := (.node (o5 P) (t388 P) (t436 P))
noncomputable def t438 (P : Params) : BT := (.node (o1 P) (t431 P) (t437 P))
noncomputable def t439 (P : Params) : BT := (.node (o0 P) (t438 P) (t426 P))
noncomputable def S21a22 (w : World) (os : OsState) : SharedT := let P := w.params; ⟨(t439 P), 158, life0, ⟨[]⟩, ⟨0, 0, 0, 0⟩, 1658, os⟩
noncomputable def dl56 (P : Params) : List DictEntry := dl54 P ++ dl55 P
noncomputable def o155 (P : Params) : Obj := ⟨(.type "dict"), none, (.dict ⟨dl56 P⟩ 391), ⟨[]⟩⟩
noncomputable def t440 (P : Params) : BT := (.node (o35 P) (.node (o59 P) (.node (o155 P) .nil .nil) .nil) (.node (o8 P) .nil .nil))
noncomputable def t441 (P : Params) : BT := (.node (o22 P) (t440 P) (t362 P))
noncomputable def t442 (P : Params) : BT := (.node (o7 P) (t267 P) (t441 P))
noncomputable def t443 (P : Params) : BT := (.node (o105 P) (t442 P) (t412 P))
noncomputable def t444 (P : Params) : BT := (.node (o1 P) (t443 P) (t437 P))
noncomputable def t445 (P : Params) : BT := (.node (o0 P) (t444 P) (t426 P))
noncomputable def S21b22 (w : World) (os : OsState) : SharedT := let P := w.params; ⟨(t445 P), 158, life0, ⟨[]⟩, ⟨0, 0, 0, 0⟩, 1658, os⟩
noncomputable def dl57 (P : Params) : List DictEntry := [⟨120225, (.int 120225 1658), (.str ⟨⟨[98]⟩⟩ 1659)⟩, ⟨120226, (.int 120226 1661), (.str ⟨⟨[99]⟩⟩ 1662)⟩, ⟨120227, (.int 120227 1664), (.str ⟨⟨[100]⟩⟩ 1665)⟩, ⟨120228, (.int 120228 1667), (.str ⟨⟨[101]⟩⟩ 1668)⟩, ⟨120229, (.int 120229 1670), (.str ⟨⟨[102]⟩⟩ 1671)⟩, ⟨120230, (.int 120230 1673), (.str ⟨⟨[103]⟩⟩ 1674)⟩, ⟨120231, (.int 120231 1676), (.str ⟨⟨[104]⟩⟩ 1677)⟩, ⟨120232, (.int 120232 1679), (.str ⟨⟨[105]⟩⟩ 1680)⟩, ⟨120233, (.int 120233 1682), (.str ⟨⟨[106]⟩⟩ 1683)⟩, ⟨120234, (.int 120234 1685), (.str ⟨⟨[107]⟩⟩ 1686)⟩, ⟨120235, (.int 120235 1688), (.str ⟨⟨[108]⟩⟩ 1689)⟩, ⟨120236, (.int 120236 1691), (.str ⟨⟨[109]⟩⟩ 1692)⟩, ⟨120237, (.int 120237 1694), (.str ⟨⟨[110]⟩⟩ 1695)⟩, ⟨120238, (.int 120238 1697), (.str ⟨⟨[111]⟩⟩ 1698)⟩, ⟨120239, (.int 120239 1700), (.str ⟨⟨[112]⟩⟩ 1701)⟩, ⟨120240, (.int 120240 1703), (.str ⟨⟨[113]⟩⟩ 1704)⟩, ⟨120241, (.int 120241 1706), (.str ⟨⟨[114]⟩⟩ 1707)⟩]
noncomputable def o156 (P : Params) : Obj := ⟨(.type "dict"), none, (.dict ⟨dl57 P⟩ 17), ⟨[]⟩⟩
noncomputable def t446 (P : Params) : BT := (.node (o53 P) (.node (o75 P) (.node (o156 P) .nil .nil) .nil) (.node (o7 P) .nil .nil))
noncomputable def t447 (P : Params) : BT := (.node (o27 P) (t254 P) (t446 P))
noncomputable def t448 (P : Params) : BT := (.node (o14 P) (t351 P) (t447 P))
noncomputable def t449 (P : Params) : BT := (.node (o6 P) (t400 P) (t448 P))
noncomputable def t450 (P : Params) : BT := (.node (o2 P) (t425 P) (t449 P))
noncomputable def t451 (P : Params) : BT := (.node (o0 P) (t444 P) (t450 P))
noncomputable def S21a23 (w : World) (os : OsState) : SharedT := let P := w.params; ⟨(t451 P), 159, life0, ⟨[]⟩, ⟨0, 0, 0, 0⟩, 1709, os⟩
noncomputable def dl58 (P : Params) : List DictEntry := dl56 P ++ dl57 P
noncomputable def o157 (P : Params) : Obj := ⟨(.type "dict"), none, (.dict ⟨dl58 P⟩ 408), ⟨[]⟩⟩
noncomputable def t452 (P : Params) : BT := (.node (o35 P) (.node (o59 P) (.node (o157 P) .nil .nil) .nil) (.node (o8 P) .nil .nil))
noncomputable def t453 (P : Params) : BT := (.node (o22 P) (t452 P) (t362 P))
noncomputable def t454 (P : Params) : BT := (.node (o7 P) (t267 P) (t453 P))
noncomputable def t455 (P : Params) : BT := (.node (o105 P) (t454 P) (t412 P))
noncomputable def t456 (P : Params) : BT := (.node (o1 P) (t455 P) (t437 P))
noncomputable def t457 (P : Params) : BT := (.node (o0 P) (t456 P) (t450 P))
noncomputable def S21b23 (w : World) (os : OsState) : SharedT := let P := w.params; ⟨(t457 P), 159, life0, ⟨[]⟩, ⟨0, 0, 0, 0⟩, 1709, os⟩
noncomputable def dl59 (P : Params) : List DictEntry := [⟨120242, (.int 120242 1709), (.str ⟨⟨[115]⟩⟩ 1710)⟩, ⟨120243, (.int 120243 1712), (.str ⟨⟨[116]⟩⟩ 1713)⟩, ⟨120244, (.int 120244 1715), (.str ⟨⟨[117]⟩⟩ 1716)⟩, ⟨120245, (.int 120245 1718), (.str ⟨⟨[118]⟩⟩ 1719)⟩, ⟨120246, (.int 120246 1721), (.str ⟨⟨[119]⟩⟩ 1722)⟩, ⟨120247, (.int 120247 1724), (.str ⟨⟨[120]⟩⟩ 1725)⟩, ⟨120248, (.int 120248 1727), (.str ⟨⟨[121]⟩⟩ 1728)⟩, ⟨120249, (.int 120249 1730), (.str ⟨⟨[122]⟩⟩ 1731)⟩, ⟨120276, (.int 120276 1733), (.str ⟨⟨[97]⟩⟩ 1734)⟩, ⟨120277, (.int 120277 1736), (.str ⟨⟨[98]⟩⟩ 1737)⟩, ⟨120278, (.int 120278 1739), (.str ⟨⟨[99]⟩⟩ 1740)⟩, ⟨120279, (.int 120279 1742), (.str ⟨⟨[100]⟩⟩ 1743)⟩, ⟨120280, (.int 120280 1745), (.str ⟨⟨[101]⟩⟩ 1746)⟩, ⟨120281, (.int 120281 1748), (.str ⟨⟨[102]⟩⟩ 1749)⟩, ⟨120282, (.int 120282 1751), (.str ⟨⟨[103]⟩⟩ 1752)⟩, ⟨120283, (.int 120283 1754), (.str ⟨⟨[104]⟩⟩ 1755)⟩, ⟨120284, (.int 120284 1757), (.str ⟨⟨[105]⟩⟩ 1758)⟩]
noncomputable def o158 (P : Params) : Obj := ⟨(.type "dict"), none, (.dict ⟨dl59 P⟩ 17), ⟨[]⟩⟩
noncomputable def t458 (P : Params) : BT := (.node (o28 P) (.node (o54 P) (.node (o103 P) .nil .nil) .nil) (.node (o7 P) (.node (o158 P) .nil .nil) .nil))
noncomputable def t459 (P : Params) : BT := (.node (o7 P) (t458 P) (t266 P))
noncomputable def t460 (P : Params) : BT := (.node (o7 P) (t459 P) (t453 P))
noncomputable def t461 (P : Params) : BT := (.node (o105 P) (t460 P) (t412 P))
noncomputable def t462 (P : Params) : BT := (.node (o1 P) (t461 P) (t437 P))
noncomputable def t463 (P : Params) : BT := (.node (o0 P) (t462 P) (t450 P))
noncomputable def S21a24 (w : World) (os : OsState) : SharedT := let P := w.params; ⟨(t463 P), 160, life0, ⟨[]⟩, ⟨0, 0, 0, 0⟩, 1760, os⟩
noncomputable def dl60 (P : Params) : List DictEntry := dl58 P ++ dl59 P
noncomputable def o159 (P : Params) : Obj := ⟨(.type "dict"), none, (.dict ⟨dl60 P⟩ 425), ⟨[]⟩⟩
noncomputable def t464 (P : Params) : BT := (.node (o35 P) (.node (o59 P) (.node (o159 P) .nil .nil) .nil) (.node (o8 P) .nil .nil))
noncomputable def t465 (P : Params) : BT := (.node (o22 P) (t464 P) (t362 P))
noncomputable def t466 (P : Params) : BT := (.node (o7 P) (t459 P) (t465 P))
noncomputable def t467 (P : Params) : BT := (.node (o105 P) (t466 P) (t412 P))
noncomputable def t468 (P : Params) : BT := (.node (o1 P) (t467 P) (t437 P))
noncomputable def t469 (P : Params) : BT := (.node (o0 P) (t468 P) (t450 P))
noncomputable def S21b24 (w : World) (os : OsState) : SharedT := let P := w.params; ⟨(t469 P), 160, life0, ⟨[]⟩, ⟨0, 0, 0, 0⟩, 1760, os⟩
noncomputable def dl61 (P : Params) : List DictEntry := [⟨120285, (.int 120285 1760), (.str ⟨⟨[106]⟩⟩ 1761)⟩, ⟨120286, (.int 120286 1763), (.str ⟨⟨[107]⟩⟩ 1764)⟩, ⟨120287, (.int 120287 1766), (.str ⟨⟨[108]⟩⟩ 1767)⟩, ⟨120288, (.int 120288 1769), (.str ⟨⟨[109]⟩⟩ 1770)⟩, ⟨120289, (.int 120289 1772), (.str ⟨⟨[110]⟩⟩ 1773)⟩, ⟨120290, (.int 120290 1775), (.str ⟨⟨[111]⟩⟩ 1776)⟩, ⟨120291, (.int 120291 1778), (.str ⟨⟨[112]⟩⟩ 1779)⟩, ⟨120292, (.int 120292 1781), (.str ⟨⟨[113]⟩⟩ 1782)⟩, ⟨120293, (.int 120293 1784), (.str ⟨⟨[114]⟩⟩ 1785)⟩, ⟨120294, (.int 120294 1787), (.str ⟨⟨[115]⟩⟩ 1788)⟩, ⟨120295, (.int 120295 1790), (.str ⟨⟨[116]⟩⟩ 1791)⟩, ⟨120296, (.int 120296 1793), (.str ⟨⟨[117]⟩⟩ 1794)⟩, ⟨120297, (.int 120297 1796), (.str ⟨⟨[118]⟩⟩ 1797)⟩, ⟨120298, (.int 120298 1799), (.str ⟨⟨[119]⟩⟩ 1800)⟩, ⟨120299, (.int 120299 1802), (.str ⟨⟨[120]⟩⟩ 1803)⟩, ⟨120300, (.int 120300 1805), (.str ⟨⟨[121]⟩⟩ 1806)⟩, ⟨120301, (.int 120301 1808), (.str ⟨⟨[122]⟩⟩ 1809)⟩]
noncomputable def o160 (P : Params) : Obj := ⟨(.type "dict"), none, (.dict ⟨dl61 P⟩ 17), ⟨[]⟩⟩
noncomputable def t470 (P : Params) : BT := (.node (o7 P) (.node (o55 P) (.node (o7 P) .nil .nil) .nil) (.node (o8 P) (.node (o160 P) .nil .nil) .nil))
noncomputable def t471 (P : Params) : BT := (.node (o15 P) (t470 P) (t278 P))
noncomputable def t472 (P : Params) : BT := (.node (o8 P) (t471 P) (t375 P))
noncomputable def t473 (P : Params) : BT := (.node (o4 P) (t472 P) (t424 P))
noncomputable def t474 (P : Params) : BT := (.node (o2 P) (t473 P) (t449 P))
noncomputable def t475 (P : Params) : BT := (.node (o0 P) (t468 P) (t474 P))
noncomputable def S21a25 (w : World) (os : OsState) : SharedT := let P := w.params; ⟨(t475 P), 161, life0, ⟨[]⟩, ⟨0, 0, 0, 0⟩, 1811, os⟩
noncomputable def dl62 (P : Params) : List DictEntry := dl60 P ++ dl61 P
noncomputable def o161 (P : Params) : Obj := ⟨(.type "dict"), none, (.dict ⟨dl62 P⟩ 442), ⟨[]⟩⟩
noncomputable def t476 (P : Params) : BT := (.node (o35 P) (.node (o59 P) (.node (o161 P) .nil .nil) .nil) (.node (o8 P) .nil .nil))
noncomputable def t477 (P : Params) : BT := (.node (o22 P) (t476 P) (t362 P))
noncomputable def t478 (P : Params) : BT := (.node (o7 P) (t459 P) (t477 P))
noncomputable def t479 (P : Params) : BT := (.node (o105 P) (t478 P) (t412 P))
noncomputable def t480 (P : Params) : BT := (.node (o1 P) (t479 P) (t437 P))
noncomputable def t481 (P : Params) : BT := (.node (o0 P) (t480 P) (t474 P))
noncomputable def S21b25 (w : World) (os : OsState) : SharedT := let P := w.params; ⟨(t481 P), 161, life0, ⟨[]⟩, ⟨0, 0, 0, 0⟩, 1811, os⟩
noncomputable def dl63 (P : Params) : List DictEntry := [⟨120328, (.int 120328 1811), (.str ⟨⟨[97]⟩⟩ 1812)⟩, ⟨120329, (.int 120329 1814), (.str ⟨⟨[98]⟩⟩ 1815)⟩, ⟨120330, (.int 120330 1817), (.str ⟨⟨[99]⟩⟩ 1818)⟩, ⟨120331, (.int 120331 1820), (.str ⟨⟨[100]⟩⟩ 1821)⟩, ⟨120332, (.int 120332 1823), (.str ⟨⟨[101]⟩⟩ 1824)⟩, ⟨120333, (.int 120333 1826), (.str ⟨⟨[102]⟩⟩ 1827)⟩, ⟨120334, (.int 120334 1829), (.str ⟨⟨[103]⟩⟩ 1830)⟩, ⟨120335, (.int 120335 1832), (.str ⟨⟨[104]⟩⟩ 1833)⟩, ⟨120336, (.int 120336 1835), (.str ⟨⟨[105]⟩⟩ 1836)⟩, ⟨120337, (.int 120337 1838), (.str ⟨⟨[106]⟩⟩ 1839)⟩, ⟨120338, (.int 120338 1841), (.str ⟨⟨[107]⟩⟩ 1842)⟩, ⟨120339, (.int 120339 1844), (.str ⟨⟨[108]⟩⟩ 1845)⟩, ⟨120340, (.int 120340 1847), (.str ⟨⟨[109]⟩⟩ 1848)⟩, ⟨120341, (.int 120341 1850), (.str ⟨⟨[110]⟩⟩ 1851)⟩, ⟨120342, (.int 120342 1853), (.str ⟨⟨[111]⟩⟩ 1854)⟩, ⟨120343, (.int 120343 1856), (.str ⟨⟨[112]⟩⟩ 1857)⟩, ⟨120344, (.int 120344 1859), (.str ⟨⟨[113]⟩⟩ 1860)⟩]
noncomputable def o162 (P : Params) : Obj := ⟨(.type "dict"), none, (.dict ⟨dl63 P⟩ 17), ⟨[]⟩⟩
noncomputable def t482 (P : Params) : BT := (.node (o8 P) (.node (o7 P) (.node (o8 P) .nil .nil) .nil) (.node (o76 P) (.node (o162 P) .nil .nil) .nil))
noncomputable def t483 (P : Params) : BT := (.node (o16 P) (t482 P) (t290 P))
noncomputable def t484 (P : Params) : BT := (.node (o9 P) (t483 P) (t387 P))
noncomputable def t485 (P : Params) : BT := (.node (o5 P) (t484 P) (t436 P))
noncomputable def t486 (P : Params) : BT := (.node (o1 P) (t479 P) (t485 P))
noncomputable def t487 (P : Params) : BT := (.node (o0 P) (t486 P) (t474 P))
noncomputable def S21a26 (w : World) (os : OsState) : SharedT := let P := w.params; ⟨(t487 P), 162, life0, ⟨[]⟩, ⟨0, 0, 0, 0⟩, 1862, os⟩
noncomputable def dl64 (P : Params) : List DictEntry := dl62 P ++ dl63 P
noncomputable def o163 (P : Params) : Obj := ⟨(.type "dict"), none, (.dict ⟨dl64 P⟩ 459), ⟨[]⟩⟩
noncomputable def t488 (P : Params) : BT := (.node (o35 P) (.node (o59 P) (.node (o163 P) .nil .nil) .nil) (.node (o8 P) .nil .nil))
noncomputable def t489 (P : Params) : BT := (.node (o22 P) (t488 P) (t362 P))
noncomputable def t490 (P : Params) : BT := (.node (o7 P) (t459 P) (t489 P))
noncomputable def t491 (P : Params) : BT := (.node (o105 P) (t490 P) (t412 P))
noncomputable def t492 (P : Params) : BT := (.node (o1 P) (t491 P) (t485 P))
noncomputable def t493 (P : Params) : BT := (.node (o0 P) (t492 P) (t474 P))
noncomputable def S21b26 (w : World) (os : OsState) : SharedT := let P := w.params; ⟨(t493 P), 162, life0, ⟨[]⟩, ⟨0, 0, 0, 0⟩, 1862, os⟩
noncomputable def dl65 (P : Params) : List DictEntry := [⟨120345, (.int 120345 1862), (.str ⟨⟨[114]⟩⟩ 1863)⟩, ⟨120346, (.int 120346 1865), (.str ⟨⟨[115]⟩⟩ 1866)⟩, ⟨120347, (.int 120347 1868), (.str ⟨⟨[116]⟩⟩ 1869)⟩, ⟨120348, (.int 120348 1871), (.str ⟨⟨[117]⟩⟩ 1872)⟩, ⟨120349, (.int 120349 1874), (.str ⟨⟨[118]⟩⟩ 1875)⟩, ⟨120350, (.int 120350 1877), (.str ⟨⟨[119]⟩⟩ 1878)⟩, ⟨120351, (.int 120351 1880), (.str ⟨⟨[120]⟩⟩ 1881)⟩, ⟨120352, (.int 120352 1883), (.str ⟨⟨[121]⟩⟩ 1884)⟩, ⟨120353, (.int 120353 1886), (.str ⟨⟨[122]⟩⟩ 1887)⟩, ⟨120380, (.int 120380 1889), (.str ⟨⟨[97]⟩⟩ 1890)⟩, ⟨120381, (.int 120381 1892), (.str ⟨⟨[98]⟩⟩ 1893)⟩, ⟨120382, (.int 120382 1895), (.str ⟨⟨[99]⟩⟩ 1896)⟩, ⟨120383, (.int 120383 1898), (.str ⟨⟨[100]⟩⟩ 1899)⟩, ⟨120384, (.int 120384 1901), (.str ⟨⟨[101]⟩⟩ 1902)⟩, ⟨120385, (.int 120385 1904), (.str ⟨⟨[102]⟩⟩ 1905)⟩, ⟨120386, (.int 120386 1907), (.str ⟨⟨[103]⟩⟩ 1908)⟩, ⟨120387, (.int 120387 1910), (.str ⟨⟨[104]⟩⟩ 1911)⟩]
noncomputable def o164 (P : Params) : Obj := ⟨(.type "dict"), none, (.dict ⟨dl65 P⟩ 17), ⟨[]⟩⟩
noncomputable def t494 (P : Params) : BT := (.node (o31 P) (.node (o8 P) (.node (o107 P) .nil .nil) .nil) (.node (o7 P) (.node (o164 P) .nil .nil) .nil))
noncomputable def t495 (P : Params) : BT := (.node (o17 P) (t494 P) (t302 P))
noncomputable def t496 (P : Params) : BT := (.node (o10 P) (t495 P) (t399 P))
noncomputable def t497 (P : Params) : BT := (.node (o6 P) (t496 P) (t448 P))
noncomputable def t498 (P : Params) : BT := (.node (o2 P) (t473 P) (t497 P))
noncomputable def t499 (P : Params) : BT := (.node (o0 P) (t492 P) (t498 P))
noncomputable def S21a27 (w : World) (os : OsState) : SharedT := let P := w.params; ⟨(t499 P), 163, life0, ⟨[]⟩, ⟨0, 0, 0, 0⟩, 1913, os⟩
noncomputable def dl66 (P : Params) : List DictEntry := dl64 P ++ dl65 P
noncomputable def o165 (P : Params) : Obj := ⟨(.type "dict"), none, (.dict ⟨dl66 P⟩ 476), ⟨[]⟩⟩
noncomputable def t500 (P : Params) : BT := (.node (o35 P) (.node (o59 P) (.node (o165 P) .nil .nil) .nil) (.node (o8 P) .nil .nil))
noncomputable def t501 (P : Params) : BT := (.node (o22 P) (t500 P) (t362 P))
noncomputable def t502 (P : Params) : BT := (.node (o7 P) (t459 P) (t501 P))
noncomputable def t503 (P : Params) : BT := (.node (o105 P) (t502 P) (t412 P))
noncomputable def t504 (P : Params) : BT := (.node (o1 P) (t503 P) (t485 P))
noncomputable def t505 (P : Params) : BT := (.node (o0 P) (t504 P) (t498 P))
noncomputable def S21b27 (w : World) (os : OsState) : SharedT := let P := w.params; ⟨(t505 P), 163, life0, ⟨[]⟩, ⟨0, 0, 0, 0⟩, 1913, os⟩
noncomputable def dl67 (P : Params) : List DictEntry := [⟨120388, (.int 120388 1913), (.str ⟨⟨[105]⟩⟩ 1914)⟩, ⟨120389, (.int 120389 1916), (.str ⟨⟨[106]⟩⟩ 1917)⟩, ⟨120390, (.int 120390 1919), (.str ⟨⟨[107]⟩⟩ 1920)⟩, ⟨120391, (.int 120391 1922), (.str ⟨⟨[108]⟩⟩ 1923)⟩, ⟨120392, (.int 120392 1925), (.str ⟨⟨[109]⟩⟩ 1926)⟩, ⟨120393, (.int 120393 1928), (.str ⟨⟨[110]⟩⟩ 1929)⟩, ⟨120394, (.int 120394 1931), (.str ⟨⟨[111]⟩⟩ 1932)⟩, ⟨120395, (.int 120395 1934), (.str ⟨⟨[112]⟩⟩ 1935)⟩, ⟨120396, (.int 120396 1937), (.str ⟨⟨[113]⟩⟩ 1938)⟩, ⟨120397, (.int 120397 1940), (.str ⟨⟨[114]⟩⟩ 1941)⟩, ⟨120398, (.int 120398 1943), (.str ⟨⟨[115]⟩⟩ 1944)⟩, ⟨120399, (.int 120399 1946), (.str ⟨⟨[116]⟩⟩ 1947)⟩, ⟨120400, (.int 120400 1949), (.str ⟨⟨[117]⟩⟩ 1950)⟩, ⟨120401, (.int 120401 1952), (.str ⟨⟨[118]⟩⟩ 1953)⟩, ⟨120402, (.int 120402 1955), (.str ⟨⟨[119]⟩⟩ 1956)⟩, ⟨120403, (.int 120403 1958), (.str ⟨⟨[120]⟩⟩ 1959)⟩, ⟨120404, (.int 120404 1961), (.str ⟨⟨[121]⟩⟩ 1962)⟩]
noncomputable def o166 (P : Params) : Obj := ⟨(.type "dict"), none, (.dict ⟨dl67 P⟩ 17), ⟨[]⟩⟩
noncomputable def t506 (P : Params) : BT := (.node (o7 P) (.node (o56 P) (.node (o7 P) .nil .nil) .nil) (.node (o77 P) (.node (o166 P) .nil .nil) .nil))
noncomputable def t507 (P : Params) : BT := (.node (o18 P) (t506 P) (t314 P))
noncomputable def t508 (P : Params) : BT := (.node (o11 P) (t507 P) (t411 P))
noncomputable def t509 (P : Params) : BT := (.node (o105 P) (t502 P) (t508 P))
noncomputable def t510 (P : Params) : BT := (.node (o1 P) (t509 P) (t485 P))
noncomputable def t511 (P : Params) : BT := (.node (o0 P) (t510 P) (t498 P))
noncomputable def S21a28 (w : World) (os : OsState) : SharedT := let P := w.params; ⟨(t511 P), 164, life0, ⟨[]⟩, ⟨0, 0, 0, 0⟩, 1964, os⟩
noncomputable def dl68 (P : Params) : List DictEntry := dl66 P ++ dl67 P
noncomputable def o167 (P : Params) : Obj := ⟨(.type "dict"), none, (.dict ⟨dl68 P⟩ 493), ⟨[]⟩⟩
noncomputable def t512 (P : Params) : BT := (.node (o35 P) (.node (o59 P) (.node (o167 P) .nil .nil) .nil) (.node (o8 P) .nil .nil))
noncomputable def t513 (P : Params) : BT := (.node (o22 P) (t512 P) (t362 P))
noncomputable def t514 (P : Params) : BT := (.node (o7 P) (t459 P) (t513 P))
noncomputable def t515 (P : Params) : BT := (.node (o105 P) (t514 P) (t508 P))
noncomputable def t516 (P : Params) : BT := (.node (o1 P) (t515 P) (t485 P))
noncomputable def t517 (P : Params) : BT := (.node (o0 P) (t516 P) (t498 P))
noncomputable def S21b28 (w : World) (os : OsState) : SharedT := let P := w.params; ⟨(t517 P), 164, life0, ⟨[]⟩, ⟨0, 0, 0, 0⟩, 1964, os⟩
noncomputable def dl69 (P : Params) : List DictEntry := [⟨120405, (.int 120405 1964), (.str ⟨⟨[122]⟩⟩ 1965)⟩, ⟨120432, (.int 120432 1967), (.str ⟨⟨[97]⟩⟩ 1968)⟩, ⟨120433, (.int 120433 1970), (.str ⟨⟨[98]⟩⟩ 1971)⟩, ⟨120434, (.int 120434 1973), (.str ⟨⟨[99]⟩⟩ 1974)⟩, ⟨120435, (.int 120435 1976), (.str ⟨⟨[100]⟩⟩ 1977)⟩, ⟨120436, (.int 120436 1979), (.str ⟨⟨[101]⟩⟩ 1980)⟩, ⟨120437, (.int 120437 1982), (.str ⟨⟨[102]⟩⟩ 1983)⟩, ⟨120438, (.int 120438 1985), (.str ⟨⟨[103]⟩⟩ 1986)⟩, ⟨120439, (.int 120439 1988), (.str ⟨⟨[104]⟩⟩ 1989)⟩, ⟨120440, (.int 120440 1991), (.str ⟨⟨[105]⟩⟩ 1992)⟩, ⟨120441, (.int 120441 1994), (.str ⟨⟨[106]⟩⟩ 1995)⟩, ⟨120442, (.int 120442 1997), (.str ⟨⟨[107]⟩⟩ 1998)⟩, ⟨120443, (.int 120443 2000), (.str ⟨⟨[108]⟩⟩ 2001)⟩, ⟨120444, (.int 120444 2003), (.str ⟨⟨[109]⟩⟩ 2004)⟩, ⟨120445, (.int 120445 2006), (.str ⟨⟨[110]⟩⟩ 2007)⟩, ⟨120446, (.int 120446 2009), (.str ⟨⟨[111]⟩⟩ 2010)⟩, ⟨120447, (.int 120447 2012), (.str ⟨⟨[112]⟩⟩ 2013)⟩]
noncomputable def o168 (P : Params) : Obj := ⟨(.type "dict"), none, (.dict ⟨dl69 P⟩ 17), ⟨[]⟩⟩
noncomputable def t518 (P : Params) : BT := (.node (o32 P) (.node (o7 P) (.node (o108 P) .nil .nil) .nil) (.node (o78 P) (.node (o168 P) .nil .nil) .nil))
noncomputable def t519 (P : Params) : BT := (.node (o19 P) (t518 P) (t326 P))
noncomputable def t520 (P : Params) : BT := (.node (o12 P) (t519 P) (t423 P))
noncomputable def t521 (P : Params) : BT := (.node (o4 P) (t472 P) (t520 P))
noncomputable def t522 (P : Params) : BT := (.node (o2 P) (t521 P) (t497 P))
noncomputable def t523 (P : Params) : BT := (.node (o0 P) (t516 P) (t522 P))
noncomputable def S21a29 (w : World) (os : OsState) : SharedT := let P := w.params; ⟨(t523 P), 165, life0, ⟨[]⟩, ⟨0, 0, 0, 0⟩, 2015, os⟩
noncomputable def dl70 (P : Params) : List DictEntry := dl68 P ++ dl69 P
noncomputable def o169 (P : Params) : Obj := ⟨(.type "dict"), none, (.dict ⟨dl70 P⟩ 510), ⟨[]⟩⟩
noncomputable def t524 (P : Params) : BT := (.node (o35 P) (.node (o59 P) (.node (o169 P) .nil .nil) .nil) (.node (o8 P) .nil .nil))
noncomputable def t525 (P : Params) : BT := (.node (o22 P) (t524 P) (t362 P))
noncomputable def t526 (P : Params) : BT := (.node (o7 P) (t459 P) (t525 P))
noncomputable def t527 (P : Params) : BT := (.node (o105 P) (t526 P) (t508 P))
noncomputable def t528 (P : Params) : BT := (.node (o1 P) (t527 P) (t485 P))
noncomputable def t529 (P : Params) : BT := (.node (o0 P) (t528 P) (t522 P))
noncomputable def S21b29 (w : World) (os : OsState) : SharedT := let P := w.params; ⟨(t529 P), 165, life0, ⟨[]⟩, ⟨0, 0, 0, 0⟩, 2015, os⟩
noncomputable def dl71 (P : Params) : List DictEntry := [⟨120448, (.int 120448 2015), (.str ⟨⟨[113]⟩⟩ 2016)⟩, ⟨120449, (.int 120449 2018), (.str ⟨⟨[114]⟩⟩ 2019)⟩, ⟨120450, (.int 120450 2021), (.str ⟨⟨[115]⟩⟩ 2022)⟩, ⟨120451, (.int 120451 2024), (.str ⟨⟨[116]⟩⟩ 2025)⟩, ⟨120452, (.int 120452 2027), (.str ⟨⟨[117]⟩⟩ 2028)⟩, ⟨120453, (.int 120453 2030), (.str ⟨⟨[118]⟩⟩ 2031)⟩, ⟨120454, (.int 120454 2033), (.str ⟨⟨[119]⟩⟩ 2034)⟩, ⟨120455, (.int 120455 2036), (.str ⟨⟨[120]⟩⟩ 2037)⟩, ⟨120456, (.int 120456 2039), (.str ⟨⟨[121]⟩⟩ 2040)⟩, ⟨120457, (.int 120457 2042), (.str ⟨⟨[122]⟩⟩ 2043)⟩, ⟨120488, (.int 120488 2045), (.str ⟨⟨[945]⟩⟩ 2046)⟩, ⟨120489, (.int 120489 2048), (.str ⟨⟨[946]⟩⟩ 2049)⟩, ⟨120490, (.int 120490 2051), (.str ⟨⟨[947]⟩⟩ 2052)⟩, ⟨120491, (.int 120491 2054), (.str ⟨⟨[948]⟩⟩ 2055)⟩, ⟨120492, (.int 120492 2057), (.str ⟨⟨[949]⟩⟩ 2058)⟩, ⟨120493, (.int 120493 2060), (.str ⟨⟨[950]⟩⟩ 2061)⟩, ⟨120494, (.int 120494 2063), (.str ⟨⟨[951]⟩⟩ 2064)⟩]
noncomputable def o170 (P : Params) : Obj := ⟨(.type "dict"), none, (.dict ⟨dl71 P⟩ 17), ⟨[]⟩⟩
noncomputable def t530 (P : Params) : BT := (.node (o33 P) (.node (o57 P) (.node (o109 P) .nil .nil) .nil) (.node (o79 P) (.node (o170 P) .nil .nil) .nil))
noncomputable def t531 (P : Params) : BT := (.node (o20 P) (t530 P) (t338 P))
noncomputable def t532 (P : Params) : BT := (.node (o13 P) (t531 P) (t435 P))
noncomputable def t533 (P : Params) : BT := (.node (o5 P) (t484 P) (t532 P))
noncomputable def t534 (P : Params) : BT := (.node (o1 P) (t527 P) (t533 P))
noncomputable def t535 (P : Params) : BT := (.node (o0 P) (t534 P) (t522 P))
noncomputable def S21a30 (w : World) (os : OsState) : SharedT := let P := w.params; ⟨(t535 P), 166, life0, ⟨[]⟩, ⟨0, 0, 0, 0⟩, 2066, os⟩
noncomputable def dl72 (P : Params) : List DictEntry := dl70 P ++ dl71 P
noncomputable def o171 (P : Params) : Obj := ⟨(.type "dict"), none, (.dict ⟨dl72 P⟩ 527), ⟨[]⟩⟩
noncomputable def t536 (P : Params) : BT := (.node (o35 P) (.node (o59 P) (.node (o171 P) .nil .nil) .nil) (.node (o8 P) .nil .nil))
noncomputable def t537 (P : Params) : BT := (.node (o22 P) (t536 P) (t362 P))
noncomputable def t538 (P : Params) : BT := (.node (o7 P) (t459 P) (t537 P))
noncomputable def t539 (P : Params) : BT := (.node (o105 P) (t538 P) (t508 P))
noncomputable def t540 (P : Params) : BT := (.node (o1 P) (t539 P) (t533 P))
noncomputable def t541 (P : Params) : BT := (.node (o0 P) (t540 P) (t522 P))
noncomputable def S21b30 (w : World) (os : OsState) : SharedT := let P := w.params; ⟨(t541 P), 166, life0, ⟨[]⟩, ⟨0, 0, 0, 0⟩, 2066, os⟩
noncomputable def dl73 (P : Params) : List DictEntry := [⟨120495, (.int 120495 2066), (.str ⟨⟨[952]⟩⟩ 2067)⟩, ⟨120496, (.int 120496 2069), (.str ⟨⟨[953]⟩⟩ 2070)⟩, ⟨120497, (.int 120497 2072), (.str ⟨⟨[954]⟩⟩ 2073)⟩, ⟨120498, (.int 120498 2075), (.str ⟨⟨[955]⟩⟩ 2076)⟩, ⟨120499, (.int 120499 2078), (.str ⟨⟨[956]⟩⟩ 2079)⟩, ⟨120500, (.int 120500 2081), (.str ⟨⟨[957]⟩⟩ 2082)⟩, ⟨120501, (.int 120501 2084), (.str ⟨⟨[958]⟩⟩ 2085)⟩, ⟨120502, (.int 120502 2087), (.str ⟨⟨[959]⟩⟩ 2088)⟩, ⟨120503, (.int 120503 2090), (.str ⟨⟨[960]⟩⟩ 2091)⟩, ⟨120504, (.int 120504 2093), (.str ⟨⟨[961]⟩⟩ 2094)⟩, ⟨120505, (.int 120505 2096), (.str ⟨⟨[952]⟩⟩ 2097)⟩, ⟨120506, (.int 120506 2099), (.str ⟨⟨[963]⟩⟩ 2100)⟩, ⟨120507, (.int 120507 2102), (.str ⟨⟨[964]⟩⟩ 2103)⟩, ⟨120508, (.int 120508 2105), (.str ⟨⟨[965]⟩⟩ 2106)⟩, ⟨120509, (.int 120509 2108), (.str ⟨⟨[966]⟩⟩ 2109)⟩, ⟨120510, (.int 120510 2111), (.str ⟨⟨[967]⟩⟩ 2112)⟩, ⟨120511, (.int 120511 2114), (.str ⟨⟨[968]⟩⟩ 2115)⟩]
noncomputable def o172 (P : Params) : Obj := ⟨(.type "dict"), none, (.dict ⟨dl73 P⟩ 17), ⟨[]⟩⟩
noncomputable def t542 (P : Params) : BT := (.node (o34 P) (.node (o58 P) (.node (o110 P) .nil .nil) .nil) (.node (o7 P) (.node (o172 P) .nil .nil) .nil))
noncomputable def t543 (P : Params) : BT := (.node (o21 P) (t542 P) (t350 P))
noncomputable def t544 (P : Params) : BT := (.node (o14 P) (t543 P) (t447 P))
noncomputable def t545 (P : Params) : BT := (.node (o6 P) (t496 P) (t544 P))
noncomputable def t546 (P : Params) : BT := (.node (o2 P) (t521 P) (t545 P))
noncomputable def t547 (P : Params) : BT := (.node (o0 P) (t540 P) (t546 P))
noncomputable def S21a31 (w : World) (os : OsState) : SharedT := let P := w.params; ⟨(t547 P), 167, life0, ⟨[]⟩, ⟨0, 0, 0, 0⟩, 2117, os⟩
noncomputable def dl74 (P : Params) : List DictEntry := dl72 P ++ dl73 P
noncomputable def o173 (P : Params) : Obj := ⟨(.type "dict"), none, (.dict ⟨dl74 P⟩ 544), ⟨[]⟩⟩
noncomputable def t548 (P : Params) : BT := (.node (o35 P) (.node (o59 P) (.node (o173 P) .nil .nil) .nil) (.node (o8 P) .nil .nil))
noncomputable def t549 (P : Params) : BT := (.node (o22 P) (t548 P) (t362 P))
noncomputable def t550 (P : Params) : BT := (.node (o7 P) (t459 P) (t549 P))
noncomputable def t551 (P : Params) : BT := (.node (o105 P) (t550 P) (t508 P))
noncomputable def t552 (P : Params) : BT := (.node (o1 P) (t551 P) (t533 P))
noncomputable def t553 (P : Params) : BT := (.node (o0 P) (t552 P) (t546 P))
noncomputable def S21b31 (w : World) (os : OsState) : SharedT := let P := w.params; ⟨(t553 P), 167, life0, ⟨[]⟩, ⟨0, 0, 0, 0⟩, 2117, os⟩
noncomputable def dl75 (P : Params) : List DictEntry := [⟨120512, (.int 120512 2117), (.str ⟨⟨[969]⟩⟩ 2118)⟩, ⟨120531, (.int 120531 2120), (.str ⟨⟨[963]⟩⟩ 2121)⟩, ⟨120546, (.int 120546 2123), (.str ⟨⟨[945]⟩⟩ 2124)⟩, ⟨120547, (.int 120547 2126), (.str ⟨⟨[946]⟩⟩ 2127)⟩, ⟨120548, (.int 120548 2129), (.str ⟨⟨[947]⟩⟩ 2130)⟩, ⟨120549, (.int 120549 2132), (.str ⟨⟨[948]⟩⟩ 2133)⟩, ⟨120550, (.int 120550 2135), (.str ⟨⟨[949]⟩⟩ 2136)⟩, ⟨120551, (.int 120551 2138), (.str ⟨⟨[950]⟩⟩ 2139)⟩, ⟨120552, (.int 120552 2141), (.str ⟨⟨[951]⟩⟩ 2142)⟩, ⟨120553, (.int 120553 2144), (.str ⟨⟨[952]⟩⟩ 2145)⟩, ⟨120554, (.int 120554 2147), (.str ⟨⟨[953]⟩⟩ 2148)⟩, ⟨120555, (.int 120555 2150), (.str ⟨⟨[954]⟩⟩ 2151)⟩, ⟨120556, (.int 120556 2153), (.str ⟨⟨[955]⟩⟩ 2154)⟩, ⟨120557, (.int 120557 2156), (.str ⟨⟨[956]⟩⟩ 2157)⟩, ⟨120558, (.int 120558 2159), (.str ⟨⟨[957]⟩⟩ 2160)⟩, ⟨120559, (.int 120559 2162), (.str ⟨⟨[958]⟩⟩ 2163)⟩, ⟨120560, (.int 120560 2165), (.str ⟨⟨[959]⟩⟩ 2166)⟩]
noncomputable def o174 (P : Params) : Obj := ⟨(.type "dict"), none, (.dict ⟨dl75 P⟩ 17), ⟨[]⟩⟩
noncomputable def t554 (P : Params) : BT := (.node (o35 P) (.node (o59 P) (.node (o173 P) .nil .nil) .nil) (.node (o8 P) (.node (o174 P) .nil .nil) .nil))
noncomputable def t555 (P : Params) : BT := (.node (o22 P) (t554 P) (t362 P))
noncomputable def t556 (P : Params) : BT := (.node (o7 P) (t459 P) (t555 P))
noncomputable def t557 (P : Params) : BT := (.node (o105 P) (t556 P) (t508 P))
noncomputable def t558 (P : Params) : BT := (.node (o1 P) (t557 P) (t533 P))
noncomputable def t559 (P : Params) : BT := (.node (o0 P) (t558 P) (t546 P))
noncomputable def S21a32 (w : World) (os : OsState) : SharedT := let P := w.params; ⟨(t559 P), 168, life0, ⟨[]⟩, ⟨0, 0, 0, 0⟩, 2168, os⟩
noncomputable def dl76 (P : Params) : List DictEntry := dl74 P ++ dl75 P
noncomputable def o175 (P : Params) : Obj := ⟨(.type "dict"), none, (.dict ⟨dl76 P⟩ 561), ⟨[]⟩⟩
noncomputable def t560 (P : Params) : BT := (.node (o35 P) (.node (o59 P) (.node (o175 P) .nil .nil) .nil) (.node (o8 P) (.node (o174 P) .nil .nil) .nil))
noncomputable def t561 (P : Params) : BT := (.node (o22 P) (t560 P) (t362 P))
noncomputable def t562 (P : Params) : BT := (.node (o7 P) (t459 P) (t561 P))
noncomputable def t563 (P : Params) : BT := (.node (o105 P) (t562 P) (t508 P))
noncomputable def t564 (P : Params) : BT := (.node (o1 P) (t563 P) (t533 P))
noncomputable def t565 (P : Params) : BT := (.node (o0 P) (t564 P) (t546 P))
noncomputable def S21b32 (w : World) (os : OsState) : SharedT := let P := w.params; ⟨(t565 P), 168, life0, ⟨[]⟩, ⟨0, 0, 0, 0⟩, 2168, os⟩
noncomputable def dl77 (P : Params) : List DictEntry := [⟨120561, (.int 120561 2168), (.str ⟨⟨[960]⟩⟩ 2169)⟩, ⟨120562, (.int 120562 2171), (.str ⟨⟨[961]⟩⟩ 2172)⟩, ⟨120563, (.int 120563 2174), (.str ⟨⟨[952]⟩⟩ 2175)⟩, ⟨120564, (.int 120564 2177), (.str ⟨⟨[963]⟩⟩ 2178)⟩, ⟨120565, (.int 120565 2180), (.str ⟨⟨[964]⟩⟩ 2181)⟩, ⟨120566, (.int 120566 2183), (.str ⟨⟨[965]⟩⟩ 2184)⟩, ⟨120567, (.int 120567 2186), (.str ⟨⟨[966]⟩⟩ 2187)⟩, ⟨120568, (.int 120568 2189), (.str ⟨⟨[967]⟩⟩ 2190)⟩, ⟨120569, (.int 120569 2192), (.str ⟨⟨[968]⟩⟩ 2193)⟩, ⟨120570, (.int 120570 2195), (.str ⟨⟨[969]⟩⟩ 2196)⟩, ⟨120589, (.int 120589 2198), (.str ⟨⟨[963]⟩⟩ 2199)⟩, ⟨120604, (.int 120604 2201), (.str ⟨⟨[945]⟩⟩ 2202)⟩, ⟨120605, (.int 120605 2204), (.str ⟨⟨[946]⟩⟩ 2205)⟩, ⟨120606, (.int 120606 2207), (.str ⟨⟨[947]⟩⟩ 2208)⟩, ⟨120607, (.int 120607 2210), (.str ⟨⟨[948]⟩⟩ 2211)⟩, ⟨120608, (.int 120608 2213), (.str ⟨⟨[949]⟩⟩ 2214)⟩, ⟨120609, (.int 120609 2216), (.str ⟨⟨[950]⟩⟩ 2217)⟩]
noncomputable def o176 (P : Params) : Obj := ⟨(.type "dict"), none, (.dict ⟨dl77 P⟩ 17), ⟨[]⟩⟩
noncomputable def t566 (P : Params) : BT := (.node (o6 P) (.node (o7 P) (.node (o112 P) .nil .nil) .nil) (.node (o80 P) (.node (o176 P) .nil .nil) .nil))
noncomputable def t567 (P : Params) : BT := (.node (o23 P) (t566 P) (t374 P))
noncomputable def t568 (P : Params) : BT := (.node (o8 P) (t471 P) (t567 P))
noncomputable def t569 (P : Params) : BT := (.node (o4 P) (t568 P) (t520 P))
noncomputable def t570 (P : Params) : BT := (.node (o2 P) (t569 P) (t545 P))
noncomputable def t571 (P : Params) : BT := (.node (o0 P) (t564 P) (t570 P))
noncomputable def S21a33 (w : World) (os : OsState) : SharedT := let P := w.params; ⟨(t571 P), 169, life0, ⟨[]⟩, ⟨0, 0, 0, 0⟩, 2219, os⟩
noncomputable def dl78 (P : Params) : List DictEntry := dl76 P ++ dl77 P
noncomputable def o177 (P : Params) : Obj := ⟨(.type "dict"), none, (.dict ⟨dl78 P⟩ 578), ⟨[]⟩⟩
noncomputable def t572 (P : Params) : BT := (.node (o35 P) (.node (o59 P) (.node (o177 P) .nil .nil) .nil) (.node (o8 P) (.node (o174 P) .nil .nil) .nil))
noncomputable def t573 (P : Params) : BT := (.node (o22 P) (t572 P) (t362 P))
noncomputable def t574 (P : Params) : BT := (.node (o7 P) (t459 P) (t573 P))
noncomputable def t575 (P : Params) : BT := (.node (o105 P) (t574 P) (t508 P))
noncomputable def t576 (P : Params) : BT := (.node (o1 P) (t575 P) (t533 P))
noncomputable def t577 (P : Params) : BT := (.node (o0 P) (t576 P) (t570 P))
noncomputable def S21b33 (w : World) (os : OsState) : SharedT := let P := w.params; ⟨(t577 P), 169, life0, ⟨[]⟩, ⟨0, 0, 0, 0⟩, 2219, os⟩
noncomputable def dl79 (P : Params) : List DictEntry := [⟨120610, (.int 120610 2219), (.str ⟨⟨[951]⟩⟩ 2220)⟩, ⟨120611, (.int 120611 2222), (.str ⟨⟨[952]⟩⟩ 2223)⟩, ⟨120612, (.int 120612 2225), (.str ⟨⟨[953]⟩⟩ 2226)⟩, ⟨120613, (.int 120613 2228), (.str ⟨⟨[954]⟩⟩ 2229)⟩, ⟨120614, (.int 120614 2231), (.str ⟨⟨[955]⟩⟩ 2232)⟩, ⟨120615, (.int 120615 2234), (.str ⟨⟨[956]⟩⟩ 2235)⟩, ⟨120616, (.int 120616 2237), (.str ⟨⟨[957]⟩⟩ 2238)⟩, ⟨120617, (.int 120617 2240), (.str ⟨⟨[958]⟩⟩ 2241)⟩, ⟨120618, (.int 120618 2243), (.str ⟨⟨[959]⟩⟩ 2244)⟩, ⟨120619, (.int 120619 2246), (.str ⟨⟨[960]⟩⟩ 2247)⟩, ⟨120620, (.int 120620 2249), (.str ⟨⟨[961]⟩⟩ 2250)⟩, ⟨120621, (.int 120621 2252), (.str ⟨⟨[952]⟩⟩ 2253)⟩, ⟨120622, (.int 120622 2255), (.str ⟨⟨[963]⟩⟩ 2256)⟩, ⟨120623, (.int 120623 2258), (.str ⟨⟨[964]⟩⟩ 2259)⟩, ⟨120624, (.int 120624 2261), (.str ⟨⟨[965]⟩⟩ 2262)⟩, ⟨120625, (.int 120625 2264), (.str ⟨⟨[966]⟩⟩ 2265)⟩, ⟨120626, (.int 120626 2267), (.str ⟨⟨[967]⟩⟩ 2268)⟩]
noncomputable def o178 (P : Params) : Obj := ⟨(.type "dict"), none, (.dict ⟨dl79 P⟩ 17), ⟨[]⟩⟩
noncomputable def t578 (P : Params) : BT := (.node (o36 P) (.node (o8 P) (.node (o114 P) .nil .nil) .nil) (.node (o7 P) (.node (o178 P) .nil .nil) .nil))
noncomputable def t579 (P : Params) : BT := (.node (o24 P) (t578 P) (t386 P))
noncomputable def t580 (P : Params) : BT := (.node (o9 P) (t483 P) (t579 P))
noncomputable def t581 (P : Params) : BT := (.node (o5 P) (t580 P) (t532 P))
noncomputable def t582 (P : Params) : BT := (.node (o1 P) (t575 P) (t581 P))
noncomputable def t583 (P : Params) : BT := (.node (o0 P) (t582 P) (t570 P))
noncomputable def S21a34 (w : World) (os : OsState) : SharedT := let P := w.params; ⟨(t583 P), 170, life0, ⟨[]⟩, ⟨0, 0, 0, 0⟩, 2270, os⟩
noncomputable def dl80 (P : Params) : List DictEntry := dl78 P ++ dl79 P
noncomputable def o179 (P : Params) : Obj := ⟨(.type "dict"), none, (.dict ⟨dl80 P⟩ 595), ⟨[]⟩⟩
noncomputable def t584 (P : Params) : BT := (.node (o35 P) (.node (o59 P) (.node (o179 P) .nil .nil) .nil) (.node (o8 P) (.node (o174 P) .nil .nil) .nil))
noncomputable def t585 (P : Params) : BT := (.node (o22 P) (t584 P) (t362 P))
noncomputable def t586 (P : Params) : BT := (.node (o7 P) (t459 P) (t585 P))
noncomputable def t587 (P : Params) : BT := (.node (o105 P) (t586 P) (t508 P))
noncomputable def t588 (P : Params) : BT := (.node (o1 P) (t587 P) (t581 P))
noncomputable def t589 (P : Params) : BT := (.node (o0 P) (t588 P) (t570 P))
noncomputable def S21b34 (w : World) (os : OsState) : SharedT := let P := w.params; ⟨(t589 P), 170, life0, ⟨[]⟩, ⟨0, 0, 0, 0⟩, 2270, os⟩
noncomputable def dl81 (P : Params) : List DictEntry := [⟨120627, (.int 120627 2270), (.str ⟨⟨[968]⟩⟩ 2271)⟩, ⟨120628, (.int 120628 2273), (.str ⟨⟨[969]⟩⟩ 2274)⟩, ⟨120647, (.int 120647 2276), (.str ⟨⟨[963]⟩⟩ 2277)⟩, ⟨120662, (.int 120662 2279), (.str ⟨⟨[945]⟩⟩ 2280)⟩, ⟨120663, (.int 120663 2282), (.str ⟨⟨[946]⟩⟩ 2283)⟩, ⟨120664, (.int 120664 2285), (.str ⟨⟨[947]⟩⟩ 2286)⟩, ⟨120665, (.int 120665 2288), (.str ⟨⟨[948]⟩⟩ 2289)⟩, ⟨120666, (.int 120666 2291), (.str ⟨⟨[949]⟩⟩ 2292)⟩, ⟨120667, (.int 120667 2294), (.str ⟨⟨[950]⟩⟩ 2295)⟩, ⟨120668, (.int 120668 2297), (.str ⟨⟨[951]⟩⟩ 2298)⟩, ⟨120669, (.int 120669 2300), (.str ⟨⟨[952]⟩⟩ 2301)⟩, ⟨120670, (.int 120670 2303), (.str ⟨⟨[953]⟩⟩ 2304)⟩, ⟨120671, (.int 120671 2306), (.str ⟨⟨[954]⟩⟩ 2307)⟩, ⟨120672, (.int 120672 2309), (.str ⟨⟨[955]⟩⟩ 2310)⟩, ⟨120673, (.int 120673 2312), (.str ⟨⟨[956]⟩⟩ 2313)⟩, ⟨120674, (.int 120674 2315), (.str ⟨⟨[957]⟩⟩ 2316)⟩, ⟨120675, (.int 120675 2318), (.str ⟨⟨[958]⟩⟩ 2319)⟩]
noncomputable def o180 (P : Params) : Obj := ⟨(.type "dict"), none, (.dict ⟨dl81 P⟩ 17), ⟨[]⟩⟩
noncomputable def t590 (P : Params) : BT := (.node (o37 P) (.node (o60 P) (.node (o116 P) .nil .nil) .nil) (.node (o81 P) (.node (o180 P) .nil .nil) .nil))
noncomputable def t591 (P : Params) : BT := (.node (o25 P) (t590 P) (t398 P))
noncomputable def t592 (P : Params) : BT := (.node (o10 P) (t495 P) (t591 P))
noncomputable def t593 (P : Params) : BT := (.node (o6 P) (t592 P) (t544 P))
noncomputable def t594 (P : Params) : BT := (.node (o2 P) (t569 P) (t593 P))
noncomputable def t595 (P : Params) : BT := (.node (o0 P) (t588 P) (t594 P))
noncomputable def S21a35 (w : World) (os : OsState) : SharedT := let P := w.params; ⟨(t595 P), 171, life0, ⟨[]⟩, ⟨0, 0, 0, 0⟩, 2321, os⟩
noncomputable def dl82 (P : Params) : List DictEntry := dl80 P ++ dl81 P
noncomputable def o181 (P : Params) : Obj := ⟨(.type "dict"), none, (.dict ⟨dl82 P⟩ 612), ⟨[]⟩⟩
noncomputable def t596 (P : Params) : BT := (.node (o35 P) (.node (o59 P) (.node (o181 P) .nil .nil) .nil) (.node (o8 P) (.node (o174 P) .nil .nil) .nil))
noncomputable def t597 (P : Params) : BT := (.node (o22 P) (t596 P) (t362 P))
noncomputable def t598 (P : Params) : BT := (.node (o7 P) (t459 P) (t597 P))
noncomputable def t599 (P : Params) : BT := (.node (o105 P) (t598 P) (t508 P))
noncomputable def t600 (P : Params) : BT := (.node (o1 P) (t599 P) (t581 P))
noncomputable def t601 (P : Params) : BT := (.node (o0 P) (t600 P) (t594 P))
noncomputable def S21b35 (w : World) (os : OsState) : SharedT := let P := w.params; ⟨(t601 P), 171, life0, ⟨[]⟩, ⟨0, 0, 0, 0⟩, 2321, os⟩
noncomputable def dl83 (P : Params) : List DictEntry := [⟨120676, (.int 120676 2321), (.str ⟨⟨[959]⟩⟩ 2322)⟩, ⟨120677, (.int 120677 2324), (.str ⟨⟨[960]⟩⟩ 2325)⟩, ⟨120678, (.int 120678 2327), (.str ⟨⟨[961]⟩⟩ 2328)⟩, ⟨120679, (.int 120679 2330), (.str ⟨⟨[952]⟩⟩ 2331)⟩, ⟨120680, (.int 120680 2333), (.str ⟨⟨[963]⟩⟩ 2334)⟩, ⟨120681, (.int 120681 2336), (.str ⟨⟨[964]⟩⟩ 2337)⟩, ⟨120682, (.int 120682 2339), (.str ⟨⟨[965]⟩⟩ 2340)⟩, ⟨120683, (.int 120683 2342), (.str ⟨⟨[966]⟩⟩ 2343)⟩, ⟨120684, (.int 120684 2345), (.str ⟨⟨[967]⟩⟩ 2346)⟩, ⟨120685, (.int 120685 2348), (.str ⟨⟨[968]⟩⟩ 2349)⟩, ⟨120686, (.int 120686 2351), (.str ⟨⟨[969]⟩⟩ 2352)⟩, ⟨120705, (.int 120705 2354), (.str ⟨⟨[963]⟩⟩ 2355)⟩, ⟨120720, (.int 120720 2357), (.str ⟨⟨[945]⟩⟩ 2358)⟩, ⟨120721, (.int 120721 2360), (.str ⟨⟨[946]⟩⟩ 2361)⟩, ⟨120722, (.int 120722 2363), (.str ⟨⟨[947]⟩⟩ 2364)⟩, ⟨120723, (.int 120723 2366), (.str ⟨⟨[948]⟩⟩ 2367)⟩, ⟨120724, (.int 120724 2369), (.str ⟨⟨[949]⟩⟩ 2370)⟩]
noncomputable def o182 (P : Params) : Obj := ⟨(.type "dict"), none, (.dict ⟨dl83 P⟩ 17), ⟨[]⟩⟩
noncomputable def t602 (P : Params) : BT := (.node (o38 P) (.node (o7 P) (.node (o118 P) .nil .nil) .nil) (.node (o82 P) (.node (o182 P) .nil .nil) .nil))
noncomputable def t603 (P : Params) : BT := (.node (o26 P) (t602 P) (t410 P))
noncomputable def t604 (P : Params) : BT := (.node (o11 P) (t507 P) (t603 P))
noncomputable def t605 (P : Params) : BT := (.node (o105 P) (t598 P) (t604 P))
noncomputable def t606 (P : Params) : BT := (.node (o1 P) (t605 P) (t581 P))
noncomputable def t607 (P : Params) : BT := (.node (o0 P) (t606 P) (t594 P))
noncomputable def S21a36 (w : World) (os : OsState) : SharedT := let P := w.params; ⟨(t607 P), 172, life0, ⟨[]⟩, ⟨0, 0, 0, 0⟩, 2372, os⟩
noncomputable def dl84 (P : Params) : List DictEntry := dl82 P ++ dl83 P
noncomputable def o183 (P : Params) : Obj := ⟨(.type "dict"), none, (.dict ⟨dl84 P⟩ 629), ⟨[]⟩⟩
noncomputable def t608 (P : Params) : BT := (.node (o35 P) (.node (o59 P) (.node (o183 P) .nil .nil) .nil) (.node (o8 P) (.node (o174 P) .nil .nil) .nil))
noncomputable def t609 (P : Params) : BT := (.node (o22 P) (t608 P) (t362 P))
noncomputable def t610 (P : Params) : BT := (.node (o7 P) (t459 P) (t609 P))
noncomputable def t611 (P : Params) : BT := (.node (o105 P) (t610 P) (t604 P))
noncomputable def t612 (P : Params) : BT := (.node (o1 P) (t611 P) (t581 P))
noncomputable def t613 (P : Params) : BT := (.node (o0 P) (t612 P) (t594 P))
noncomputable def S21b36 (w : World) (os : OsState) : SharedT := let P := w.params; ⟨(t613 P), 172, life0, ⟨[]⟩, ⟨0, 0, 0, 0⟩, 2372, os⟩
noncomputable def dl85 (P : Params) : List DictEntry := [⟨120725, (.int 120725 2372), (.str ⟨⟨[950]⟩⟩ 2373)⟩, ⟨120726, (.int 120726 2375), (.str ⟨⟨[951]⟩⟩ 2376)⟩, ⟨120727, (.int 120727 2378), (.str ⟨⟨[952]⟩⟩ 2379)⟩, ⟨120728, (.int 120728 2381), (.str ⟨⟨[953]⟩⟩ 2382)⟩, ⟨120729, (.int 120729 2384), (.str ⟨⟨[954]⟩⟩ 2385)⟩, ⟨120730, (.int 120730 2387), (.str ⟨⟨[955]⟩⟩ 2388)⟩, ⟨120731, (.int 120731 2390), (.str ⟨⟨[956]⟩⟩ 2391)⟩, ⟨120732, (.int 120732 2393), (.str ⟨⟨[957]⟩⟩ 2394)⟩, ⟨120733, (.int 120733 2396), (.str ⟨⟨[958]⟩⟩ 2397)⟩, ⟨120734, (.int 120734 2399), (.str ⟨⟨[959]⟩⟩ 2400)⟩, ⟨120735, (.int 120735 2402), (.str ⟨⟨[960]⟩⟩ 2403)⟩, ⟨120736, (.int 120736 2405), (.str ⟨⟨[961]⟩⟩ 2406)⟩, ⟨120737, (.int 120737 2408), (.str ⟨⟨[952]⟩⟩ 2409)⟩, ⟨120738, (.int 120738 2411), (.str ⟨⟨[963]⟩⟩ 2412)⟩, ⟨120739, (.int 120739 2414), (.str ⟨⟨[964]⟩⟩ 2415)⟩, ⟨120740, (.int 120740 2417), (.str ⟨⟨[965]⟩⟩ 2418)⟩, ⟨120741, (.int 120741 2420), (.str ⟨⟨[966]⟩⟩ 2421)⟩]
noncomputable def o184 (P : Params) : Obj := ⟨(.type "dict"), none, (.dict ⟨dl85 P⟩ 17), ⟨[]⟩⟩
noncomputable def t614 (P : Params) : BT := (.node (o39 P) (.node (o61 P) (.node (o120 P) .nil .nil) .nil) (.node (o83 P) (.node (o184 P) .nil .nil) .nil))
noncomputable def t615 (P : Params) : BT := (.node (o7 P) (t614 P) (t422 P))
noncomputable def t616 (P : Params) : BT := (.node (o12 P) (t519 P) (t615 P))
noncomputable def t617 (P : Params) : BT := (.node (o4 P) (t568 P) (t616 P))
noncomputable def t618 (P : Params) : BT := (.node (o2 P) (t617 P) (t593 P))
noncomputable def t619 (P : Params) : BT := (.node (o0 P) (t612 P) (t618 P))
noncomputable def S21a37 (w : World) (os : OsState) : SharedT := let P := w.params; ⟨(t619 P), 173, life0, ⟨[]⟩, ⟨0, 0, 0, 0⟩, 2423, os⟩
noncomputable def dl86 (P : Params) : List DictEntry := dl84 P ++ dl85 P
noncomputable def o185 (P : Params) : Obj := ⟨(.type "dict"), none, (.dict ⟨dl86 P⟩ 646), ⟨[]⟩⟩
noncomputable def t620 (P : Params) : BT := (.node (o35 P) (.node (o59 P) (.node (o185 P) .nil .nil) .nil) (.node (o8 P) (.node (o174 P) .nil .nil) .nil))
noncomputable def t621 (P : Params) : BT := (.node (o22 P) (t620 P) (t362 P))
noncomputable def t622 (P : Params) : BT := (.node (o7 P) (t459 P) (t621 P))
noncomputable def t623 (P : Params) : BT := (.node (o105 P) (t622 P) (t604 P))
noncomputable def t624 (P : Params) : BT := (.node (o1 P) (t623 P) (t581 P))
noncomputable def t625 (P : Params) : BT := (.node (o0 P) (t624 P) (t618 P))
noncomputable def S21b37 (w : World) (os : OsState) : SharedT := let P := w.params; ⟨(t625 P), 173, life0, ⟨[]⟩, ⟨0, 0, 0, 0⟩, 2423, os⟩
noncomputable def o186 (P : Params) : Obj := ⟨(.type "dict"), none, (.dict ⟨[⟨120742, (.int 120742 2423), (.str ⟨⟨[967]⟩⟩ 2424)⟩, ⟨120743, (.int 120743 2425), (.str ⟨⟨[968]⟩⟩ 2426)⟩, ⟨120744, (.int 120744 2427), (.str ⟨⟨[969]⟩⟩ 2428)⟩, ⟨120763, (.int 120763 2429), (.str ⟨⟨[963]⟩⟩ 2430)⟩]⟩ 4), ⟨[]⟩⟩
noncomputable def t626 (P : Params) : BT := (.node (o7 P) (.node (o62 P) (.node (o122 P) .nil .nil) .nil) (.node (o84 P) (.node (o186 P) .nil .nil) .nil))
noncomputable def t627 (P : Params) : BT := (.node (o106 P) (t626 P) (t434 P))
noncomputable def t628 (P : Params) : BT := (.node (o13 P) (t531 P) (t627 P))
noncomputable def t629 (P : Params) : BT := (.node (o5 P) (t580 P) (t628 P))
noncomputable def t630 (P : Params) : BT := (.node (o1 P) (t623 P) (t629 P))
noncomputable def t631 (P : Params) : BT := (.node (o0 P) (t630 P) (t618 P))
noncomputable def S21a38 (w : World) (os : OsState) : SharedT := let P := w.params; ⟨(t631 P), 174, life0, ⟨[]⟩, ⟨0, 0, 0, 0⟩, 2435, os⟩
noncomputable def dl87 (P : Params) : List DictEntry := dl86 P ++ [⟨120742, (.int 120742 2423), (.str ⟨⟨[967]⟩⟩ 2424)⟩, ⟨120743, (.int 120743 2425), (.str ⟨⟨[968]⟩⟩ 2426)⟩, ⟨120744, (.int 120744 2427), (.str ⟨⟨[969]⟩⟩ 2428)⟩, ⟨120763, (.int 120763 2429), (.str ⟨⟨[963]⟩⟩ 2430)⟩]
noncomputable def o187 (P : Params) : Obj := ⟨(.type "dict"), none, (.dict ⟨dl87 P⟩ 650), ⟨[]⟩⟩
noncomputable def t632 (P : Params) : BT := (.node (o35 P) (.node (o59 P) (.node (o187 P) .nil .nil) .nil) (.node (o8 P) (.node (o174 P) .nil .nil) .nil))
noncomputable def t633 (P : Params) : BT := (.node (o22 P) (t632 P) (t362 P))
noncomputable def t634 (P : Params) : BT := (.node (o7 P) (t459 P) (t633 P))
noncomputable def t635 (P : Params) : BT := (.node (o105 P) (t634 P) (t604 P))
noncomputable def t636 (P : Params) : BT := (.node (o1 P) (t635 P) (t629 P))
noncomputable def t637 (P : Params) : BT := (.node (o0 P) (t636 P) (t618 P))
noncomputable def S21b38 (w : World) (os : OsState) : SharedT := let P := w.params; ⟨(t637 P), 174, life0, ⟨[]⟩, ⟨0, 0, 0, 0⟩, 2435, os⟩
noncomputable def dl88 (P : Params) : List DictEntry := dl11 P ++ [⟨(PyData.keyHash P ⟨⟨[98, 51, 95, 101, 120, 99, 101, 112, 116, 105, 111, 110, 115]⟩⟩), (.str ⟨⟨[98, 51, 95, 101, 120, 99, 101, 112, 116, 105, 111, 110, 115]⟩⟩ 2435), (.ref 135)⟩]
noncomputable def o188 (P : Params) : Obj := ⟨(.type "dict"), none, (.dict ⟨dl88 P⟩ 28), ⟨[]⟩⟩
noncomputable def t638 (P : Params) : BT := (.node (o188 P) (t634 P) (t604 P))
noncomputable def t639 (P : Params) : BT := (.node (o1 P) (t638 P) (t629 P))
noncomputable def t640 (P : Params) : BT := (.node (o0 P) (t639 P) (t618 P))
noncomputable def S22 (w : World) (os : OsState) : SharedT := let P := w.params; ⟨(t640 P), 174, life0, ⟨[]⟩, ⟨0, 0, 0, 0⟩, 2436, os⟩
noncomputable def dl89 (P : Params) : List DictEntry := dl88 P ++ [⟨(PyData.keyHash P ⟨⟨[109, 97, 112, 95, 116, 97, 98, 108, 101, 95, 98, 51]⟩⟩), (.str ⟨⟨[109, 97, 112, 95, 116, 97, 98, 108, 101, 95, 98, 51]⟩⟩ 2443), (.ref 180)⟩, ⟨(PyData.keyHash P ⟨⟨[105, 110, 95, 116, 97, 98, 108, 101, 95, 99, 49, 49]⟩⟩), (.str ⟨⟨[105, 110, 95, 116, 97, 98, 108, 101, 95, 99, 49, 49]⟩⟩ 2450), (.ref 187)⟩, ⟨(PyData.keyHash P ⟨⟨[105, 110, 95, 116, 97, 98, 108, 101, 95, 99, 52]⟩⟩), (.str ⟨⟨[105, 110, 95, 116, 97, 98, 108, 101, 95, 99, 52]⟩⟩ 2458), (.ref 194)⟩]
noncomputable def o189 (P : Params) : Obj := ⟨(.type "dict"), none, (.dict ⟨dl89 P⟩ 31), ⟨[]⟩⟩
noncomputable def o190 (P : Params) : Obj := ⟨.none, none, (.fields ⟨[(.int 2 0), (.int 0 0), (.ref 37), (.int 8 0), (.int 0 0), (.ref 50), (.int 21 0), (.int 0 0), (.ref 57), (.int 23 0), (.int 0 0), (.ref 70), (.int 34 0), (.int 0 0), (.ref 77), (.int 42 0), (.int 0 0), (.ref 86), (.int 59 0), (.int 0 0), (.ref 93), (.int 67 0), (.int 0 0), (.ref 100), (.int 84 0), (.int 0 0), (.ref 107), (.int 86 0), (.int 0 0), (.ref 115), (.int 95 0), (.int 0 0), (.ref 133), (.int 98 0), (.int 0 0), (.ref 179), (.int 103 0), (.int 0 0), (.ref 186), (.int 105 0), (.int 0 0), (.ref 193)]⟩), ⟨[]⟩⟩
noncomputable def o191 (P : Params) : Obj := ⟨(.type "tuple"), none, (.seq ⟨[(.str ⟨⟨[99, 111, 100, 101]⟩⟩ 2439), (.str ⟨⟨[114]⟩⟩ 2440)]⟩ 0), ⟨[]⟩⟩
noncomputable def o192 (P : Params) : Obj := ⟨.none, none, (fnD 22 ⟨⟨[109, 97, 112, 95, 116, 97, 98, 108, 101, 95, 98, 51]⟩⟩ ⟨⟨[109, 97, 112, 95, 116, 97, 98, 108, 101, 95, 98, 51]⟩⟩ [] .none .none .none .none none .none .none 0 0), ⟨[]⟩⟩
noncomputable def o193 (P : Params) : Obj := ⟨(.type "code"), none, (.fields ⟨[(.str ⟨⟨[109, 97, 112, 95, 116, 97, 98, 108, 101, 95, 98, 51]⟩⟩ 2436), (.str ⟨⟨[109, 97, 112, 95, 116, 97, 98, 108, 101, 95, 98, 51]⟩⟩ 2437), (.str ⟨⟨[47, 99, 108, 97, 105, 109, 47, 99, 117, 116, 46, 112, 121]⟩⟩ 2438), (.int 98 0), (.int 1 0), (.int 0 0), (.int 0 0), (.int 3 0), (.ref 174), (.bool true), (.int 276 0), (.ref 175), .none, (.ref 176), (.ref 177), (.ref 178), (.int 2441 0), (.int 98 0), (.str ⟨⟨[47, 99, 108, 97, 105, 109, 47, 99, 117, 116, 46, 112, 121]⟩⟩ 2442)]⟩), ⟨[]⟩⟩
noncomputable def o194 (P : Params) : Obj := ⟨(.type "function"), none, (fnD 22 ⟨⟨[109, 97, 112, 95, 116, 97, 98, 108, 101, 95, 98, 51]⟩⟩ ⟨⟨[109, 97, 112, 95, 116, 97, 98, 108, 101, 95, 98, 51]⟩⟩ [] .none .none .none (.str ⟨⟨[99, 112, 121, 51, 49, 51, 46, 115, 116, 114, 105, 110, 103, 112, 114, 101, 112]⟩⟩ 416) none (.ref 179) .none 3 0), ⟨[]⟩⟩
noncomputable def o195 (P : Params) : Obj := ⟨(.type "tuple"), none, (.seq ⟨[(.str ⟨⟨[99, 111, 100, 101]⟩⟩ 2447)]⟩ 0), ⟨[]⟩⟩
noncomputable def o196 (P : Params) : Obj := ⟨.none, none, (fnD 23 ⟨⟨[105, 110, 95, 116, 97, 98, 108, 101, 95, 99, 49, 49]⟩⟩ ⟨⟨[105, 110, 95, 116, 97, 98, 108, 101, 95, 99, 49, 49]⟩⟩ [] .none .none .none .none none .none .none 0 0), ⟨[]⟩⟩
noncomputable def o197 (P : Params) : Obj := ⟨(.type "code"), none, (.fields ⟨[(.str ⟨⟨[105, 110, 95, 116, 97, 98, 108, 101, 95, 99, 49, 49]⟩⟩ 2444), (.str ⟨⟨[105, 110, 95, 116, 97, 98, 108, 101, 95, 99, 49, 49]⟩⟩ 2445), (.str ⟨⟨[47, 99, 108, 97, 105, 109, 47, 99, 117, 116, 46, 112, 121]⟩⟩ 2446), (.int 103 0), (.int 1 0), (.int 0 0), (.int 0 0), (.int 3 0), (.ref 181), (.bool true), (.int 276 0), (.ref 182), .none, (.ref 183), (.ref 184), (.ref 185), (.int 2448 0), (.int 103 0), (.str ⟨⟨[47, 99, 108, 97, 105, 109, 47, 99, 117, 116, 46, 112, 121]⟩⟩ 2449)]⟩), ⟨[]⟩⟩
noncomputable def o198 (P : Params) : Obj := ⟨(.type "function"), none, (fnD 23 ⟨⟨[105, 110, 95, 116, 97, 98, 108, 101, 95, 99, 49, 49]⟩⟩ ⟨⟨[105, 110, 95, 116, 97, 98, 108, 101, 95, 99, 49, 49]⟩⟩ [] .none .none .none (.str ⟨⟨[99, 112, 121, 51, 49, 51, 46, 115, 116, 114, 105, 110, 103, 112, 114, 101, 112]⟩⟩ 416) none (.ref 186) .none 3 0), ⟨[]⟩⟩
noncomputable def o199 (P : Params) : Obj := ⟨(.type "tuple"), none, (.seq ⟨[(.str ⟨⟨[99, 111, 100, 101]⟩⟩ 2454), (.str ⟨⟨[99]⟩⟩ 2455)]⟩ 0), ⟨[]⟩⟩
noncomputable def o200 (P : Params) : Obj := ⟨.none, none, (fnD 24 ⟨⟨[105, 110, 95, 116, 97, 98, 108, 101, 95, 99, 52]⟩⟩ ⟨⟨[105, 110, 95, 116, 97, 98, 108, 101, 95, 99, 52]⟩⟩ [] .none .none .none .none none .none .none 0 0), ⟨[]⟩⟩
noncomputable def o201 (P : Params) : Obj := ⟨(.type "code"), none, (.fields ⟨[(.str ⟨⟨[105, 110, 95, 116, 97, 98, 108, 101, 95, 99, 52]⟩⟩ 2451), (.str ⟨⟨[105, 110, 95, 116, 97, 98, 108, 101, 95, 99, 52]⟩⟩ 2452), (.str ⟨⟨[47, 99, 108, 97, 105, 109, 47, 99, 117, 116, 46, 112, 121]⟩⟩ 2453), (.int 105 0), (.int 1 0), (.int 0 0), (.int 0 0), (.int 3 0), (.ref 188), (.bool true), (.int 276 0), (.ref 189), .none, (.ref 190), (.ref 191), (.ref 192), (.int 2456 0), (.int 105 0), (.str ⟨⟨[47, 99, 108, 97, 105, 109, 47, 99, 117, 116, 46, 112, 121]⟩⟩ 2457)]⟩), ⟨[]⟩⟩
noncomputable def o202 (P : Params) : Obj := ⟨(.type "function"), none, (fnD 24 ⟨⟨[105, 110, 95, 116, 97, 98, 108, 101, 95, 99, 52]⟩⟩ ⟨⟨[105, 110, 95, 116, 97, 98, 108, 101, 95, 99, 52]⟩⟩ [] .none .none .none (.str ⟨⟨[99, 112, 121, 51, 49, 51, 46, 115, 116, 114, 105, 110, 103, 112, 114, 101, 112]⟩⟩ 416) none (.ref 193) .none 3 0), ⟨[]⟩⟩
noncomputable def t641 (P : Params) : BT := (.node (o28 P) (.node (o54 P) (.node (o103 P) .nil .nil) (.node (o7 P) .nil .nil)) (.node (o7 P) (.node (o158 P) .nil .nil) .nil))
noncomputable def t642 (P : Params) : BT := (.node (o40 P) (.node (o64 P) (.node (o126 P) .nil .nil) .nil) (.node (o8 P) (.node (o8 P) .nil .nil) .nil))
noncomputable def t643 (P : Params) : BT := (.node (o7 P) (t641 P) (t642 P))
noncomputable def t644 (P : Params) : BT := (.node (o7 P) (.node (o69 P) (.node (o142 P) .nil .nil) .nil) (.node (o91 P) (.node (o195 P) .nil .nil) .nil))
noncomputable def t645 (P : Params) : BT := (.node (o22 P) (t632 P) (t644 P))
noncomputable def t646 (P : Params) : BT := (.node (o7 P) (t643 P) (t645 P))
noncomputable def t647 (P : Params) : BT := (.node (o43 P) (.node (o66 P) (.node (o134 P) .nil .nil) .nil) (.node (o87 P) (.node (o193 P) .nil .nil) .nil))
noncomputable def t648 (P : Params) : BT := (.node (o18 P) (t506 P) (t647 P))
noncomputable def t649 (P : Params) : BT := (.node (o7 P) (.node (o7 P) (.node (o150 P) .nil .nil) .nil) (.node (o94 P) (.node (o198 P) .nil .nil) .nil))
noncomputable def t650 (P : Params) : BT := (.node (o26 P) (t602 P) (t649 P))
noncomputable def t651 (P : Params) : BT := (.node (o11 P) (t648 P) (t650 P))
noncomputable def t652 (P : Params) : BT := (.node (o189 P) (t646 P) (t651 P))
noncomputable def t653 (P : Params) : BT := (.node (o8 P) (.node (o7 P) (.node (o8 P) .nil .nil) (.node (o201 P) .nil .nil)) (.node (o76 P) (.node (o162 P) .nil .nil) .nil))
noncomputable def t654 (P : Params) : BT := (.node (o41 P) (.node (o7 P) (.node (o130 P) .nil .nil) .nil) (.node (o7 P) (.node (o7 P) .nil .nil) .nil))
noncomputable def t655 (P : Params) : BT := (.node (o16 P) (t653 P) (t654 P))
noncomputable def t656 (P : Params) : BT := (.node (o49 P) (.node (o8 P) (.node (o146 P) .nil .nil) .nil) (.node (o7 P) (.node (o196 P) .nil .nil) .nil))
noncomputable def t657 (P : Params) : BT := (.node (o24 P) (t578 P) (t656 P))
noncomputable def t658 (P : Params) : BT := (.node (o9 P) (t655 P) (t657 P))
noncomputable def t659 (P : Params) : BT := (.node (o47 P) (.node (o67 P) (.node (o138 P) .nil .nil) .nil) (.node (o89 P) (.node (o7 P) .nil .nil) .nil))
noncomputable def t660 (P : Params) : BT := (.node (o20 P) (t530 P) (t659 P))
noncomputable def t661 (P : Params) : BT := (.node (o52 P) (.node (o74 P) (.node (o154 P) .nil .nil) .nil) (.node (o102 P) (.node (o8 P) .nil .nil) .nil))
noncomputable def t662 (P : Params) : BT := (.node (o190 P) (t626 P) (t661 P))
noncomputable def t663 (P : Params) : BT := (.node (o13 P) (t660 P) (t662 P))
noncomputable def t664 (P : Params) : BT := (.node (o5 P) (t658 P) (t663 P))
noncomputable def t665 (P : Params) : BT := (.node (o1 P) (t652 P) (t664 P))
noncomputable def t666 (P : Params) : BT := (.node (o7 P) (.node (o55 P) (.node (o7 P) .nil .nil) (.node (o200 P) .nil .nil)) (.node (o8 P) (.node (o160 P) .nil .nil) .nil))
noncomputable def t667 (P : Params) : BT := (.node (o7 P) (.node (o65 P) (.node (o128 P) .nil .nil) .nil) (.node (o85 P) (.node (o191 P) .nil .nil) .nil))
noncomputable def t668 (P : Params) : BT := (.node (o15 P) (t666 P) (t667 P))
noncomputable def t669 (P : Params) : BT := (.node (o8 P) (.node (o7 P) (.node (o144 P) .nil .nil) .nil) (.node (o92 P) (.node (o7 P) .nil .nil) .nil))
noncomputable def t670 (P : Params) : BT := (.node (o23 P) (t566 P) (t669 P))
noncomputable def t671 (P : Params) : BT := (.node (o8 P) (t668 P) (t670 P))
noncomputable def t672 (P : Params) : BT := (.node (o46 P) (.node (o7 P) (.node (o136 P) .nil .nil) .nil) (.node (o88 P) (.node (o194 P) .nil .nil) .nil))
noncomputable def t673 (P : Params) : BT := (.node (o19 P) (t518 P) (t672 P))
noncomputable def t674 (P : Params) : BT := (.node (o51 P) (.node (o73 P) (.node (o152 P) .nil .nil) .nil) (.node (o104 P) (.node (o7 P) .nil .nil) .nil))
noncomputable def t675 (P : Params) : BT := (.node (o7 P) (t614 P) (t674 P))
noncomputable def t676 (P : Params) : BT := (.node (o12 P) (t673 P) (t675 P))
noncomputable def t677 (P : Params) : BT := (.node (o4 P) (t671 P) (t676 P))
noncomputable def t678 (P : Params) : BT := (.node (o31 P) (.node (o8 P) (.node (o107 P) .nil .nil) (.node (o202 P) .nil .nil)) (.node (o7 P) (.node (o164 P) .nil .nil) .nil))
noncomputable def t679 (P : Params) : BT := (.node (o42 P) (.node (o8 P) (.node (o132 P) .nil .nil) .nil) (.node (o86 P) (.node (o192 P) .nil .nil) .nil))
noncomputable def t680 (P : Params) : BT := (.node (o17 P) (t678 P) (t679 P))
noncomputable def t681 (P : Params) : BT := (.node (o50 P) (.node (o72 P) (.node (o148 P) .nil .nil) .nil) (.node (o93 P) (.node (o197 P) .nil .nil) .nil))
noncomputable def t682 (P : Params) : BT := (.node (o25 P) (t590 P) (t681 P))
noncomputable def t683 (P : Params) : BT := (.node (o10 P) (t680 P) (t682 P))
noncomputable def t684 (P : Params) : BT := (.node (o48 P) (.node (o68 P) (.node (o140 P) .nil .nil) .nil) (.node (o90 P) (.node (o8 P) .nil .nil) .nil))
noncomputable def t685 (P : Params) : BT := (.node (o21 P) (t542 P) (t684 P))
noncomputable def t686 (P : Params) : BT := (.node (o8 P) (.node (o63 P) (.node (o124 P) .nil .nil) .nil) (.node (o7 P) (.node (o7 P) .nil .nil) .nil))
noncomputable def t687 (P : Params) : BT := (.node (o53 P) (.node (o75 P) (.node (o156 P) .nil .nil) .nil) (.node (o7 P) (.node (o199 P) .nil .nil) .nil))
noncomputable def t688 (P : Params) : BT := (.node (o27 P) (t686 P) (t687 P))
noncomputable def t689 (P : Params) : BT := (.node (o14 P) (t685 P) (t688 P))
noncomputable def t690 (P : Params) : BT := (.node (o6 P) (t683 P) (t689 P))
noncomputable def t691 (P : Params) : BT := (.node (o2 P) (t677 P) (t690 P))
noncomputable def t692 (P : Params) : BT := (.node (o0 P) (t665 P) (t691 P))
noncomputable def S25 (w : World) (os : OsState) : SharedT := let P := w.params; ⟨(t692 P), 195, life0, ⟨[]⟩, ⟨0, 0, 0, 0⟩, 2459, os⟩
noncomputable def o203 (P : Params) : Obj := ⟨(.type "range"), none, (.fields ⟨[(.int 65529 2459), (.int 65534 2460), (.int 1 2461)]⟩), ⟨[]⟩⟩
noncomputable def t693 (P : Params) : BT := (.node (o7 P) (.node (o56 P) (.node (o7 P) .nil .nil) (.node (o203 P) .nil .nil)) (.node (o77 P) (.node (o166 P) .nil .nil) .nil))
noncomputable def t694 (P : Params) : BT := (.node (o18 P) (t693 P) (t647 P))
noncomputable def t695 (P : Params) : BT := (.node (o11 P) (t694 P) (t650 P))
noncomputable def t696 (P : Params) : BT := (.node (o189 P) (t646 P) (t695 P))
noncomputable def t697 (P : Params) : BT := (.node (o1 P) (t696 P) (t664 P))
noncomputable def t698 (led : Bool) (P : Params) : BT := (.node (o32 P) (.node (o7 P) (.node (o108 P) .nil .nil) (.node (o95 led P) .nil .nil)) (.node (o78 P) (.node (o168 P) .nil .nil) .nil))
noncomputable def t699 (led : Bool) (P : Params) : BT := (.node (o19 P) (t698 led P) (t672 P))
noncomputable def t700 (led : Bool) (P : Params) : BT := (.node (o12 P) (t699 led P) (t675 P))
noncomputable def t701 (led : Bool) (P : Params) : BT := (.node (o4 P) (t671 P) (t700 led P))
noncomputable def t702 (led : Bool) (P : Params) : BT := (.node (o2 P) (t701 led P) (t690 P))
noncomputable def t703 (led : Bool) (P : Params) : BT := (.node (o0 P) (t697 P) (t702 led P))
noncomputable def S25c0 (led : Bool) (w : World) (os : OsState) : SharedT := let P := w.params; ⟨(t703 led P), 197, life0, ⟨[]⟩, ⟨0, 0, 0, 0⟩, 2462, os⟩
noncomputable def r25x0 (w : World) (os : OsState) : Option (SharedT × Thread) := PySem.W.Fast.tw10295753902157049106 PySem.W.Fast.tw14364793385576792824 prog w 28 ann 1 40 (S25 w os) (piecesOf [stm 25] env cE ⟨105, 0, 111, 46⟩ [topFrame qE])
noncomputable def th25c0 (w : World) (os : OsState) : Thread := ⟨PySem.W.Fast.tw11892475500146522536 PySem.W.Fast.tw14364793385576792824 (.builtin "set.__init__" ⟨[(.ref 196), (.ref 195)], []⟩), (.builtin "set.__init__" ⟨[(.ref 196), (.ref 195)], []⟩), ⟨112, 9, 112, 33⟩, [.ret (kq (r25x0 w os) 0) none false [(.ref 196), (.ref 196), (.ref 195)] (.builtin "type.__call__" ⟨[(.type "set"), (.ref 195)], []⟩) ⟨112, 9, 112, 33⟩ [(.builtin "set.__init__"), (.ref 196), (.ref 195), (.builtin "set.__init__"), (.ref 196), (.ref 195)], .ret (kq (r25x0 w os) 1) none false [] cE ⟨112, 9, 112, 33⟩ [(.type "set"), (.ref 195)], topFrame qE]⟩
noncomputable def dl90 (P : Params) : List DictEntry := dl89 P ++ [⟨(PyData.keyHash P ⟨⟨[99, 54, 95, 115, 101, 116]⟩⟩), (.str ⟨⟨[99, 54, 95, 115, 101, 116]⟩⟩ 2472), (.ref 196)⟩]
noncomputable def o204 (P : Params) : Obj := ⟨(.type "dict"), none, (.dict ⟨dl90 P⟩ 32), ⟨[]⟩⟩
noncomputable def o205 (led : Bool) (P : Params) : Obj := ⟨(.type "set"), none, (.set ⟨[(65529, (.int 65529 2462)), (65530, (.int 65530 2464)), (65531, (.int 65531 2466)), (65532, (.int 65532 2468)), (65533, (.int 65533 2470))]⟩ 6 ⟨31, ⟨[25, 26, 27, 28, 29]⟩, ⟨[]⟩, 0, led, 1, true⟩), ⟨[]⟩⟩
noncomputable def o206 (P : Params) : Obj := ⟨(.type "range_iterator"), none, (.fields ⟨[(.int 65534 0), (.int 0 0), (.int 1 0)]⟩), ⟨[]⟩⟩
noncomputable def o207 (P : Params) : Obj := ⟨(.type "StopIteration"), none, (.fields ⟨[(.ref 198), .none, .none, .none, (.bool false), .none]⟩), ⟨[]⟩⟩
noncomputable def t704 (P : Params) : BT := (.node (o35 P) (.node (o59 P) (.node (o187 P) .nil .nil) (.node (o207 P) .nil .nil)) (.node (o8 P) (.node (o174 P) .nil .nil) .nil))
noncomputable def t705 (P : Params) : BT := (.node (o22 P) (t704 P) (t644 P))
noncomputable def t706 (P : Params) : BT := (.node (o7 P) (t643 P) (t705 P))
noncomputable def t707 (P : Params) : BT := (.node (o204 P) (t706 P) (t695 P))
noncomputable def t708 (P : Params) : BT := (.node (o33 P) (.node (o57 P) (.node (o109 P) .nil .nil) (.node (o206 P) .nil .nil)) (.node (o79 P) (.node (o170 P) .nil .nil) .nil))
noncomputable def t709 (P : Params) : BT := (.node (o20 P) (t708 P) (t659 P))
noncomputable def t710 (P : Params) : BT := (.node (o13 P) (t709 P) (t662 P))
noncomputable def t711 (P : Params) : BT := (.node (o5 P) (t658 P) (t710 P))
noncomputable def t712 (P : Params) : BT := (.node (o1 P) (t707 P) (t711 P))
noncomputable def t713 (led : Bool) (P : Params) : BT := (.node (o32 P) (.node (o7 P) (.node (o108 P) .nil .nil) (.node (o205 led P) .nil .nil)) (.node (o78 P) (.node (o168 P) .nil .nil) .nil))
noncomputable def t714 (led : Bool) (P : Params) : BT := (.node (o19 P) (t713 led P) (t672 P))
noncomputable def t715 (led : Bool) (P : Params) : BT := (.node (o12 P) (t714 led P) (t675 P))
noncomputable def t716 (led : Bool) (P : Params) : BT := (.node (o4 P) (t671 P) (t715 led P))
noncomputable def t717 (P : Params) : BT := (.node (o34 P) (.node (o58 P) (.node (o110 P) .nil .nil) (.node (o7 P) .nil .nil)) (.node (o7 P) (.node (o172 P) .nil .nil) .nil))
noncomputable def t718 (P : Params) : BT := (.node (o21 P) (t717 P) (t684 P))
noncomputable def t719 (P : Params) : BT := (.node (o14 P) (t718 P) (t688 P))
noncomputable def t720 (P : Params) : BT := (.node (o6 P) (t683 P) (t719 P))
noncomputable def t721 (led : Bool) (P : Params) : BT := (.node (o2 P) (t716 led P) (t720 P))
noncomputable def t722 (led : Bool) (P : Params) : BT := (.node (o0 P) (t712 P) (t721 led P))
noncomputable def S26L (led : Bool) (w : World) (os : OsState) : SharedT := let P := w.params; ⟨(t722 led P), 200, life0, ⟨[]⟩, ⟨0, 0, 0, 0⟩, 2473, os⟩
noncomputable def o208 (P : Params) : Obj := ⟨(.type "set"), none, (.set ⟨[(65529, (.int 65529 2462)), (65530, (.int 65530 2464)), (65531, (.int 65531 2466)), (65532, (.int 65532 2468)), (65533, (.int 65533 2470))]⟩ 6 ⟨31, ⟨[25, 26, 27, 28, 29]⟩, ⟨[]⟩, 0, (!P.followText "set-order"), 1, true⟩), ⟨[]⟩⟩
noncomputable def t723 (P : Params) : BT := (.node (o32 P) (.node (o7 P) (.node (o108 P) .nil .nil) (.node (o208 P) .nil .nil)) (.node (o78 P) (.node (o168 P) .nil .nil) .nil))
noncomputable def t724 (P : Params) : BT := (.node (o19 P) (t723 P) (t672 P))
noncomputable def t725 (P : Params) : BT := (.node (o12 P) (t724 P) (t675 P))
noncomputable def t726 (P : Params) : BT := (.node (o4 P) (t671 P) (t725 P))
noncomputable def t727 (P : Params) : BT := (.node (o2 P) (t726 P) (t720 P))
noncomputable def t728 (P : Params) : BT := (.node (o0 P) (t712 P) (t727 P))
noncomputable def S26 (w : World) (os : OsState) : SharedT := let P := w.params; ⟨(t728 P), 200, life0, ⟨[]⟩, ⟨0, 0, 0, 0⟩, 2473, os⟩
noncomputable def dl91 (P : Params) : List DictEntry := dl90 P ++ [⟨(PyData.keyHash P ⟨⟨[105, 110, 95, 116, 97, 98, 108, 101, 95, 99, 54]⟩⟩), (.str ⟨⟨[105, 110, 95, 116, 97, 98, 108, 101, 95, 99, 54]⟩⟩ 2479), (.ref 206)⟩]
noncomputable def o209 (P : Params) : Obj := ⟨(.type "dict"), none, (.dict ⟨dl91 P⟩ 33), ⟨[]⟩⟩
noncomputable def o210 (P : Params) : Obj := ⟨.none, none, (.fields ⟨[(.int 2 0), (.int 0 0), (.ref 37), (.int 8 0), (.int 0 0), (.ref 50), (.int 21 0), (.int 0 0), (.ref 57), (.int 23 0), (.int 0 0), (.ref 70), (.int 34 0), (.int 0 0), (.ref 77), (.int 42 0), (.int 0 0), (.ref 86), (.int 59 0), (.int 0 0), (.ref 93), (.int 67 0), (.int 0 0), (.ref 100), (.int 84 0), (.int 0 0), (.ref 107), (.int 86 0), (.int 0 0), (.ref 115), (.int 95 0), (.int 0 0), (.ref 133), (.int 98 0), (.int 0 0), (.ref 179), (.int 103 0), (.int 0 0), (.ref 186), (.int 105 0), (.int 0 0), (.ref 193), (.int 113 0), (.int 0 0), (.ref 205)]⟩), ⟨[]⟩⟩
noncomputable def o211 (P : Params) : Obj := ⟨(.type "tuple"), none, (.seq ⟨[(.str ⟨⟨[99, 111, 100, 101]⟩⟩ 2476)]⟩ 0), ⟨[]⟩⟩
noncomputable def o212 (P : Params) : Obj := ⟨.none, none, (fnD 26 ⟨⟨[105, 110, 95, 116, 97, 98, 108, 101, 95, 99, 54]⟩⟩ ⟨⟨[105, 110, 95, 116, 97, 98, 108, 101, 95, 99, 54]⟩⟩ [] .none .none .none .none none .none .none 0 0), ⟨[]⟩⟩
noncomputable def o213 (P : Params) : Obj := ⟨(.type "code"), none, (.fields ⟨[(.str ⟨⟨[105, 110, 95, 116, 97, 98, 108, 101, 95, 99, 54]⟩⟩ 2473), (.str ⟨⟨[105, 110, 95, 116, 97, 98, 108, 101, 95, 99, 54]⟩⟩ 2474), (.str ⟨⟨[47, 99, 108, 97, 105, 109, 47, 99, 117, 116, 46, 112, 121]⟩⟩ 2475), (.int 113 0), (.int 1 0), (.int 0 0), (.int 0 0), (.int 3 0), (.ref 200), (.bool true), (.int 276 0), (.ref 201), .none, (.ref 202), (.ref 203), (.ref 204), (.int 2477 0), (.int 113 0), (.str ⟨⟨[47, 99, 108, 97, 105, 109, 47, 99, 117, 116, 46, 112, 121]⟩⟩ 2478)]⟩), ⟨[]⟩⟩
noncomputable def o214 (P : Params) : Obj := ⟨(.type "function"), none, (fnD 26 ⟨⟨[105, 110, 95, 116, 97, 98, 108, 101, 95, 99, 54]⟩⟩ ⟨⟨[105, 110, 95, 116, 97, 98, 108, 101, 95, 99, 54]⟩⟩ [] .none .none .none (.str ⟨⟨[99, 112, 121, 51, 49, 51, 46, 115, 116, 114, 105, 110, 103, 112, 114, 101, 112]⟩⟩ 416) none (.ref 205) .none 3 0), ⟨[]⟩⟩
noncomputable def t729 (P : Params) : BT := (.node (o38 P) (.node (o7 P) (.node (o118 P) .nil .nil) (.node (o7 P) .nil .nil)) (.node (o82 P) (.node (o182 P) .nil .nil) .nil))
noncomputable def t730 (P : Params) : BT := (.node (o26 P) (t729 P) (t649 P))
noncomputable def t731 (P : Params) : BT := (.node (o11 P) (t694 P) (t730 P))
noncomputable def t732 (P : Params) : BT := (.node (o209 P) (t706 P) (t731 P))
noncomputable def t733 (P : Params) : BT := (.node (o36 P) (.node (o8 P) (.node (o114 P) .nil .nil) (.node (o8 P) .nil .nil)) (.node (o7 P) (.node (o178 P) .nil .nil) .nil))
noncomputable def t734 (P : Params) : BT := (.node (o24 P) (t733 P) (t656 P))
noncomputable def t735 (P : Params) : BT := (.node (o9 P) (t655 P) (t734 P))
noncomputable def t736 (P : Params) : BT := (.node (o7 P) (.node (o62 P) (.node (o122 P) .nil .nil) (.node (o213 P) .nil .nil)) (.node (o84 P) (.node (o186 P) .nil .nil) .nil))
noncomputable def t737 (P : Params) : BT := (.node (o210 P) (t736 P) (t661 P))
noncomputable def t738 (P : Params) : BT := (.node (o13 P) (t709 P) (t737 P))
noncomputable def t739 (P : Params) : BT := (.node (o5 P) (t735 P) (t738 P))
noncomputable def t740 (P : Params) : BT := (.node (o1 P) (t732 P) (t739 P))
noncomputable def t741 (P : Params) : BT := (.node (o6 P) (.node (o7 P) (.node (o112 P) .nil .nil) (.node (o7 P) .nil .nil)) (.node (o80 P) (.node (o176 P) .nil .nil) .nil))
noncomputable def t742 (P : Params) : BT := (.node (o23 P) (t741 P) (t669 P))
noncomputable def t743 (P : Params) : BT := (.node (o8 P) (t668 P) (t742 P))
noncomputable def t744 (P : Params) : BT := (.node (o39 P) (.node (o61 P) (.node (o120 P) .nil .nil) (.node (o212 P) .nil .nil)) (.node (o83 P) (.node (o184 P) .nil .nil) .nil))
noncomputable def t745 (P : Params) : BT := (.node (o7 P) (t744 P) (t674 P))
noncomputable def t746 (P : Params) : BT := (.node (o12 P) (t724 P) (t745 P))
noncomputable def t747 (P : Params) : BT := (.node (o4 P) (t743 P) (t746 P))
noncomputable def t748 (P : Params) : BT := (.node (o37 P) (.node (o60 P) (.node (o116 P) .nil .nil) (.node (o211 P) .nil .nil)) (.node (o81 P) (.node (o180 P) .nil .nil) .nil))
noncomputable def t749 (P : Params) : BT := (.node (o25 P) (t748 P) (t681 P))
noncomputable def t750 (P : Params) : BT := (.node (o10 P) (t680 P) (t749 P))
noncomputable def t751 (P : Params) : BT := (.node (o8 P) (.node (o63 P) (.node (o124 P) .nil .nil) (.node (o214 P) .nil .nil)) (.node (o7 P) (.node (o7 P) .nil .nil) .nil))
noncomputable def t752 (P : Params) : BT := (.node (o27 P) (t751 P) (t687 P))
noncomputable def t753 (P : Params) : BT := (.node (o14 P) (t718 P) (t752 P))
noncomputable def t754 (P : Params) : BT := (.node (o6 P) (t750 P) (t753 P))
noncomputable def t755 (P : Params) : BT := (.node (o2 P) (t747 P) (t754 P))
noncomputable def t756 (P : Params) : BT := (.node (o0 P) (t740 P) (t755 P))
noncomputable def S27 (w : World) (os : OsState) : SharedT := let P := w.params; ⟨(t756 P), 207, life0, ⟨[]⟩, ⟨0, 0, 0, 0⟩, 2480, os⟩
noncomputable def o215 (P : Params) : Obj := ⟨(.type "range"), none, (.fields ⟨[(.int 12272 2480), (.int 12284 2481), (.int 1 2482)]⟩), ⟨[]⟩⟩
noncomputable def t757 (P : Params) : BT := (.node (o40 P) (.node (o64 P) (.node (o126 P) .nil .nil) (.node (o215 P) .nil .nil)) (.node (o8 P) (.node (o8 P) .nil .nil) .nil))
noncomputable def t758 (P : Params) : BT := (.node (o7 P) (t641 P) (t757 P))
noncomputable def t759 (P : Params) : BT := (.node (o7 P) (t758 P) (t705 P))
noncomputable def t760 (P : Params) : BT := (.node (o209 P) (t759 P) (t731 P))
noncomputable def t761 (P : Params) : BT := (.node (o1 P) (t760 P) (t739 P))
noncomputable def t762 (led : Bool) (P : Params) : BT := (.node (o7 P) (.node (o65 P) (.node (o128 P) .nil .nil) (.node (o95 led P) .nil .nil)) (.node (o85 P) (.node (o191 P) .nil .nil) .nil))
noncomputable def t763 (led : Bool) (P : Params) : BT := (.node (o15 P) (t666 P) (t762 led P))
noncomputable def t764 (led : Bool) (P : Params) : BT := (.node (o8 P) (t763 led P) (t742 P))
noncomputable def t765 (led : Bool) (P : Params) : BT := (.node (o4 P) (t764 led P) (t746 P))
noncomputable def t766 (led : Bool) (P : Params) : BT := (.node (o2 P) (t765 led P) (t754 P))
noncomputable def t767 (led : Bool) (P : Params) : BT := (.node (o0 P) (t761 P) (t766 led P))
noncomputable def S27c0 (led : Bool) (w : World) (os : OsState) : SharedT := let P := w.params; ⟨(t767 led P), 209, life0, ⟨[]⟩, ⟨0, 0, 0, 0⟩, 2483, os⟩
noncomputable def r27x0 (w : World) (os : OsState) : Option (SharedT × Thread) := PySem.W.Fast.tw10295753902157049106 PySem.W.Fast.tw14364793385576792824 prog w 28 ann 1 40 (S27 w os) (piecesOf [stm 27] env cE ⟨113, 0, 114, 30⟩ [topFrame qE])
noncomputable def th27c0 (w : World) (os : OsState) : Thread := ⟨PySem.W.Fast.tw11892475500146522536 PySem.W.Fast.tw14364793385576792824 (.builtin "set.__init__" ⟨[(.ref 208), (.ref 207)], []⟩), (.builtin "set.__init__" ⟨[(.ref 208), (.ref 207)], []⟩), ⟨115, 9, 115, 33⟩, [.ret (kq (r27x0 w os) 0) none false [(.ref 208), (.ref 208), (.ref 207)] (.builtin "type.__call__" ⟨[(.type "set"), (.ref 207)], []⟩) ⟨115, 9, 115, 33⟩ [(.builtin "set.__init__"), (.ref 208), (.ref 207), (.builtin "set.__init__"), (.ref 208), (.ref 207)], .ret (kq (r27x0 w os) 1) none false [] cE ⟨115, 9, 115, 33⟩ [(.type "set"), (.ref 207)], topFrame qE]⟩
noncomputable def o216 (led : Bool) (P : Params) : Obj := ⟨(.type "set"), none, (.set ⟨[(12272, (.int 12272 2483)), (12273, (.int 12273 2485)), (12274, (.int 12274 2487)), (12275, (.int 12275 2489)), (12276, (.int 12276 2491)), (12277, (.int 12277 2493)), (12278, (.int 12278 2495)), (12279, (.int 12279 2497))]⟩ 9 ⟨31, ⟨[16, 17, 18, 19, 20, 21, 22, 23]⟩, ⟨[]⟩, 0, led, 1, true⟩), ⟨[]⟩⟩
noncomputable def o217 (P : Params) : Obj := ⟨(.type "range_iterator"), none, (.fields ⟨[(.int 12280 0), (.int 4 0), (.int 1 0)]⟩), ⟨[]⟩⟩
noncomputable def t768 (P : Params) : BT := (.node (o41 P) (.node (o7 P) (.node (o130 P) .nil .nil) (.node (o217 P) .nil .nil)) (.node (o7 P) (.node (o7 P) .nil .nil) .nil))
noncomputable def t769 (P : Params) : BT := (.node (o16 P) (t653 P) (t768 P))
noncomputable def t770 (P : Params) : BT := (.node (o9 P) (t769 P) (t734 P))
noncomputable def t771 (P : Params) : BT := (.node (o5 P) (t770 P) (t738 P))
noncomputable def t772 (P : Params) : BT := (.node (o1 P) (t760 P) (t771 P))
noncomputable def t773 (led : Bool) (P : Params) : BT := (.node (o7 P) (.node (o65 P) (.node (o128 P) .nil .nil) (.node (o216 led P) .nil .nil)) (.node (o85 P) (.node (o191 P) .nil .nil) .nil))
noncomputable def t774 (led : Bool) (P : Params) : BT := (.node (o15 P) (t666 P) (t773 led P))
noncomputable def t775 (led : Bool) (P : Params) : BT := (.node (o8 P) (t774 led P) (t742 P))
noncomputable def t776 (led : Bool) (P : Params) : BT := (.node (o4 P) (t775 led P) (t746 P))
noncomputable def t777 (led : Bool) (P : Params) : BT := (.node (o2 P) (t776 led P) (t754 P))
noncomputable def t778 (led : Bool) (P : Params) : BT := (.node (o0 P) (t772 P) (t777 led P))
noncomputable def S27c1 (led : Bool) (w : World) (os : OsState) : SharedT := let P := w.params; ⟨(t778 led P), 210, life0, ⟨[]⟩, ⟨0, 0, 0, 0⟩, 2499, os⟩
noncomputable def r27x1 (led : Bool) (w : World) (os : OsState) : Option (SharedT × Thread) := PySem.W.Fast.tw10295753902157049106 PySem.W.Fast.tw14364793385576792824 prog w 28 ann 1 204 (S27c0 led w os) (th27c0 w os)
noncomputable def th27c1 (led : Bool) (w : World) (os : OsState) : Thread := ⟨PySem.W.Fast.tw11892475500146522536 PySem.W.Fast.tw14364793385576792824 (.builtin "set.update.loop" ⟨[(.ref 208), (.ref 209)], []⟩), (.builtin "set.update.loop" ⟨[(.ref 208), (.ref 209)], []⟩), ⟨115, 9, 115, 33⟩, [.ret (kq (r27x1 led w os) 0) none false [] (.builtin "set.__init__" ⟨[(.ref 208), (.ref 207)], []⟩) ⟨115, 9, 115, 33⟩ [(.ref 208), (.ref 209)], .ret (kq (r27x1 led w os) 1) none false [(.ref 208), (.ref 208), (.ref 207)] (.builtin "type.__call__" ⟨[(.type "set"), (.ref 207)], []⟩) ⟨115, 9, 115, 33⟩ [(.builtin "set.__init__"), (.ref 208), (.ref 207), (.builtin "set.__init__"), (.ref 208), (.ref 207)], .ret (kq (r27x1 led w os) 2) none false [] cE ⟨115, 9, 115, 33⟩ [(.type "set"), (.ref 207)], topFrame qE]⟩
noncomputable def dl92 (P : Params) : List DictEntry := dl91 P ++ [⟨(PyData.keyHash P ⟨⟨[99, 55, 95, 115, 101, 116]⟩⟩), (.str ⟨⟨[99, 55, 95, 115, 101, 116]⟩⟩ 2507), (.ref 208)⟩]
noncomputable def o218 (P : Params) : Obj := ⟨(.type "dict"), none, (.dict ⟨dl92 P⟩ 34), ⟨[]⟩⟩
noncomputable def o219 (led : Bool) (P : Params) : Obj := ⟨(.type "set"), none, (.set ⟨[(12272, (.int 12272 2483)), (12273, (.int 12273 2485)), (12274, (.int 12274 2487)), (12275, (.int 12275 2489)), (12276, (.int 12276 2491)), (12277, (.int 12277 2493)), (12278, (.int 12278 2495)), (12279, (.int 12279 2497)), (12280, (.int 12280 2499)), (12281, (.int 12281 2501)), (12282, (.int 12282 2503)), (12283, (.int 12283 2505))]⟩ 13 ⟨31, ⟨[16, 17, 18, 19, 20, 21, 22, 23, 24, 25, 26, 27]⟩, ⟨[]⟩, 0, led, 1, true⟩), ⟨[]⟩⟩
noncomputable def o220 (P : Params) : Obj := ⟨(.type "range_iterator"), none, (.fields ⟨[(.int 12284 0), (.int 0 0), (.int 1 0)]⟩), ⟨[]⟩⟩
noncomputable def o221 (P : Params) : Obj := ⟨(.type "StopIteration"), none, (.fields ⟨[(.ref 210), .none, .none, .none, (.bool false), .none]⟩), ⟨[]⟩⟩
noncomputable def t779 (P : Params) : BT := (.node (o43 P) (.node (o66 P) (.node (o134 P) .nil .nil) (.node (o221 P) .nil .nil)) (.node (o87 P) (.node (o193 P) .nil .nil) .nil))
noncomputable def t780 (P : Params) : BT := (.node (o18 P) (t693 P) (t779 P))
noncomputable def t781 (P : Params) : BT := (.node (o11 P) (t780 P) (t730 P))
noncomputable def t782 (P : Params) : BT := (.node (o218 P) (t759 P) (t781 P))
noncomputable def t783 (P : Params) : BT := (.node (o41 P) (.node (o7 P) (.node (o130 P) .nil .nil) (.node (o220 P) .nil .nil)) (.node (o7 P) (.node (o7 P) .nil .nil) .nil))
noncomputable def t784 (P : Params) : BT := (.node (o16 P) (t653 P) (t783 P))
noncomputable def t785 (P : Params) : BT := (.node (o9 P) (t784 P) (t734 P))
noncomputable def t786 (P : Params) : BT := (.node (o5 P) (t785 P) (t738 P))
noncomputable def t787 (P : Params) : BT := (.node (o1 P) (t782 P) (t786 P))
noncomputable def t788 (led : Bool) (P : Params) : BT := (.node (o7 P) (.node (o65 P) (.node (o128 P) .nil .nil) (.node (o219 led P) .nil .nil)) (.node (o85 P) (.node (o191 P) .nil .nil) .nil))
noncomputable def t789 (led : Bool) (P : Params) : BT := (.node (o15 P) (t666 P) (t788 led P))
noncomputable def t790 (led : Bool) (P : Params) : BT := (.node (o8 P) (t789 led P) (t742 P))
noncomputable def t791 (led : Bool) (P : Params) : BT := (.node (o4 P) (t790 led P) (t746 P))
noncomputable def t792 (P : Params) : BT := (.node (o42 P) (.node (o8 P) (.node (o132 P) .nil .nil) (.node (o7 P) .nil .nil)) (.node (o86 P) (.node (o192 P) .nil .nil) .nil))
noncomputable def t793 (P : Params) : BT := (.node (o17 P) (t678 P) (t792 P))
noncomputable def t794 (P : Params) : BT := (.node (o10 P) (t793 P) (t749 P))
noncomputable def t795 (P : Params) : BT := (.node (o6 P) (t794 P) (t753 P))
noncomputable def t796 (led : Bool) (P : Params) : BT := (.node (o2 P) (t791 led P) (t795 P))
noncomputable def t797 (led : Bool) (P : Params) : BT := (.node (o0 P) (t787 P) (t796 led P))
noncomputable def S28L (led : Bool) (w : World) (os : OsState) : SharedT := let P := w.params; ⟨(t797 led P), 212, life0, ⟨[]⟩, ⟨0, 0, 0, 0⟩, 2508, os⟩
noncomputable def o222 (P : Params) : Obj := ⟨(.type "set"), none, (.set ⟨[(12272, (.int 12272 2483)), (12273, (.int 12273 2485)), (12274, (.int 12274 2487)), (12275, (.int 12275 2489)), (12276, (.int 12276 2491)), (12277, (.int 12277 2493)), (12278, (.int 12278 2495)), (12279, (.int 12279 2497)), (12280, (.int 12280 2499)), (12281, (.int 12281 2501)), (12282, (.int 12282 2503)), (12283, (.int 12283 2505))]⟩ 13 ⟨31, ⟨[16, 17, 18, 19, 20, 21, 22, 23, 24, 25, 26, 27]⟩, ⟨[]⟩, 0, (!P.followText "set-order"), 1, true⟩), ⟨[]⟩⟩
noncomputable def t798 (P : Params) : BT := (.node (o7 P) (.node (o65 P) (.node (o128 P) .nil .nil) (.node (o222 P) .nil .nil)) (.node (o85 P) (.node (o191 P) .nil .nil) .nil))
noncomputable def t799 (P : Params) : BT := (.node (o15 P) (t666 P) (t798 P))
noncomputable def t800 (P : Params) : BT := (.node (o8 P) (t799 P) (t742 P))
noncomputable def t801 (P : Params) : BT := (.node (o4 P) (t800 P) (t746 P))
noncomputable def t802 (P : Params) : BT := (.node (o2 P) (t801 P) (t795 P))
noncomputable def t803 (P : Params) : BT := (.node (o0 P) (t787 P) (t802 P))
noncomputable def S28 (w : World) (os : OsState) : SharedT := let P := w.params; ⟨(t803 P), 212, life0, ⟨[]⟩, ⟨0, 0, 0, 0⟩, 2508, os⟩
noncomputable def dl93 (P : Params) : List DictEntry := dl92 P ++ [⟨(PyData.keyHash P ⟨⟨[105, 110, 95, 116, 97, 98, 108, 101, 95, 99, 55]⟩⟩), (.str ⟨⟨[105, 110, 95, 116, 97, 98, 108, 101, 95, 99, 55]⟩⟩ 2514), (.ref 218)⟩]
noncomputable def o223 (P : Params) : Obj := ⟨(.type "dict"), none, (.dict ⟨dl93 P⟩ 35), ⟨[]⟩⟩
noncomputable def o224 (P : Params) : Obj := ⟨.none, none, (.fields ⟨[(.int 2 0), (.int 0 0), (.ref 37), (.int 8 0), (.int 0 0), (.ref 50), (.int 21 0), (.int 0 0), (.ref 57), (.int 23 0), (.int 0 0), (.ref 70), (.int 34 0), (.int 0 0), (.ref 77), (.int 42 0), (.int 0 0), (.ref 86), (.int 59 0), (.int 0 0), (.ref 93), (.int 67 0), (.int 0 0), (.ref 100), (.int 84 0), (.int 0 0), (.ref 107), (.int 86 0), (.int 0 0), (.ref 115), (.int 95 0), (.int 0 0), (.ref 133), (.int 98 0), (.int 0 0), (.ref 179), (.int 103 0), (.int 0 0), (.ref 186), (.int 105 0), (.int 0 0), (.ref 193), (.int 113 0), (.int 0 0), (.ref 205), (.int 116 0), (.int 0 0), (.ref 217)]⟩), ⟨[]⟩⟩
noncomputable def o225 (P : Params) : Obj := ⟨(.type "tuple"), none, (.seq ⟨[(.str ⟨⟨[99, 111, 100, 101]⟩⟩ 2511)]⟩ 0), ⟨[]⟩⟩
noncomputable def o226 (P : Params) : Obj := ⟨.none, none, (fnD 28 ⟨⟨[105, 110, 95, 116, 97, 98, 108, 101, 95, 99, 55]⟩⟩ ⟨⟨[105, 110, 95, 116, 97, 98, 108, 101, 95, 99, 55]⟩⟩ [] .none .none .none .none none .none .none 0 0), ⟨[]⟩⟩
noncomputable def o227 (P : Params) : Obj := ⟨(.type "code"), none, (.fields ⟨[(.str ⟨⟨[105, 110, 95, 116, 97, 98, 108, 101, 95, 99, 55]⟩⟩ 2508), (.str ⟨⟨[105, 110, 95, 116, 97, 98, 108, 101, 95, 99, 55]⟩⟩ 2509), (.str ⟨⟨[47, 99, 108, 97, 105, 109, 47, 99, 117, 116, 46, 112, 121]⟩⟩ 2510), (.int 116 0), (.int 1 0), (.int 0 0), (.int 0 0), (.int 3 0), (.ref 212), (.bool true), (.int 276 0), (.ref 213), .none, (.ref 214), (.ref 215), (.ref 216), (.int 2512 0), (.int 116 0), (.str ⟨⟨[47, 99, 108, 97, 105, 109, 47, 99, 117, 116, 46, 112, 121]⟩⟩ 2513)]⟩), ⟨[]⟩⟩
noncomputable def o228 (P : Params) : Obj := ⟨(.type "function"), none, (fnD 28 ⟨⟨[105, 110, 95, 116, 97, 98, 108, 101, 95, 99, 55]⟩⟩ ⟨⟨[105, 110, 95, 116, 97, 98, 108, 101, 95, 99, 55]⟩⟩ [] .none .none .none (.str ⟨⟨[99, 112, 121, 51, 49, 51, 46, 115, 116, 114, 105, 110, 103, 112, 114, 101, 112]⟩⟩ 416) none (.ref 217) .none 3 0), ⟨[]⟩⟩
noncomputable def t804 (P : Params) : BT := (.node (o7 P) (.node (o69 P) (.node (o142 P) .nil .nil) (.node (o7 P) .nil .nil)) (.node (o91 P) (.node (o195 P) .nil .nil) .nil))
noncomputable def t805 (P : Params) : BT := (.node (o22 P) (t704 P) (t804 P))
noncomputable def t806 (P : Params) : BT := (.node (o7 P) (t758 P) (t805 P))
noncomputable def t807 (P : Params) : BT := (.node (o223 P) (t806 P) (t781 P))
noncomputable def t808 (P : Params) : BT := (.node (o49 P) (.node (o8 P) (.node (o146 P) .nil .nil) (.node (o227 P) .nil .nil)) (.node (o7 P) (.node (o196 P) .nil .nil) .nil))
noncomputable def t809 (P : Params) : BT := (.node (o24 P) (t733 P) (t808 P))
noncomputable def t810 (P : Params) : BT := (.node (o9 P) (t784 P) (t809 P))
noncomputable def t811 (P : Params) : BT := (.node (o47 P) (.node (o67 P) (.node (o138 P) .nil .nil) (.node (o8 P) .nil .nil)) (.node (o89 P) (.node (o7 P) .nil .nil) .nil))
noncomputable def t812 (P : Params) : BT := (.node (o20 P) (t708 P) (t811 P))
noncomputable def t813 (P : Params) : BT := (.node (o224 P) (t736 P) (t661 P))
noncomputable def t814 (P : Params) : BT := (.node (o13 P) (t812 P) (t813 P))
noncomputable def t815 (P : Params) : BT := (.node (o5 P) (t810 P) (t814 P))
noncomputable def t816 (P : Params) : BT := (.node (o1 P) (t807 P) (t815 P))
noncomputable def t817 (P : Params) : BT := (.node (o8 P) (.node (o7 P) (.node (o144 P) .nil .nil) (.node (o226 P) .nil .nil)) (.node (o92 P) (.node (o7 P) .nil .nil) .nil))
noncomputable def t818 (P : Params) : BT := (.node (o23 P) (t741 P) (t817 P))
noncomputable def t819 (P : Params) : BT := (.node (o8 P) (t799 P) (t818 P))
noncomputable def t820 (P : Params) : BT := (.node (o46 P) (.node (o7 P) (.node (o136 P) .nil .nil) (.node (o7 P) .nil .nil)) (.node (o88 P) (.node (o194 P) .nil .nil) .nil))
noncomputable def t821 (P : Params) : BT := (.node (o19 P) (t723 P) (t820 P))
noncomputable def t822 (P : Params) : BT := (.node (o12 P) (t821 P) (t745 P))
noncomputable def t823 (P : Params) : BT := (.node (o4 P) (t819 P) (t822 P))
noncomputable def t824 (P : Params) : BT := (.node (o50 P) (.node (o72 P) (.node (o148 P) .nil .nil) (.node (o228 P) .nil .nil)) (.node (o93 P) (.node (o197 P) .nil .nil) .nil))
noncomputable def t825 (P : Params) : BT := (.node (o25 P) (t748 P) (t824 P))
noncomputable def t826 (P : Params) : BT := (.node (o10 P) (t793 P) (t825 P))
noncomputable def t827 (P : Params) : BT := (.node (o48 P) (.node (o68 P) (.node (o140 P) .nil .nil) (.node (o225 P) .nil .nil)) (.node (o90 P) (.node (o8 P) .nil .nil) .nil))
noncomputable def t828 (P : Params) : BT := (.node (o21 P) (t717 P) (t827 P))
noncomputable def t829 (P : Params) : BT := (.node (o14 P) (t828 P) (t752 P))
noncomputable def t830 (P : Params) : BT := (.node (o6 P) (t826 P) (t829 P))
noncomputable def t831 (P : Params) : BT := (.node (o2 P) (t823 P) (t830 P))
noncomputable def t832 (P : Params) : BT := (.node (o0 P) (t816 P) (t831 P))
noncomputable def S29 (w : World) (os : OsState) : SharedT := let P := w.params; ⟨(t832 P), 219, life0, ⟨[]⟩, ⟨0, 0, 0, 0⟩, 2515, os⟩
noncomputable def o229 (P : Params) : Obj := ⟨(.type "list"), none, (.seq ⟨[(.int 832 2515), (.int 833 2516), (.int 8206 2517), (.int 8207 2518)]⟩ 0), ⟨[]⟩⟩
noncomputable def o230 (P : Params) : Obj := ⟨(.type "range"), none, (.fields ⟨[(.int 8234 2519), (.int 8239 2520), (.int 1 2521)]⟩), ⟨[]⟩⟩
noncomputable def o231 (P : Params) : Obj := ⟨(.type "list"), none, (.seq ⟨[(.int 8234 2524), (.int 8235 2525), (.int 8236 2526), (.int 8237 2527), (.int 8238 2528)]⟩ 7), ⟨[]⟩⟩
noncomputable def o232 (P : Params) : Obj := ⟨(.type "range_iterator"), none, (.fields ⟨[(.int 8239 0), (.int 0 0), (.int 1 0)]⟩), ⟨[]⟩⟩
noncomputable def o233 (P : Params) : Obj := ⟨(.type "StopIteration"), none, (.fields ⟨[(.ref 223), .none, .none, .none, (.bool false), .none]⟩), ⟨[]⟩⟩
noncomputable def o234 (P : Params) : Obj := ⟨(.type "list"), none, (.seq ⟨[(.int 832 2515), (.int 833 2516), (.int 8206 2517), (.int 8207 2518), (.int 8234 2524), (.int 8235 2525), (.int 8236 2526), (.int 8237 2527), (.int 8238 2528)]⟩ 0), ⟨[]⟩⟩
noncomputable def o235 (P : Params) : Obj := ⟨(.type "range"), none, (.fields ⟨[(.int 8298 2529), (.int 8304 2530), (.int 1 2531)]⟩), ⟨[]⟩⟩
noncomputable def o236 (P : Params) : Obj := ⟨(.type "list"), none, (.seq ⟨[(.int 8298 2534), (.int 8299 2535), (.int 8300 2536), (.int 8301 2537), (.int 8302 2538), (.int 8303 2539)]⟩ 8), ⟨[]⟩⟩
noncomputable def o237 (P : Params) : Obj := ⟨(.type "range_iterator"), none, (.fields ⟨[(.int 8304 0), (.int 0 0), (.int 1 0)]⟩), ⟨[]⟩⟩
noncomputable def o238 (P : Params) : Obj := ⟨(.type "StopIteration"), none, (.fields ⟨[(.ref 229), .none, .none, .none, (.bool false), .none]⟩), ⟨[]⟩⟩
noncomputable def o239 (P : Params) : Obj := ⟨(.type "list"), none, (.seq ⟨[(.int 832 2515), (.int 833 2516), (.int 8206 2517), (.int 8207 2518), (.int 8234 2524), (.int 8235 2525), (.int 8236 2526), (.int 8237 2527), (.int 8238 2528), (.int 8298 2534), (.int 8299 2535), (.int 8300 2536), (.int 8301 2537), (.int 8302 2538), (.int 8303 2539)]⟩ 0), ⟨[]⟩⟩
noncomputable def t833 (P : Params) : BT := (.node (o28 P) (.node (o54 P) (.node (o103 P) .nil .nil) (.node (o7 P) .nil .nil)) (.node (o7 P) (.node (o158 P) .nil .nil) (.node (o7 P) .nil .nil)))
noncomputable def t834 (P : Params) : BT := (.node (o7 P) (t833 P) (t757 P))
noncomputable def t835 (P : Params) : BT := (.node (o35 P) (.node (o59 P) (.node (o187 P) .nil .nil) (.node (o207 P) .nil .nil)) (.node (o8 P) (.node (o174 P) .nil .nil) (.node (o239 P) .nil .nil)))
noncomputable def t836 (P : Params) : BT := (.node (o22 P) (t835 P) (t804 P))
noncomputable def t837 (P : Params) : BT := (.node (o7 P) (t834 P) (t836 P))
noncomputable def t838 (P : Params) : BT := (.node (o7 P) (.node (o56 P) (.node (o7 P) .nil .nil) (.node (o203 P) .nil .nil)) (.node (o77 P) (.node (o166 P) .nil .nil) (.node (o236 P) .nil .nil)))
noncomputable def t839 (P : Params) : BT := (.node (o18 P) (t838 P) (t779 P))
noncomputable def t840 (P : Params) : BT := (.node (o7 P) (.node (o7 P) (.node (o150 P) .nil .nil) (.node (o229 P) .nil .nil)) (.node (o94 P) (.node (o198 P) .nil .nil) .nil))
noncomputable def t841 (P : Params) : BT := (.node (o26 P) (t729 P) (t840 P))
noncomputable def t842 (P : Params) : BT := (.node (o11 P) (t839 P) (t841 P))
noncomputable def t843 (P : Params) : BT := (.node (o223 P) (t837 P) (t842 P))
noncomputable def t844 (P : Params) : BT := (.node (o8 P) (.node (o7 P) (.node (o8 P) .nil .nil) (.node (o201 P) .nil .nil)) (.node (o76 P) (.node (o162 P) .nil .nil) (.node (o234 P) .nil .nil)))
noncomputable def t845 (P : Params) : BT := (.node (o16 P) (t844 P) (t783 P))
noncomputable def t846 (P : Params) : BT := (.node (o9 P) (t845 P) (t809 P))
noncomputable def t847 (P : Params) : BT := (.node (o33 P) (.node (o57 P) (.node (o109 P) .nil .nil) (.node (o206 P) .nil .nil)) (.node (o79 P) (.node (o170 P) .nil .nil) (.node (o7 P) .nil .nil)))
noncomputable def t848 (P : Params) : BT := (.node (o20 P) (t847 P) (t811 P))
noncomputable def t849 (P : Params) : BT := (.node (o52 P) (.node (o74 P) (.node (o154 P) .nil .nil) (.node (o231 P) .nil .nil)) (.node (o102 P) (.node (o8 P) .nil .nil) .nil))
noncomputable def t850 (P : Params) : BT := (.node (o224 P) (t736 P) (t849 P))
noncomputable def t851 (P : Params) : BT := (.node (o13 P) (t848 P) (t850 P))
noncomputable def t852 (P : Params) : BT := (.node (o5 P) (t846 P) (t851 P))
noncomputable def t853 (P : Params) : BT := (.node (o1 P) (t843 P) (t852 P))
noncomputable def t854 (P : Params) : BT := (.node (o7 P) (.node (o55 P) (.node (o7 P) .nil .nil) (.node (o200 P) .nil .nil)) (.node (o8 P) (.node (o160 P) .nil .nil) (.node (o233 P) .nil .nil)))
noncomputable def t855 (P : Params) : BT := (.node (o15 P) (t854 P) (t798 P))
noncomputable def t856 (led : Bool) (P : Params) : BT := (.node (o6 P) (.node (o7 P) (.node (o112 P) .nil .nil) (.node (o7 P) .nil .nil)) (.node (o80 P) (.node (o176 P) .nil .nil) (.node (o95 led P) .nil .nil)))
noncomputable def t857 (led : Bool) (P : Params) : BT := (.node (o23 P) (t856 led P) (t817 P))
noncomputable def t858 (led : Bool) (P : Params) : BT := (.node (o8 P) (t855 P) (t857 led P))
noncomputable def t859 (P : Params) : BT := (.node (o32 P) (.node (o7 P) (.node (o108 P) .nil .nil) (.node (o208 P) .nil .nil)) (.node (o78 P) (.node (o168 P) .nil .nil) (.node (o237 P) .nil .nil)))
noncomputable def t860 (P : Params) : BT := (.node (o19 P) (t859 P) (t820 P))
noncomputable def t861 (P : Params) : BT := (.node (o51 P) (.node (o73 P) (.node (o152 P) .nil .nil) (.node (o230 P) .nil .nil)) (.node (o104 P) (.node (o7 P) .nil .nil) .nil))
noncomputable def t862 (P : Params) : BT := (.node (o7 P) (t744 P) (t861 P))
noncomputable def t863 (P : Params) : BT := (.node (o12 P) (t860 P) (t862 P))
noncomputable def t864 (led : Bool) (P : Params) : BT := (.node (o4 P) (t858 led P) (t863 P))
noncomputable def t865 (P : Params) : BT := (.node (o31 P) (.node (o8 P) (.node (o107 P) .nil .nil) (.node (o202 P) .nil .nil)) (.node (o7 P) (.node (o164 P) .nil .nil) (.node (o235 P) .nil .nil)))
noncomputable def t866 (P : Params) : BT := (.node (o17 P) (t865 P) (t792 P))
noncomputable def t867 (P : Params) : BT := (.node (o10 P) (t866 P) (t825 P))
noncomputable def t868 (P : Params) : BT := (.node (o34 P) (.node (o58 P) (.node (o110 P) .nil .nil) (.node (o7 P) .nil .nil)) (.node (o7 P) (.node (o172 P) .nil .nil) (.node (o238 P) .nil .nil)))
noncomputable def t869 (P : Params) : BT := (.node (o21 P) (t868 P) (t827 P))
noncomputable def t870 (P : Params) : BT := (.node (o53 P) (.node (o75 P) (.node (o156 P) .nil .nil) (.node (o232 P) .nil .nil)) (.node (o7 P) (.node (o199 P) .nil .nil) .nil))
noncomputable def t871 (P : Params) : BT := (.node (o27 P) (t751 P) (t870 P))
noncomputable def t872 (P : Params) : BT := (.node (o14 P) (t869 P) (t871 P))
noncomputable def t873 (P : Params) : BT := (.node (o6 P) (t867 P) (t872 P))
noncomputable def t874 (led : Bool) (P : Params) : BT := (.node (o2 P) (t864 led P) (t873 P))
noncomputable def t875 (led : Bool) (P : Params) : BT := (.node (o0 P) (t853 P) (t874 led P))
noncomputable def S29c0 (led : Bool) (w : World) (os : OsState) : SharedT := let P := w.params; ⟨(t875 led P), 233, life0, ⟨[]⟩, ⟨0, 0, 0, 0⟩, 2540, os⟩
noncomputable def r29x0 (w : World) (os : OsState) : Option (SharedT × Thread) := PySem.W.Fast.tw10295753902157049106 PySem.W.Fast.tw14364793385576792824 prog w 28 ann 1 431 (S29 w os) (piecesOf [stm 29] env cE ⟨116, 0, 117, 30⟩ [topFrame qE])
noncomputable def th29c0 (w : World) (os : OsState) : Thread := ⟨PySem.W.Fast.tw11892475500146522536 PySem.W.Fast.tw14364793385576792824 (.builtin "set.__init__" ⟨[(.ref 232), (.ref 231)], []⟩), (.builtin "set.__init__" ⟨[(.ref 232), (.ref 231)], []⟩), ⟨118, 9, 118, 88⟩, [.ret (kq (r29x0 w os) 0) none false [(.ref 232), (.ref 232), (.ref 231)] (.builtin "type.__call__" ⟨[(.type "set"), (.ref 231)], []⟩) ⟨118, 9, 118, 88⟩ [(.builtin "set.__init__"), (.ref 232), (.ref 231), (.builtin "set.__init__"), (.ref 232), (.ref 231)], .ret (kq (r29x0 w os) 1) none false [] cE ⟨118, 9, 118, 88⟩ [(.type "set"), (.ref 231)], topFrame qE]⟩
noncomputable def o240 (led : Bool) (P : Params) : Obj := ⟨(.type "set"), none, (.set ⟨[(832, (.int 832 2515)), (833, (.int 833 2516)), (8234, (.int 8234 2524)), (8235, (.int 8235 2525)), (8236, (.int 8236 2526)), (8237, (.int 8237 2527)), (8206, (.int 8206 2517)), (8207, (.int 8207 2518)), (8238, (.int 8238 2528))]⟩ 10 ⟨31, ⟨[0, 1, 10, 11, 12, 13, 14, 15, 16]⟩, ⟨[]⟩, 0, led, 1, true⟩), ⟨[]⟩⟩
noncomputable def o241 (P : Params) : Obj := ⟨(.type "list_iterator"), none, (.fields ⟨[(.ref 231), (.int 9 0)]⟩), ⟨[]⟩⟩
noncomputable def t876 (P : Params) : BT := (.node (o36 P) (.node (o8 P) (.node (o114 P) .nil .nil) (.node (o8 P) .nil .nil)) (.node (o7 P) (.node (o178 P) .nil .nil) (.node (o241 P) .nil .nil)))
noncomputable def t877 (P : Params) : BT := (.node (o24 P) (t876 P) (t808 P))
noncomputable def t878 (P : Params) : BT := (.node (o9 P) (t845 P) (t877 P))
noncomputable def t879 (P : Params) : BT := (.node (o5 P) (t878 P) (t851 P))
noncomputable def t880 (P : Params) : BT := (.node (o1 P) (t843 P) (t879 P))
noncomputable def t881 (led : Bool) (P : Params) : BT := (.node (o6 P) (.node (o7 P) (.node (o112 P) .nil .nil) (.node (o7 P) .nil .nil)) (.node (o80 P) (.node (o176 P) .nil .nil) (.node (o240 led P) .nil .nil)))
noncomputable def t882 (led : Bool) (P : Params) : BT := (.node (o23 P) (t881 led P) (t817 P))
noncomputable def t883 (led : Bool) (P : Params) : BT := (.node (o8 P) (t855 P) (t882 led P))
noncomputable def t884 (led : Bool) (P : Params) : BT := (.node (o4 P) (t883 led P) (t863 P))
noncomputable def t885 (led : Bool) (P : Params) : BT := (.node (o2 P) (t884 led P) (t873 P))
noncomputable def t886 (led : Bool) (P : Params) : BT := (.node (o0 P) (t880 P) (t885 led P))
noncomputable def S29c1 (led : Bool) (w : World) (os : OsState) : SharedT := let P := w.params; ⟨(t886 led P), 234, life0, ⟨[]⟩, ⟨0, 0, 0, 0⟩, 2549, os⟩
noncomputable def r29x1 (led : Bool) (w : World) (os : OsState) : Option (SharedT × Thread) := PySem.W.Fast.tw10295753902157049106 PySem.W.Fast.tw14364793385576792824 prog w 28 ann 1 197 (S29c0 led w os) (th29c0 w os)
noncomputable def th29c1 (led : Bool) (w : World) (os : OsState) : Thread := ⟨PySem.W.Fast.tw11892475500146522536 PySem.W.Fast.tw14364793385576792824 (.builtin "set.update.loop" ⟨[(.ref 232), (.ref 233)], []⟩), (.builtin "set.update.loop" ⟨[(.ref 232), (.ref 233)], []⟩), ⟨118, 9, 118, 88⟩, [.ret (kq (r29x1 led w os) 0) none false [] (.builtin "set.__init__" ⟨[(.ref 232), (.ref 231)], []⟩) ⟨118, 9, 118, 88⟩ [(.ref 232), (.ref 233)], .ret (kq (r29x1 led w os) 1) none false [(.ref 232), (.ref 232), (.ref 231)] (.builtin "type.__call__" ⟨[(.type "set"), (.ref 231)], []⟩) ⟨118, 9, 118, 88⟩ [(.builtin "set.__init__"), (.ref 232), (.ref 231), (.builtin "set.__init__"), (.ref 232), (.ref 231)], .ret (kq (r29x1 led w os) 2) none false [] cE ⟨118, 9, 118, 88⟩ [(.type "set"), (.ref 231)], topFrame qE]⟩
noncomputable def dl94 (P : Params) : List DictEntry := dl93 P ++ [⟨(PyData.keyHash P ⟨⟨[99, 56, 95, 115, 101, 116]⟩⟩), (.str ⟨⟨[99, 56, 95, 115, 101, 116]⟩⟩ 2555), (.ref 232)⟩]
noncomputable def o242 (P : Params) : Obj := ⟨(.type "dict"), none, (.dict ⟨dl94 P⟩ 36), ⟨[]⟩⟩
noncomputable def o243 (led : Bool) (P : Params) : Obj := ⟨(.type "set"), none, (.set ⟨[(832, (.int 832 2515)), (833, (.int 833 2516)), (8234, (.int 8234 2524)), (8235, (.int 8235 2525)), (8236, (.int 8236 2526)), (8237, (.int 8237 2527)), (8206, (.int 8206 2517)), (8207, (.int 8207 2518)), (8238, (.int 8238 2528)), (8298, (.int 8298 2534)), (8299, (.int 8299 2535)), (8300, (.int 8300 2536)), (8301, (.int 8301 2537)), (8302, (.int 8302 2538)), (8303, (.int 8303 2539))]⟩ 16 ⟨31, ⟨[0, 1, 10, 11, 12, 13, 14, 15, 16, 17, 18, 19, 20, 21, 22]⟩, ⟨[]⟩, 0, led, 1, true⟩), ⟨[]⟩⟩
noncomputable def o244 (P : Params) : Obj := ⟨(.type "list_iterator"), none, (.fields ⟨[.none, (.int 15 0)]⟩), ⟨[]⟩⟩
noncomputable def o245 (P : Params) : Obj := ⟨(.type "StopIteration"), none, (.fields ⟨[(.ref 234), .none, .none, .none, (.bool false), .none]⟩), ⟨[]⟩⟩
noncomputable def t887 (P : Params) : BT := (.node (o38 P) (.node (o7 P) (.node (o118 P) .nil .nil) (.node (o7 P) .nil .nil)) (.node (o82 P) (.node (o182 P) .nil .nil) (.node (o245 P) .nil .nil)))
noncomputable def t888 (P : Params) : BT := (.node (o26 P) (t887 P) (t840 P))
noncomputable def t889 (P : Params) : BT := (.node (o11 P) (t839 P) (t888 P))
noncomputable def t890 (P : Params) : BT := (.node (o242 P) (t837 P) (t889 P))
noncomputable def t891 (P : Params) : BT := (.node (o36 P) (.node (o8 P) (.node (o114 P) .nil .nil) (.node (o8 P) .nil .nil)) (.node (o7 P) (.node (o178 P) .nil .nil) (.node (o244 P) .nil .nil)))
noncomputable def t892 (P : Params) : BT := (.node (o24 P) (t891 P) (t808 P))
noncomputable def t893 (P : Params) : BT := (.node (o9 P) (t845 P) (t892 P))
noncomputable def t894 (P : Params) : BT := (.node (o5 P) (t893 P) (t851 P))
noncomputable def t895 (P : Params) : BT := (.node (o1 P) (t890 P) (t894 P))
noncomputable def t896 (led : Bool) (P : Params) : BT := (.node (o6 P) (.node (o7 P) (.node (o112 P) .nil .nil) (.node (o7 P) .nil .nil)) (.node (o80 P) (.node (o176 P) .nil .nil) (.node (o243 led P) .nil .nil)))
noncomputable def t897 (led : Bool) (P : Params) : BT := (.node (o23 P) (t896 led P) (t817 P))
noncomputable def t898 (led : Bool) (P : Params) : BT := (.node (o8 P) (t855 P) (t897 led P))
noncomputable def t899 (led : Bool) (P : Params) : BT := (.node (o4 P) (t898 led P) (t863 P))
noncomputable def t900 (P : Params) : BT := (.node (o37 P) (.node (o60 P) (.node (o116 P) .nil .nil) (.node (o211 P) .nil .nil)) (.node (o81 P) (.node (o180 P) .nil .nil) (.node (o7 P) .nil .nil)))
noncomputable def t901 (P : Params) : BT := (.node (o25 P) (t900 P) (t824 P))
noncomputable def t902 (P : Params) : BT := (.node (o10 P) (t866 P) (t901 P))
noncomputable def t903 (P : Params) : BT := (.node (o6 P) (t902 P) (t872 P))
noncomputable def t904 (led : Bool) (P : Params) : BT := (.node (o2 P) (t899 led P) (t903 P))
noncomputable def t905 (led : Bool) (P : Params) : BT := (.node (o0 P) (t895 P) (t904 led P))
noncomputable def S30L (led : Bool) (w : World) (os : OsState) : SharedT := let P := w.params; ⟨(t905 led P), 236, life0, ⟨[]⟩, ⟨0, 0, 0, 0⟩, 2556, os⟩
noncomputable def o246 (P : Params) : Obj := ⟨(.type "set"), none, (.set ⟨[(832, (.int 832 2515)), (833, (.int 833 2516)), (8234, (.int 8234 2524)), (8235, (.int 8235 2525)), (8236, (.int 8236 2526)), (8237, (.int 8237 2527)), (8206, (.int 8206 2517)), (8207, (.int 8207 2518)), (8238, (.int 8238 2528)), (8298, (.int 8298 2534)), (8299, (.int 8299 2535)), (8300, (.int 8300 2536)), (8301, (.int 8301 2537)), (8302, (.int 8302 2538)), (8303, (.int 8303 2539))]⟩ 16 ⟨31, ⟨[0, 1, 10, 11, 12, 13, 14, 15, 16, 17, 18, 19, 20, 21, 22]⟩, ⟨[]⟩, 0, (!P.followText "set-order"), 1, true⟩), ⟨[]⟩⟩
noncomputable def t906 (P : Params) : BT := (.node (o6 P) (.node (o7 P) (.node (o112 P) .nil .nil) (.node (o7 P) .nil .nil)) (.node (o80 P) (.node (o176 P) .nil .nil) (.node (o246 P) .nil .nil)))
noncomputable def t907 (P : Params) : BT := (.node (o23 P) (t906 P) (t817 P))
noncomputable def t908 (P : Params) : BT := (.node (o8 P) (t855 P) (t907 P))
noncomputable def t909 (P : Params) : BT := (.node (o4 P) (t908 P) (t863 P))
noncomputable def t910 (P : Params) : BT := (.node (o2 P) (t909 P) (t903 P))
noncomputable def t911 (P : Params) : BT := (.node (o0 P) (t895 P) (t910 P))
noncomputable def S30 (w : World) (os : OsState) : SharedT := let P := w.params; ⟨(t911 P), 236, life0, ⟨[]⟩, ⟨0, 0, 0, 0⟩, 2556, os⟩
noncomputable def dl95 (P : Params) : List DictEntry := dl94 P ++ [⟨(PyData.keyHash P ⟨⟨[105, 110, 95, 116, 97, 98, 108, 101, 95, 99, 56]⟩⟩), (.str ⟨⟨[105, 110, 95, 116, 97, 98, 108, 101, 95, 99, 56]⟩⟩ 2562), (.ref 242)⟩]
noncomputable def o247 (P : Params) : Obj := ⟨(.type "dict"), none, (.dict ⟨dl95 P⟩ 37), ⟨[]⟩⟩
noncomputable def o248 (P : Params) : Obj := ⟨.none, none, (.fields ⟨[(.int 2 0), (.int 0 0), (.ref 37), (.int 8 0), (.int 0 0), (.ref 50), (.int 21 0), (.int 0 0), (.ref 57), (.int 23 0), (.int 0 0), (.ref 70), (.int 34 0), (.int 0 0), (.ref 77), (.int 42 0), (.int 0 0), (.ref 86), (.int 59 0), (.int 0 0), (.ref 93), (.int 67 0), (.int 0 0), (.ref 100), (.int 84 0), (.int 0 0), (.ref 107), (.int 86 0), (.int 0 0), (.ref 115), (.int 95 0), (.int 0 0), (.ref 133), (.int 98 0), (.int 0 0), (.ref 179), (.int 103 0), (.int 0 0), (.ref 186), (.int 105 0), (.int 0 0), (.ref 193), (.int 113 0), (.int 0 0), (.ref 205), (.int 116 0), (.int 0 0), (.ref 217), (.int 119 0), (.int 0 0), (.ref 241)]⟩), ⟨[]⟩⟩
noncomputable def o249 (P : Params) : Obj := ⟨(.type "tuple"), none, (.seq ⟨[(.str ⟨⟨[99, 111, 100, 101]⟩⟩ 2559)]⟩ 0), ⟨[]⟩⟩
noncomputable def o250 (P : Params) : Obj := ⟨.none, none, (fnD 30 ⟨⟨[105, 110, 95, 116, 97, 98, 108, 101, 95, 99, 56]⟩⟩ ⟨⟨[105, 110, 95, 116, 97, 98, 108, 101, 95, 99, 56]⟩⟩ [] .none .none .none .none none .none .none 0 0), ⟨[]⟩⟩
noncomputable def o251 (P : Params) : Obj := ⟨(.type "code"), none, (.fields ⟨[(.str ⟨⟨[105, 110, 95, 116, 97, 98, 108, 101, 95, 99, 56]⟩⟩ 2556), (.str ⟨⟨[105, 110, 95, 116, 97, 98, 108, 101, 95, 99, 56]⟩⟩ 2557), (.str ⟨⟨[47, 99, 108, 97, 105, 109, 47, 99, 117, 116, 46, 112, 121]⟩⟩ 2558), (.int 119 0), (.int 1 0), (.int 0 0), (.int 0 0), (.int 3 0), (.ref 236), (.bool true), (.int 276 0), (.ref 237), .none, (.ref 238), (.ref 239), (.ref 240), (.int 2560 0), (.int 119 0), (.str ⟨⟨[47, 99, 108, 97, 105, 109, 47, 99, 117, 116, 46, 112, 121]⟩⟩ 2561)]⟩), ⟨[]⟩⟩
noncomputable def o252 (P : Params) : Obj := ⟨(.type "function"), none, (fnD 30 ⟨⟨[105, 110, 95, 116, 97, 98, 108, 101, 95, 99, 56]⟩⟩ ⟨⟨[105, 110, 95, 116, 97, 98, 108, 101, 95, 99, 56]⟩⟩ [] .none .none .none (.str ⟨⟨[99, 112, 121, 51, 49, 51, 46, 115, 116, 114, 105, 110, 103, 112, 114, 101, 112]⟩⟩ 416) none (.ref 241) .none 3 0), ⟨[]⟩⟩
noncomputable def t912 (P : Params) : BT := (.node (o40 P) (.node (o64 P) (.node (o126 P) .nil .nil) (.node (o215 P) .nil .nil)) (.node (o8 P) (.node (o8 P) .nil .nil) (.node (o7 P) .nil .nil)))
noncomputable def t913 (P : Params) : BT := (.node (o7 P) (t833 P) (t912 P))
noncomputable def t914 (P : Params) : BT := (.node (o7 P) (t913 P) (t836 P))
noncomputable def t915 (P : Params) : BT := (.node (o247 P) (t914 P) (t889 P))
noncomputable def t916 (P : Params) : BT := (.node (o41 P) (.node (o7 P) (.node (o130 P) .nil .nil) (.node (o220 P) .nil .nil)) (.node (o7 P) (.node (o7 P) .nil .nil) (.node (o251 P) .nil .nil)))
noncomputable def t917 (P : Params) : BT := (.node (o16 P) (t844 P) (t916 P))
noncomputable def t918 (P : Params) : BT := (.node (o9 P) (t917 P) (t892 P))
noncomputable def t919 (P : Params) : BT := (.node (o7 P) (.node (o62 P) (.node (o122 P) .nil .nil) (.node (o213 P) .nil .nil)) (.node (o84 P) (.node (o186 P) .nil .nil) (.node (o8 P) .nil .nil)))
noncomputable def t920 (P : Params) : BT := (.node (o248 P) (t919 P) (t849 P))
noncomputable def t921 (P : Params) : BT := (.node (o13 P) (t848 P) (t920 P))
noncomputable def t922 (P : Params) : BT := (.node (o5 P) (t918 P) (t921 P))
noncomputable def t923 (P : Params) : BT := (.node (o1 P) (t915 P) (t922 P))
noncomputable def t924 (P : Params) : BT := (.node (o7 P) (.node (o65 P) (.node (o128 P) .nil .nil) (.node (o222 P) .nil .nil)) (.node (o85 P) (.node (o191 P) .nil .nil) (.node (o250 P) .nil .nil)))
noncomputable def t925 (P : Params) : BT := (.node (o15 P) (t854 P) (t924 P))
noncomputable def t926 (P : Params) : BT := (.node (o8 P) (t925 P) (t907 P))
noncomputable def t927 (P : Params) : BT := (.node (o39 P) (.node (o61 P) (.node (o120 P) .nil .nil) (.node (o212 P) .nil .nil)) (.node (o83 P) (.node (o184 P) .nil .nil) (.node (o7 P) .nil .nil)))
noncomputable def t928 (P : Params) : BT := (.node (o7 P) (t927 P) (t861 P))
noncomputable def t929 (P : Params) : BT := (.node (o12 P) (t860 P) (t928 P))
noncomputable def t930 (P : Params) : BT := (.node (o4 P) (t926 P) (t929 P))
noncomputable def t931 (P : Params) : BT := (.node (o42 P) (.node (o8 P) (.node (o132 P) .nil .nil) (.node (o7 P) .nil .nil)) (.node (o86 P) (.node (o192 P) .nil .nil) (.node (o252 P) .nil .nil)))
noncomputable def t932 (P : Params) : BT := (.node (o17 P) (t865 P) (t931 P))
noncomputable def t933 (P : Params) : BT := (.node (o10 P) (t932 P) (t901 P))
noncomputable def t934 (P : Params) : BT := (.node (o8 P) (.node (o63 P) (.node (o124 P) .nil .nil) (.node (o214 P) .nil .nil)) (.node (o7 P) (.node (o7 P) .nil .nil) (.node (o249 P) .nil .nil)))
noncomputable def t935 (P : Params) : BT := (.node (o27 P) (t934 P) (t870 P))
noncomputable def t936 (P : Params) : BT := (.node (o14 P) (t869 P) (t935 P))
noncomputable def t937 (P : Params) : BT := (.node (o6 P) (t933 P) (t936 P))
noncomputable def t938 (P : Params) : BT := (.node (o2 P) (t930 P) (t937 P))
noncomputable def t939 (P : Params) : BT := (.node (o0 P) (t923 P) (t938 P))
noncomputable def S31 (w : World) (os : OsState) : SharedT := let P := w.params; ⟨(t939 P), 243, life0, ⟨[]⟩, ⟨0, 0, 0, 0⟩, 2563, os⟩
noncomputable def o253 (P : Params) : Obj := ⟨(.type "list"), none, (.seq ⟨[(.int 917505 2563)]⟩ 0), ⟨[]⟩⟩
noncomputable def o254 (P : Params) : Obj := ⟨(.type "range"), none, (.fields ⟨[(.int 917536 2564), (.int 917632 2565), (.int 1 2566)]⟩), ⟨[]⟩⟩
noncomputable def o255 (P : Params) : Obj := ⟨(.type "list"), none, (.seq ⟨[]⟩ 2), ⟨[]⟩⟩
noncomputable def o256 (P : Params) : Obj := ⟨(.type "range_iterator"), none, (.fields ⟨[(.int 917536 0), (.int 96 0), (.int 1 0)]⟩), ⟨[]⟩⟩
noncomputable def t940 (P : Params) : BT := (.node (o43 P) (.node (o66 P) (.node (o134 P) .nil .nil) (.node (o221 P) .nil .nil)) (.node (o87 P) (.node (o193 P) .nil .nil) (.node (o253 P) .nil .nil)))
noncomputable def t941 (P : Params) : BT := (.node (o18 P) (t838 P) (t940 P))
noncomputable def t942 (P : Params) : BT := (.node (o11 P) (t941 P) (t888 P))
noncomputable def t943 (P : Params) : BT := (.node (o247 P) (t914 P) (t942 P))
noncomputable def t944 (P : Params) : BT := (.node (o47 P) (.node (o67 P) (.node (o138 P) .nil .nil) (.node (o8 P) .nil .nil)) (.node (o89 P) (.node (o7 P) .nil .nil) (.node (o255 P) .nil .nil)))
noncomputable def t945 (P : Params) : BT := (.node (o20 P) (t847 P) (t944 P))
noncomputable def t946 (P : Params) : BT := (.node (o13 P) (t945 P) (t920 P))
noncomputable def t947 (P : Params) : BT := (.node (o5 P) (t918 P) (t946 P))
noncomputable def t948 (P : Params) : BT := (.node (o1 P) (t943 P) (t947 P))
noncomputable def t949 (P : Params) : BT := (.node (o46 P) (.node (o7 P) (.node (o136 P) .nil .nil) (.node (o7 P) .nil .nil)) (.node (o88 P) (.node (o194 P) .nil .nil) (.node (o254 P) .nil .nil)))
noncomputable def t950 (P : Params) : BT := (.node (o19 P) (t859 P) (t949 P))
noncomputable def t951 (P : Params) : BT := (.node (o12 P) (t950 P) (t928 P))
noncomputable def t952 (P : Params) : BT := (.node (o4 P) (t926 P) (t951 P))
noncomputable def t953 (P : Params) : BT := (.node (o48 P) (.node (o68 P) (.node (o140 P) .nil .nil) (.node (o225 P) .nil .nil)) (.node (o90 P) (.node (o8 P) .nil .nil) (.node (o256 P) .nil .nil)))
noncomputable def t954 (P : Params) : BT := (.node (o21 P) (t868 P) (t953 P))
noncomputable def t955 (P : Params) : BT := (.node (o14 P) (t954 P) (t935 P))
noncomputable def t956 (P : Params) : BT := (.node (o6 P) (t933 P) (t955 P))
noncomputable def t957 (P : Params) : BT := (.node (o2 P) (t952 P) (t956 P))
noncomputable def t958 (P : Params) : BT := (.node (o0 P) (t948 P) (t957 P))
noncomputable def S31c0 (w : World) (os : OsState) : SharedT := let P := w.params; ⟨(t958 P), 247, life0, ⟨[]⟩, ⟨0, 0, 0, 0⟩, 2569, os⟩
noncomputable def r31x0 (w : World) (os : OsState) : Option (SharedT × Thread) := PySem.W.Fast.tw10295753902157049106 PySem.W.Fast.tw14364793385576792824 prog w 28 ann 1 87 (S31 w os) (piecesOf [stm 31] env cE ⟨119, 0, 120, 30⟩ [topFrame qE])
noncomputable def th31c0 (w : World) (os : OsState) : Thread := ⟨PySem.W.Fast.tw11892475500146522536 PySem.W.Fast.tw14364793385576792824 (.builtin "list.extend.loop" ⟨[(.ref 245), (.ref 246), .none], []⟩), (.builtin "list.extend.loop" ⟨[(.ref 245), (.ref 246), .none], []⟩), ⟨121, 24, 121, 51⟩, [.ret (kq (r31x0 w os) 0) none false [(.ref 245), (.ref 245), (.ref 244)] (.builtin "type.__call__" ⟨[(.type "list"), (.ref 244)], []⟩) ⟨121, 24, 121, 51⟩ [(.builtin "list.__init__"), (.ref 245), (.ref 244), (.builtin "list.__init__"), (.ref 245), (.ref 244)], .ret (kq (r31x0 w os) 1) none false [(.ref 243)] cE ⟨121, 24, 121, 51⟩ [(.type "list"), (.ref 244)], topFrame qE]⟩
noncomputable def o257 (P : Params) : Obj := ⟨(.type "list"), none, (.seq ⟨[(.int 917536 2569), (.int 917537 2570), (.int 917538 2571), (.int 917539 2572), (.int 917540 2573), (.int 917541 2574), (.int 917542 2575), (.int 917543 2576), (.int 917544 2577), (.int 917545 2578), (.int 917546 2579), (.int 917547 2580), (.int 917548 2581), (.int 917549 2582), (.int 917550 2583), (.int 917551 2584), (.int 917552 2585), (.int 917553 2586), (.int 917554 2587), (.int 917555 2588), (.int 917556 2589), (.int 917557 2590), (.int 917558 2591), (.int 917559 2592), (.int 917560 2593), (.int 917561 2594), (.int 917562 2595), (.int 917563 2596), (.int 917564 2597), (.int 917565 2598)]⟩ 32), ⟨[]⟩⟩
noncomputable def o258 (P : Params) : Obj := ⟨(.type "range_iterator"), none, (.fields ⟨[(.int 917566 0), (.int 66 0), (.int 1 0)]⟩), ⟨[]⟩⟩
noncomputable def t959 (P : Params) : BT := (.node (o47 P) (.node (o67 P) (.node (o138 P) .nil .nil) (.node (o8 P) .nil .nil)) (.node (o89 P) (.node (o7 P) .nil .nil) (.node (o257 P) .nil .nil)))
noncomputable def t960 (P : Params) : BT := (.node (o20 P) (t847 P) (t959 P))
noncomputable def t961 (P : Params) : BT := (.node (o13 P) (t960 P) (t920 P))
noncomputable def t962 (P : Params) : BT := (.node (o5 P) (t918 P) (t961 P))
noncomputable def t963 (P : Params) : BT := (.node (o1 P) (t943 P) (t962 P))
noncomputable def t964 (P : Params) : BT := (.node (o48 P) (.node (o68 P) (.node (o140 P) .nil .nil) (.node (o225 P) .nil .nil)) (.node (o90 P) (.node (o8 P) .nil .nil) (.node (o258 P) .nil .nil)))
noncomputable def t965 (P : Params) : BT := (.node (o21 P) (t868 P) (t964 P))
noncomputable def t966 (P : Params) : BT := (.node (o14 P) (t965 P) (t935 P))
noncomputable def t967 (P : Params) : BT := (.node (o6 P) (t933 P) (t966 P))
noncomputable def t968 (P : Params) : BT := (.node (o2 P) (t952 P) (t967 P))
noncomputable def t969 (P : Params) : BT := (.node (o0 P) (t963 P) (t968 P))
noncomputable def S31c1 (w : World) (os : OsState) : SharedT := let P := w.params; ⟨(t969 P), 247, life0, ⟨[]⟩, ⟨0, 0, 0, 0⟩, 2599, os⟩
noncomputable def th31c1 (w : World) (os : OsState) : Thread := ⟨PySem.W.Fast.tw11892475500146522536 PySem.W.Fast.tw14364793385576792824 (.builtin "list.extend.loop" ⟨[(.ref 245), (.ref 246), .none], []⟩), (.builtin "list.extend.loop" ⟨[(.ref 245), (.ref 246), .none], []⟩), ⟨121, 24, 121, 51⟩, [.ret (kq (r31x0 w os) 0) none false [(.ref 245), (.ref 245), (.ref 244)] (.builtin "type.__call__" ⟨[(.type "list"), (.ref 244)], []⟩) ⟨121, 24, 121, 51⟩ [(.builtin "list.__init__"), (.ref 245), (.ref 244), (.builtin "list.__init__"), (.ref 245), (.ref 244)], .ret (kq (r31x0 w os) 1) none false [(.ref 243)] cE ⟨121, 24, 121, 51⟩ [(.type "list"), (.ref 244)], topFrame qE]⟩
noncomputable def o259 (P : Params) : Obj := ⟨(.type "list"), none, (.seq ⟨[(.int 917536 2569), (.int 917537 2570), (.int 917538 2571), (.int 917539 2572), (.int 917540 2573), (.int 917541 2574), (.int 917542 2575), (.int 917543 2576), (.int 917544 2577), (.int 917545 2578), (.int 917546 2579), (.int 917547 2580), (.int 917548 2581), (.int 917549 2582), (.int 917550 2583), (.int 917551 2584), (.int 917552 2585), (.int 917553 2586), (.int 917554 2587), (.int 917555 2588), (.int 917556 2589), (.int 917557 2590), (.int 917558 2591), (.int 917559 2592), (.int 917560 2593), (.int 917561 2594), (.int 917562 2595), (.int 917563 2596), (.int 917564 2597), (.int 917565 2598), (.int 917566 2599), (.int 917567 2600), (.int 917568 2601), (.int 917569 2602), (.int 917570 2603), (.int 917571 2604), (.int 917572 2605), (.int 917573 2606), (.int 917574 2607), (.int 917575 2608), (.int 917576 2609), (.int 917577 2610), (.int 917578 2611), (.int 917579 2612), (.int 917580 2613), (.int 917581 2614), (.int 917582 2615), (.int 917583 2616), (.int 917584 2617), (.int 917585 2618), (.int 917586 2619), (.int 917587 2620), (.int 917588 2621), (.int 917589 2622), (.int 917590 2623), (.int 917591 2624), (.int 917592 2625), (.int 917593 2626), (.int 917594 2627), (.int 917595 2628)]⟩ 62), ⟨[]⟩⟩
noncomputable def o260 (P : Params) : Obj := ⟨(.type "range_iterator"), none, (.fields ⟨[(.int 917596 0), (.int 36 0), (.int 1 0)]⟩), ⟨[]⟩⟩
noncomputable def t970 (P : Params) : BT := (.node (o47 P) (.node (o67 P) (.node (o138 P) .nil .nil) (.node (o8 P) .nil .nil)) (.node (o89 P) (.node (o7 P) .nil .nil) (.node (o259 P) .nil .nil)))
noncomputable def t971 (P : Params) : BT := (.node (o20 P) (t847 P) (t970 P))
noncomputable def t972 (P : Params) : BT := (.node (o13 P) (t971 P) (t920 P))
noncomputable def t973 (P : Params) : BT := (.node (o5 P) (t918 P) (t972 P))
noncomputable def t974 (P : Params) : BT := (.node (o1 P) (t943 P) (t973 P))
noncomputable def t975 (P : Params) : BT := (.node (o48 P) (.node (o68 P) (.node (o140 P) .nil .nil) (.node (o225 P) .nil .nil)) (.node (o90 P) (.node (o8 P) .nil .nil) (.node (o260 P) .nil .nil)))
noncomputable def t976 (P : Params) : BT := (.node (o21 P) (t868 P) (t975 P))
noncomputable def t977 (P : Params) : BT := (.node (o14 P) (t976 P) (t935 P))
noncomputable def t978 (P : Params) : BT := (.node (o6 P) (t933 P) (t977 P))
noncomputable def t979 (P : Params) : BT := (.node (o2 P) (t952 P) (t978 P))
noncomputable def t980 (P : Params) : BT := (.node (o0 P) (t974 P) (t979 P))
noncomputable def S31c2 (w : World) (os : OsState) : SharedT := let P := w.params; ⟨(t980 P), 247, life0, ⟨[]⟩, ⟨0, 0, 0, 0⟩, 2629, os⟩
noncomputable def th31c2 (w : World) (os : OsState) : Thread := ⟨PySem.W.Fast.tw11892475500146522536 PySem.W.Fast.tw14364793385576792824 (.builtin "list.extend.loop" ⟨[(.ref 245), (.ref 246), .none], []⟩), (.builtin "list.extend.loop" ⟨[(.ref 245), (.ref 246), .none], []⟩), ⟨121, 24, 121, 51⟩, [.ret (kq (r31x0 w os) 0) none false [(.ref 245), (.ref 245), (.ref 244)] (.builtin "type.__call__" ⟨[(.type "list"), (.ref 244)], []⟩) ⟨121, 24, 121, 51⟩ [(.builtin "list.__init__"), (.ref 245), (.ref 244), (.builtin "list.__init__"), (.ref 245), (.ref 244)], .ret (kq (r31x0 w os) 1) none false [(.ref 243)] cE ⟨121, 24, 121, 51⟩ [(.type "list"), (.ref 244)], topFrame qE]⟩
noncomputable def o261 (P : Params) : Obj := ⟨(.type "list"), none, (.seq ⟨[(.int 917536 2569), (.int 917537 2570), (.int 917538 2571), (.int 917539 2572), (.int 917540 2573), (.int 917541 2574), (.int 917542 2575), (.int 917543 2576), (.int 917544 2577), (.int 917545 2578), (.int 917546 2579), (.int 917547 2580), (.int 917548 2581), (.int 917549 2582), (.int 917550 2583), (.int 917551 2584), (.int 917552 2585), (.int 917553 2586), (.int 917554 2587), (.int 917555 2588), (.int 917556 2589), (.int 917557 2590), (.int 917558 2591), (.int 917559 2592), (.int 917560 2593), (.int 917561 2594), (.int 917562 2595), (.int 917563 2596), (.int 917564 2597), (.int 917565 2598), (.int 917566 2599), (.int 917567 2600), (.int 917568 2601), (.int 917569 2602), (.int 917570 2603), (.int 917571 2604), (.int 917572 2605), (.int 917573 2606), (.int 917574 2607), (.int 917575 2608), (.int 917576 2609), (.int 917577 2610), (.int 917578 2611), (.int 917579 2612), (.int 917580 2613), (.int 917581 2614), (.int 917582 2615), (.int 917583 2616), (.int 917584 2617), (.int 917585 2618), (.int 917586 2619), (.int 917587 2620), (.int 917588 2621), (.int 917589 2622), (.int 917590 2623), (.int 917591 2624), (.int 917592 2625), (.int 917593 2626), (.int 917594 2627), (.int 917595 2628), (.int 917596 2629), (.int 917597 2630), (.int 917598 2631), (.int 917599 2632), (.int 917600 2633), (.int 917601 2634), (.int 917602 2635), (.int 917603 2636), (.int 917604 2637), (.int 917605 2638), (.int 917606 2639), (.int 917607 2640), (.int 917608 2641), (.int 917609 2642), (.int 917610 2643), (.int 917611 2644), (.int 917612 2645), (.int 917613 2646), (.int 917614 2647), (.int 917615 2648), (.int 917616 2649), (.int 917617 2650), (.int 917618 2651), (.int 917619 2652), (.int 917620 2653), (.int 917621 2654), (.int 917622 2655), (.int 917623 2656), (.int 917624 2657), (.int 917625 2658)]⟩ 92), ⟨[]⟩⟩
noncomputable def o262 (P : Params) : Obj := ⟨(.type "range_iterator"), none, (.fields ⟨[(.int 917626 0), (.int 6 0), (.int 1 0)]⟩), ⟨[]⟩⟩
noncomputable def t981 (P : Params) : BT := (.node (o47 P) (.node (o67 P) (.node (o138 P) .nil .nil) (.node (o8 P) .nil .nil)) (.node (o89 P) (.node (o7 P) .nil .nil) (.node (o261 P) .nil .nil)))
noncomputable def t982 (P : Params) : BT := (.node (o20 P) (t847 P) (t981 P))
noncomputable def t983 (P : Params) : BT := (.node (o13 P) (t982 P) (t920 P))
noncomputable def t984 (P : Params) : BT := (.node (o5 P) (t918 P) (t983 P))
noncomputable def t985 (P : Params) : BT := (.node (o1 P) (t943 P) (t984 P))
noncomputable def t986 (P : Params) : BT := (.node (o48 P) (.node (o68 P) (.node (o140 P) .nil .nil) (.node (o225 P) .nil .nil)) (.node (o90 P) (.node (o8 P) .nil .nil) (.node (o262 P) .nil .nil)))
noncomputable def t987 (P : Params) : BT := (.node (o21 P) (t868 P) (t986 P))
noncomputable def t988 (P : Params) : BT := (.node (o14 P) (t987 P) (t935 P))
noncomputable def t989 (P : Params) : BT := (.node (o6 P) (t933 P) (t988 P))
noncomputable def t990 (P : Params) : BT := (.node (o2 P) (t952 P) (t989 P))
noncomputable def t991 (P : Params) : BT := (.node (o0 P) (t985 P) (t990 P))
noncomputable def S31c3 (w : World) (os : OsState) : SharedT := let P := w.params; ⟨(t991 P), 247, life0, ⟨[]⟩, ⟨0, 0, 0, 0⟩, 2659, os⟩
noncomputable def th31c3 (w : World) (os : OsState) : Thread := ⟨PySem.W.Fast.tw11892475500146522536 PySem.W.Fast.tw14364793385576792824 (.builtin "list.extend.loop" ⟨[(.ref 245), (.ref 246), .none], []⟩), (.builtin "list.extend.loop" ⟨[(.ref 245), (.ref 246), .none], []⟩), ⟨121, 24, 121, 51⟩, [.ret (kq (r31x0 w os) 0) none false [(.ref 245), (.ref 245), (.ref 244)] (.builtin "type.__call__" ⟨[(.type "list"), (.ref 244)], []⟩) ⟨121, 24, 121, 51⟩ [(.builtin "list.__init__"), (.ref 245), (.ref 244), (.builtin "list.__init__"), (.ref 245), (.ref 244)], .ret (kq (r31x0 w os) 1) none false [(.ref 243)] cE ⟨121, 24, 121, 51⟩ [(.type "list"), (.ref 244)], topFrame qE]⟩
noncomputable def o263 (P : Params) : Obj := ⟨(.type "list"), none, (.seq ⟨[(.int 917536 2569), (.int 917537 2570), (.int 917538 2571), (.int 917539 2572), (.int 917540 2573), (.int 917541 2574), (.int 917542 2575), (.int 917543 2576), (.int 917544 2577), (.int 917545 2578), (.int 917546 2579), (.int 917547 2580), (.int 917548 2581), (.int 917549 2582), (.int 917550 2583), (.int 917551 2584), (.int 917552 2585), (.int 917553 2586), (.int 917554 2587), (.int 917555 2588), (.int 917556 2589), (.int 917557 2590), (.int 917558 2591), (.int 917559 2592), (.int 917560 2593), (.int 917561 2594), (.int 917562 2595), (.int 917563 2596), (.int 917564 2597), (.int 917565 2598), (.int 917566 2599), (.int 917567 2600), (.int 917568 2601), (.int 917569 2602), (.int 917570 2603), (.int 917571 2604), (.int 917572 2605), (.int 917573 2606), (.int 917574 2607), (.int 917575 2608), (.int 917576 2609), (.int 917577 2610), (.int 917578 2611), (.int 917579 2612), (.int 917580 2613), (.int 917581 2614), (.int 917582 2615), (.int 917583 2616), (.int 917584 2617), (.int 917585 2618), (.int 917586 2619), (.int 917587 2620), (.int 917588 2621), (.int 917589 2622), (.int 917590 2623), (.int 917591 2624), (.int 917592 2625), (.int 917593 2626), (.int 917594 2627), (.int 917595 2628), (.int 917596 2629), (.int 917597 2630), (.int 917598 2631), (.int 917599 2632), (.int 917600 2633), (.int 917601 2634), (.int 917602 2635), (.int 917603 2636), (.int 917604 2637), (.int 917605 2638), (.int 917606 2639), (.int 917607 2640), (.int 917608 2641), (.int 917609 2642), (.int 917610 2643), (.int 917611 2644), (.int 917612 2645), (.int 917613 2646), (.int 917614 2647), (.int 917615 2648), (.int 917616 2649), (.int 917617 2650), (.int 917618 2651), (.int 917619 2652), (.int 917620 2653), (.int 917621 2654), (.int 917622 2655), (.int 917623 2656), (.int 917624 2657), (.int 917625 2658), (.int 917626 2659), (.int 917627 2660), (.int 917628 2661), (.int 917629 2662), (.int 917630 2663), (.int 917631 2664)]⟩ 98), ⟨[]⟩⟩
noncomputable def o264 (P : Params) : Obj := ⟨(.type "range_iterator"), none, (.fields ⟨[(.int 917632 0), (.int 0 0), (.int 1 0)]⟩), ⟨[]⟩⟩
noncomputable def o265 (P : Params) : Obj := ⟨(.type "StopIteration"), none, (.fields ⟨[(.ref 247), .none, .none, .none, (.bool false), .none]⟩), ⟨[]⟩⟩
noncomputable def o266 (P : Params) : Obj := ⟨(.type "list"), none, (.seq ⟨[(.int 917505 2563), (.int 917536 2569), (.int 917537 2570), (.int 917538 2571), (.int 917539 2572), (.int 917540 2573), (.int 917541 2574), (.int 917542 2575), (.int 917543 2576), (.int 917544 2577), (.int 917545 2578), (.int 917546 2579), (.int 917547 2580), (.int 917548 2581), (.int 917549 2582), (.int 917550 2583), (.int 917551 2584), (.int 917552 2585), (.int 917553 2586), (.int 917554 2587), (.int 917555 2588), (.int 917556 2589), (.int 917557 2590), (.int 917558 2591), (.int 917559 2592), (.int 917560 2593), (.int 917561 2594), (.int 917562 2595), (.int 917563 2596), (.int 917564 2597), (.int 917565 2598), (.int 917566 2599), (.int 917567 2600), (.int 917568 2601), (.int 917569 2602), (.int 917570 2603), (.int 917571 2604), (.int 917572 2605), (.int 917573 2606), (.int 917574 2607), (.int 917575 2608), (.int 917576 2609), (.int 917577 2610), (.int 917578 2611), (.int 917579 2612), (.int 917580 2613), (.int 917581 2614), (.int 917582 2615), (.int 917583 2616), (.int 917584 2617), (.int 917585 2618), (.int 917586 2619), (.int 917587 2620), (.int 917588 2621), (.int 917589 2622), (.int 917590 2623), (.int 917591 2624), (.int 917592 2625), (.int 917593 2626), (.int 917594 2627), (.int 917595 2628), (.int 917596 2629), (.int 917597 2630), (.int 917598 2631), (.int 917599 2632), (.int 917600 2633), (.int 917601 2634), (.int 917602 2635), (.int 917603 2636), (.int 917604 2637), (.int 917605 2638), (.int 917606 2639), (.int 917607 2640), (.int 917608 2641), (.int 917609 2642), (.int 917610 2643), (.int 917611 2644), (.int 917612 2645), (.int 917613 2646), (.int 917614 2647), (.int 917615 2648), (.int 917616 2649), (.int 917617 2650), (.int 917618 2651), (.int 917619 2652), (.int 917620 2653), (.int 917621 2654), (.int 917622 2655), (.int 917623 2656), (.int 917624 2657), (.int 917625 2658), (.int 917626 2659), (.int 917627 2660), (.int 917628 2661), (.int 917629 2662), (.int 917630 2663), (.int 917631 2664)]⟩ 0), ⟨[]⟩⟩
noncomputable def t992 (P : Params) : BT := (.node (o7 P) (.node (o69 P) (.node (o142 P) .nil .nil) (.node (o7 P) .nil .nil)) (.node (o91 P) (.node (o195 P) .nil .nil) (.node (o7 P) .nil .nil)))
noncomputable def t993 (P : Params) : BT := (.node (o22 P) (t835 P) (t992 P))
noncomputable def t994 (P : Params) : BT := (.node (o7 P) (t913 P) (t993 P))
noncomputable def t995 (P : Params) : BT := (.node (o247 P) (t994 P) (t942 P))
noncomputable def t996 (P : Params) : BT := (.node (o49 P) (.node (o8 P) (.node (o146 P) .nil .nil) (.node (o227 P) .nil .nil)) (.node (o7 P) (.node (o196 P) .nil .nil) (.node (o266 P) .nil .nil)))
noncomputable def t997 (P : Params) : BT := (.node (o24 P) (t891 P) (t996 P))
noncomputable def t998 (P : Params) : BT := (.node (o9 P) (t917 P) (t997 P))
noncomputable def t999 (P : Params) : BT := (.node (o47 P) (.node (o67 P) (.node (o138 P) .nil .nil) (.node (o8 P) .nil .nil)) (.node (o89 P) (.node (o7 P) .nil .nil) (.node (o263 P) .nil .nil)))
noncomputable def t1000 (P : Params) : BT := (.node (o20 P) (t847 P) (t999 P))
noncomputable def t1001 (P : Params) : BT := (.node (o13 P) (t1000 P) (t920 P))
noncomputable def t1002 (P : Params) : BT := (.node (o5 P) (t998 P) (t1001 P))
noncomputable def t1003 (P : Params) : BT := (.node (o1 P) (t995 P) (t1002 P))
noncomputable def t1004 (P : Params) : BT := (.node (o8 P) (.node (o7 P) (.node (o144 P) .nil .nil) (.node (o226 P) .nil .nil)) (.node (o92 P) (.node (o7 P) .nil .nil) (.node (o265 P) .nil .nil)))
noncomputable def t1005 (P : Params) : BT := (.node (o23 P) (t906 P) (t1004 P))
noncomputable def t1006 (P : Params) : BT := (.node (o8 P) (t925 P) (t1005 P))
noncomputable def t1007 (P : Params) : BT := (.node (o4 P) (t1006 P) (t951 P))
noncomputable def t1008 (led : Bool) (P : Params) : BT := (.node (o50 P) (.node (o72 P) (.node (o148 P) .nil .nil) (.node (o228 P) .nil .nil)) (.node (o93 P) (.node (o197 P) .nil .nil) (.node (o95 led P) .nil .nil)))
noncomputable def t1009 (led : Bool) (P : Params) : BT := (.node (o25 P) (t900 P) (t1008 led P))
noncomputable def t1010 (led : Bool) (P : Params) : BT := (.node (o10 P) (t932 P) (t1009 led P))
noncomputable def t1011 (P : Params) : BT := (.node (o48 P) (.node (o68 P) (.node (o140 P) .nil .nil) (.node (o225 P) .nil .nil)) (.node (o90 P) (.node (o8 P) .nil .nil) (.node (o264 P) .nil .nil)))
noncomputable def t1012 (P : Params) : BT := (.node (o21 P) (t868 P) (t1011 P))
noncomputable def t1013 (P : Params) : BT := (.node (o14 P) (t1012 P) (t935 P))
noncomputable def t1014 (led : Bool) (P : Params) : BT := (.node (o6 P) (t1010 led P) (t1013 P))
noncomputable def t1015 (led : Bool) (P : Params) : BT := (.node (o2 P) (t1007 P) (t1014 led P))
noncomputable def t1016 (led : Bool) (P : Params) : BT := (.node (o0 P) (t1003 P) (t1015 led P))
noncomputable def S31c4 (led : Bool) (w : World) (os : OsState) : SharedT := let P := w.params; ⟨(t1016 led P), 251, life0, ⟨[]⟩, ⟨0, 0, 0, 0⟩, 2665, os⟩
noncomputable def r31x4 (w : World) (os : OsState) : Option (SharedT × Thread) := PySem.W.Fast.tw10295753902157049106 PySem.W.Fast.tw14364793385576792824 prog w 28 ann 1 146 (S31c3 w os) (th31c3 w os)
noncomputable def th31c4 (w : World) (os : OsState) : Thread := ⟨PySem.W.Fast.tw11892475500146522536 PySem.W.Fast.tw14364793385576792824 (.builtin "set.__init__" ⟨[(.ref 250), (.ref 249)], []⟩), (.builtin "set.__init__" ⟨[(.ref 250), (.ref 249)], []⟩), ⟨121, 9, 121, 52⟩, [.ret (kq (r31x4 w os) 0) none false [(.ref 250), (.ref 250), (.ref 249)] (.builtin "type.__call__" ⟨[(.type "set"), (.ref 249)], []⟩) ⟨121, 9, 121, 52⟩ [(.builtin "set.__init__"), (.ref 250), (.ref 249), (.builtin "set.__init__"), (.ref 250), (.ref 249)], .ret (kq (r31x4 w os) 1) none false [] cE ⟨121, 9, 121, 52⟩ [(.type "set"), (.ref 249)], topFrame qE]⟩
noncomputable def o267 (led : Bool) (P : Params) : Obj := ⟨(.type "set"), none, (.set ⟨[(917536, (.int 917536 2569)), (917505, (.int 917505 2563)), (917537, (.int 917537 2570))]⟩ 3 ⟨7, ⟨[0, 1, 7]⟩, ⟨[]⟩, 0, led, 0, true⟩), ⟨[]⟩⟩
noncomputable def o268 (P : Params) : Obj := ⟨(.type "list_iterator"), none, (.fields ⟨[(.ref 249), (.int 3 0)]⟩), ⟨[]⟩⟩
noncomputable def t1017 (P : Params) : BT := (.node (o7 P) (.node (o7 P) (.node (o150 P) .nil .nil) (.node (o229 P) .nil .nil)) (.node (o94 P) (.node (o198 P) .nil .nil) (.node (o268 P) .nil .nil)))
noncomputable def t1018 (P : Params) : BT := (.node (o26 P) (t887 P) (t1017 P))
noncomputable def t1019 (P : Params) : BT := (.node (o11 P) (t941 P) (t1018 P))
noncomputable def t1020 (P : Params) : BT := (.node (o247 P) (t994 P) (t1019 P))
noncomputable def t1021 (P : Params) : BT := (.node (o1 P) (t1020 P) (t1002 P))
noncomputable def t1022 (led : Bool) (P : Params) : BT := (.node (o50 P) (.node (o72 P) (.node (o148 P) .nil .nil) (.node (o228 P) .nil .nil)) (.node (o93 P) (.node (o197 P) .nil .nil) (.node (o267 led P) .nil .nil)))
noncomputable def t1023 (led : Bool) (P : Params) : BT := (.node (o25 P) (t900 P) (t1022 led P))
noncomputable def t1024 (led : Bool) (P : Params) : BT := (.node (o10 P) (t932 P) (t1023 led P))
noncomputable def t1025 (led : Bool) (P : Params) : BT := (.node (o6 P) (t1024 led P) (t1013 P))
noncomputable def t1026 (led : Bool) (P : Params) : BT := (.node (o2 P) (t1007 P) (t1025 led P))
noncomputable def t1027 (led : Bool) (P : Params) : BT := (.node (o0 P) (t1021 P) (t1026 led P))
noncomputable def S31c5 (led : Bool) (w : World) (os : OsState) : SharedT := let P := w.params; ⟨(t1027 led P), 252, life0, ⟨[]⟩, ⟨0, 0, 0, 0⟩, 2668, os⟩
noncomputable def r31x5 (led : Bool) (w : World) (os : OsState) : Option (SharedT × Thread) := PySem.W.Fast.tw10295753902157049106 PySem.W.Fast.tw14364793385576792824 prog w 28 ann 1 75 (S31c4 led w os) (th31c4 w os)
noncomputable def th31c5 (led : Bool) (w : World) (os : OsState) : Thread := ⟨PySem.W.Fast.tw11892475500146522536 PySem.W.Fast.tw14364793385576792824 (.builtin "set.update.loop" ⟨[(.ref 250), (.ref 251)], []⟩), (.builtin "set.update.loop" ⟨[(.ref 250), (.ref 251)], []⟩), ⟨121, 9, 121, 52⟩, [.ret (kq (r31x5 led w os) 0) none false [] (.builtin "set.__init__" ⟨[(.ref 250), (.ref 249)], []⟩) ⟨121, 9, 121, 52⟩ [(.ref 250), (.ref 251)], .ret (kq (r31x5 led w os) 1) none false [(.ref 250), (.ref 250), (.ref 249)] (.builtin "type.__call__" ⟨[(.type "set"), (.ref 249)], []⟩) ⟨121, 9, 121, 52⟩ [(.builtin "set.__init__"), (.ref 250), (.ref 249), (.builtin "set.__init__"), (.ref 250), (.ref 249)], .ret (kq (r31x5 led w os) 2) none false [] cE ⟨121, 9, 121, 52⟩ [(.type "set"), (.ref 249)], topFrame qE]⟩
noncomputable def o269 (led : Bool) (P : Params) : Obj := ⟨(.type "set"), none, (.set ⟨[(917536, (.int 917536 2569)), (917505, (.int 917505 2563)), (917538, (.int 917538 2571)), (917539, (.int 917539 2572)), (917537, (.int 917537 2570)), (917540, (.int 917540 2573)), (917541, (.int 917541 2574))]⟩ 8 ⟨31, ⟨[0, 1, 2, 3, 4, 5, 6]⟩, ⟨[]⟩, 0, led, 1, true⟩), ⟨[]⟩⟩
noncomputable def o270 (P : Params) : Obj := ⟨(.type "list_iterator"), none, (.fields ⟨[(.ref 249), (.int 7 0)]⟩), ⟨[]⟩⟩
noncomputable def t1028 (P : Params) : BT := (.node (o7 P) (.node (o7 P) (.node (o150 P) .nil .nil) (.node (o229 P) .nil .nil)) (.node (o94 P) (.node (o198 P) .nil .nil) (.node (o270 P) .nil .nil)))
noncomputable def t1029 (P : Params) : BT := (.node (o26 P) (t887 P) (t1028 P))
noncomputable def t1030 (P : Params) : BT := (.node (o11 P) (t941 P) (t1029 P))
noncomputable def t1031 (P : Params) : BT := (.node (o247 P) (t994 P) (t1030 P))
noncomputable def t1032 (P : Params) : BT := (.node (o1 P) (t1031 P) (t1002 P))
noncomputable def t1033 (led : Bool) (P : Params) : BT := (.node (o50 P) (.node (o72 P) (.node (o148 P) .nil .nil) (.node (o228 P) .nil .nil)) (.node (o93 P) (.node (o197 P) .nil .nil) (.node (o269 led P) .nil .nil)))
noncomputable def t1034 (led : Bool) (P : Params) : BT := (.node (o25 P) (t900 P) (t1033 led P))
noncomputable def t1035 (led : Bool) (P : Params) : BT := (.node (o10 P) (t932 P) (t1034 led P))
noncomputable def t1036 (led : Bool) (P : Params) : BT := (.node (o6 P) (t1035 led P) (t1013 P))
noncomputable def t1037 (led : Bool) (P : Params) : BT := (.node (o2 P) (t1007 P) (t1036 led P))
noncomputable def t1038 (led : Bool) (P : Params) : BT := (.node (o0 P) (t1032 P) (t1037 led P))
noncomputable def S31c6 (led : Bool) (w : World) (os : OsState) : SharedT := let P := w.params; ⟨(t1038 led P), 252, life0, ⟨[]⟩, ⟨0, 0, 0, 0⟩, 2672, os⟩
noncomputable def th31c6 (led : Bool) (w : World) (os : OsState) : Thread := ⟨PySem.W.Fast.tw11892475500146522536 PySem.W.Fast.tw14364793385576792824 (.builtin "set.update.loop" ⟨[(.ref 250), (.ref 251)], []⟩), (.builtin "set.update.loop" ⟨[(.ref 250), (.ref 251)], []⟩), ⟨121, 9, 121, 52⟩, [.ret (kq (r31x5 led w os) 0) none false [] (.builtin "set.__init__" ⟨[(.ref 250), (.ref 249)], []⟩) ⟨121, 9, 121, 52⟩ [(.ref 250), (.ref 251)], .ret (kq (r31x5 led w os) 1) none false [(.ref 250), (.ref 250), (.ref 249)] (.builtin "type.__call__" ⟨[(.type "set"), (.ref 249)], []⟩) ⟨121, 9, 121, 52⟩ [(.builtin "set.__init__"), (.ref 250), (.ref 249), (.builtin "set.__init__"), (.ref 250), (.ref 249)], .ret (kq (r31x5 led w os) 2) none false [] cE ⟨121, 9, 121, 52⟩ [(.type "set"), (.ref 249)], topFrame qE]⟩
noncomputable def o271 (led : Bool) (P : Params) : Obj := ⟨(.type "set"), none, (.set ⟨[(917536, (.int 917536 2569)), (917505, (.int 917505 2563)), (917538, (.int 917538 2571)), (917539, (.int 917539 2572)), (917537, (.int 917537 2570)), (917540, (.int 917540 2573)), (917541, (.int 917541 2574)), (917542, (.int 917542 2575)), (917543, (.int 917543 2576)), (917544, (.int 917544 2577)), (917545, (.int 917545 2578))]⟩ 12 ⟨31, ⟨[0, 1, 2, 3, 4, 5, 6, 7, 8, 9, 10]⟩, ⟨[]⟩, 0, led, 1, true⟩), ⟨[]⟩⟩
noncomputable def o272 (P : Params) : Obj := ⟨(.type "list_iterator"), none, (.fields ⟨[(.ref 249), (.int 11 0)]⟩), ⟨[]⟩⟩
noncomputable def t1039 (P : Params) : BT := (.node (o7 P) (.node (o7 P) (.node (o150 P) .nil .nil) (.node (o229 P) .nil .nil)) (.node (o94 P) (.node (o198 P) .nil .nil) (.node (o272 P) .nil .nil)))
noncomputable def t1040 (P : Params) : BT := (.node (o26 P) (t887 P) (t1039 P))
noncomputable def t1041 (P : Params) : BT := (.node (o11 P) (t941 P) (t1040 P))
noncomputable def t1042 (P : Params) : BT := (.node (o247 P) (t994 P) (t1041 P))
noncomputable def t1043 (P : Params) : BT := (.node (o1 P) (t1042 P) (t1002 P))
noncomputable def t1044 (led : Bool) (P : Params) : BT := (.node (o50 P) (.node (o72 P) (.node (o148 P) .nil .nil) (.node (o228 P) .nil .nil)) (.node (o93 P) (.node (o197 P) .nil .nil) (.node (o271 led P) .nil .nil)))
noncomputable def t1045 (led : Bool) (P : Params) : BT := (.node (o25 P) (t900 P) (t1044 led P))
noncomputable def t1046 (led : Bool) (P : Params) : BT := (.node (o10 P) (t932 P) (t1045 led P))
noncomputable def t1047 (led : Bool) (P : Params) : BT := (.node (o6 P) (t1046 led P) (t1013 P))
noncomputable def t1048 (led : Bool) (P : Params) : BT := (.node (o2 P) (t1007 P) (t1047 led P))
noncomputable def t1049 (led : Bool) (P : Params) : BT := (.node (o0 P) (t1043 P) (t1048 led P))
noncomputable def S31c7 (led : Bool) (w : World) (os : OsState) : SharedT := let P := w.params; ⟨(t1049 led P), 252, life0, ⟨[]⟩, ⟨0, 0, 0, 0⟩, 2676, os⟩
noncomputable def th31c7 (led : Bool) (w : World) (os : OsState) : Thread := ⟨PySem.W.Fast.tw11892475500146522536 PySem.W.Fast.tw14364793385576792824 (.builtin "set.update.loop" ⟨[(.ref 250), (.ref 251)], []⟩), (.builtin "set.update.loop" ⟨[(.ref 250), (.ref 251)], []⟩), ⟨121, 9, 121, 52⟩, [.ret (kq (r31x5 led w os) 0) none false [] (.builtin "set.__init__" ⟨[(.ref 250), (.ref 249)], []⟩) ⟨121, 9, 121, 52⟩ [(.ref 250), (.ref 251)], .ret (kq (r31x5 led w os) 1) none false [(.ref 250), (.ref 250), (.ref 249)] (.builtin "type.__call__" ⟨[(.type "set"), (.ref 249)], []⟩) ⟨121, 9, 121, 52⟩ [(.builtin "set.__init__"), (.ref 250), (.ref 249), (.builtin "set.__init__"), (.ref 250), (.ref 249)], .ret (kq (r31x5 led w os) 2) none false [] cE ⟨121, 9, 121, 52⟩ [(.type "set"), (.ref 249)], topFrame qE]⟩
noncomputable def o273 (led : Bool) (P : Params) : Obj := ⟨(.type "set"), none, (.set ⟨[(917536, (.int 917536 2569)), (917505, (.int 917505 2563)), (917538, (.int 917538 2571)), (917539, (.int 917539 2572)), (917537, (.int 917537 2570)), (917540, (.int 917540 2573)), (917541, (.int 917541 2574)), (917542, (.int 917542 2575)), (917543, (.int 917543 2576)), (917544, (.int 917544 2577)), (917545, (.int 917545 2578)), (917546, (.int 917546 2579)), (917547, (.int 917547 2580)), (917548, (.int 917548 2581)), (917549, (.int 917549 2582))]⟩ 16 ⟨31, ⟨[0, 1, 2, 3, 4, 5, 6, 7, 8, 9, 10, 11, 12, 13, 14]⟩, ⟨[]⟩, 0, led, 1, true⟩), ⟨[]⟩⟩
noncomputable def o274 (P : Params) : Obj := ⟨(.type "list_iterator"), none, (.fields ⟨[(.ref 249), (.int 15 0)]⟩), ⟨[]⟩⟩
noncomputable def t1050 (P : Params) : BT := (.node (o7 P) (.node (o7 P) (.node (o150 P) .nil .nil) (.node (o229 P) .nil .nil)) (.node (o94 P) (.node (o198 P) .nil .nil) (.node (o274 P) .nil .nil)))
noncomputable def t1051 (P : Params) : BT := (.node (o26 P) (t887 P) (t1050 P))
noncomputable def t1052 (P : Params) : BT := (.node (o11 P) (t941 P) (t1051 P))
noncomputable def t1053 (P : Params) : BT := (.node (o247 P) (t994 P) (t1052 P))
noncomputable def t1054 (P : Params) : BT := (.node (o1 P) (t1053 P) (t1002 P))
noncomputable def t1055 (led : Bool) (P : Params) : BT := (.node (o50 P) (.node (o72 P) (.node (o148 P) .nil .nil) (.node (o228 P) .nil .nil)) (.node (o93 P) (.node (o197 P) .nil .nil) (.node (o273 led P) .nil .nil)))
noncomputable def t1056 (led : Bool) (P : Params) : BT := (.node (o25 P) (t900 P) (t1055 led P))
noncomputable def t1057 (led : Bool) (P : Params) : BT := (.node (o10 P) (t932 P) (t1056 led P))
noncomputable def t1058 (led : Bool) (P : Params) : BT := (.node (o6 P) (t1057 led P) (t1013 P))
noncomputable def t1059 (led : Bool) (P : Params) : BT := (.node (o2 P) (t1007 P) (t1058 led P))
noncomputable def t1060 (led : Bool) (P : Params) : BT := (.node (o0 P) (t1054 P) (t1059 led P))
noncomputable def S31c8 (led : Bool) (w : World) (os : OsState) : SharedT := let P := w.params; ⟨(t1060 led P), 252, life0, ⟨[]⟩, ⟨0, 0, 0, 0⟩, 2680, os⟩
noncomputable def th31c8 (led : Bool) (w : World) (os : OsState) : Thread := ⟨PySem.W.Fast.tw11892475500146522536 PySem.W.Fast.tw14364793385576792824 (.builtin "set.update.loop" ⟨[(.ref 250), (.ref 251)], []⟩), (.builtin "set.update.loop" ⟨[(.ref 250), (.ref 251)], []⟩), ⟨121, 9, 121, 52⟩, [.ret (kq (r31x5 led w os) 0) none false [] (.builtin "set.__init__" ⟨[(.ref 250), (.ref 249)], []⟩) ⟨121, 9, 121, 52⟩ [(.ref 250), (.ref 251)], .ret (kq (r31x5 led w os) 1) none false [(.ref 250), (.ref 250), (.ref 249)] (.builtin "type.__call__" ⟨[(.type "set"), (.ref 249)], []⟩) ⟨121, 9, 121, 52⟩ [(.builtin "set.__init__"), (.ref 250), (.ref 249), (.builtin "set.__init__"), (.ref 250), (.ref 249)], .ret (kq (r31x5 led w os) 2) none false [] cE ⟨121, 9, 121, 52⟩ [(.type "set"), (.ref 249)], topFrame qE]⟩
noncomputable def o275 (led : Bool) (P : Params) : Obj := ⟨(.type "set"), none, (.set ⟨[(917505, (.int 917505 2563)), (917536, (.int 917536 2569)), (917537, (.int 917537 2570)), (917538, (.int 917538 2571)), (917539, (.int 917539 2572)), (917540, (.int 917540 2573)), (917541, (.int 917541 2574)), (917542, (.int 917542 2575)), (917543, (.int 917543 2576)), (917544, (.int 917544 2577)), (917545, (.int 917545 2578)), (917546, (.int 917546 2579)), (917547, (.int 917547 2580)), (917548, (.int 917548 2581)), (917549, (.int 917549 2582)), (917550, (.int 917550 2583)), (917551, (.int 917551 2584)), (917552, (.int 917552 2585)), (917553, (.int 917553 2586))]⟩ 21 ⟨127, ⟨[1, 32, 33, 34, 35, 36, 37, 38, 39, 40, 41, 42, 43, 44, 45, 46, 47, 48, 49]⟩, ⟨[]⟩, 0, led, 2, true⟩), ⟨[]⟩⟩
noncomputable def o276 (P : Params) : Obj := ⟨(.type "list_iterator"), none, (.fields ⟨[(.ref 249), (.int 19 0)]⟩), ⟨[]⟩⟩
noncomputable def t1061 (P : Params) : BT := (.node (o7 P) (.node (o7 P) (.node (o150 P) .nil .nil) (.node (o229 P) .nil .nil)) (.node (o94 P) (.node (o198 P) .nil .nil) (.node (o276 P) .nil .nil)))
noncomputable def t1062 (P : Params) : BT := (.node (o26 P) (t887 P) (t1061 P))
noncomputable def t1063 (P : Params) : BT := (.node (o11 P) (t941 P) (t1062 P))
noncomputable def t1064 (P : Params) : BT := (.node (o247 P) (t994 P) (t1063 P))
noncomputable def t1065 (P : Params) : BT := (.node (o1 P) (t1064 P) (t1002 P))
noncomputable def t1066 (led : Bool) (P : Params) : BT := (.node (o50 P) (.node (o72 P) (.node (o148 P) .nil .nil) (.node (o228 P) .nil .nil)) (.node (o93 P) (.node (o197 P) .nil .nil) (.node (o275 led P) .nil .nil)))
noncomputable def t1067 (led : Bool) (P : Params) : BT := (.node (o25 P) (t900 P) (t1066 led P))
noncomputable def t1068 (led : Bool) (P : Params) : BT := (.node (o10 P) (t932 P) (t1067 led P))
noncomputable def t1069 (led : Bool) (P : Params) : BT := (.node (o6 P) (t1068 led P) (t1013 P))
noncomputable def t1070 (led : Bool) (P : Params) : BT := (.node (o2 P) (t1007 P) (t1069 led P))
noncomputable def t1071 (led : Bool) (P : Params) : BT := (.node (o0 P) (t1065 P) (t1070 led P))
noncomputable def S31c9 (led : Bool) (w : World) (os : OsState) : SharedT := let P := w.params; ⟨(t1071 led P), 252, life0, ⟨[]⟩, ⟨0, 0, 0, 0⟩, 2684, os⟩
noncomputable def th31c9 (led : Bool) (w : World) (os : OsState) : Thread := ⟨PySem.W.Fast.tw11892475500146522536 PySem.W.Fast.tw14364793385576792824 (.builtin "set.update.loop" ⟨[(.ref 250), (.ref 251)], []⟩), (.builtin "set.update.loop" ⟨[(.ref 250), (.ref 251)], []⟩), ⟨121, 9, 121, 52⟩, [.ret (kq (r31x5 led w os) 0) none false [] (.builtin "set.__init__" ⟨[(.ref 250), (.ref 249)], []⟩) ⟨121, 9, 121, 52⟩ [(.ref 250), (.ref 251)], .ret (kq (r31x5 led w os) 1) none false [(.ref 250), (.ref 250), (.ref 249)] (.builtin "type.__call__" ⟨[(.type "set"), (.ref 249)], []⟩) ⟨121, 9, 121, 52⟩ [(.builtin "set.__init__"), (.ref 250), (.ref 249), (.builtin "set.__init__"), (.ref 250), (.ref 249)], .ret (kq (r31x5 led w os) 2) none false [] cE ⟨121, 9, 121, 52⟩ [(.type "set"), (.ref 249)], topFrame qE]⟩
noncomputable def o277 (led : Bool) (P : Params) : Obj := ⟨(.type "set"), none, (.set ⟨[(917505, (.int 917505 2563)), (917536, (.int 917536 2569)), (917537, (.int 917537 2570)), (917538, (.int 917538 2571)), (917539, (.int 917539 2572)), (917540, (.int 917540 2573)), (917541, (.int 917541 2574)), (917542, (.int 917542 2575)), (917543, (.int 917543 2576)), (917544, (.int 917544 2577)), (917545, (.int 917545 2578)), (917546, (.int 917546 2579)), (917547, (.int 917547 2580)), (917548, (.int 917548 2581)), (917549, (.int 917549 2582)), (917550, (.int 917550 2583)), (917551, (.int 917551 2584)), (917552, (.int 917552 2585)), (917553, (.int 917553 2586)), (917554, (.int 917554 2587)), (917555, (.int 917555 2588)), (917556, (.int 917556 2589)), (917557, (.int 917557 2590))]⟩ 25 ⟨127, ⟨[1, 32, 33, 34, 35, 36, 37, 38, 39, 40, 41, 42, 43, 44, 45, 46, 47, 48, 49, 50, 51, 52, 53]⟩, ⟨[]⟩, 0, led, 2, true⟩), ⟨[]⟩⟩
noncomputable def o278 (P : Params) : Obj := ⟨(.type "list_iterator"), none, (.fields ⟨[(.ref 249), (.int 23 0)]⟩), ⟨[]⟩⟩
noncomputable def t1072 (P : Params) : BT := (.node (o7 P) (.node (o7 P) (.node (o150 P) .nil .nil) (.node (o229 P) .nil .nil)) (.node (o94 P) (.node (o198 P) .nil .nil) (.node (o278 P) .nil .nil)))
noncomputable def t1073 (P : Params) : BT := (.node (o26 P) (t887 P) (t1072 P))
noncomputable def t1074 (P : Params) : BT := (.node (o11 P) (t941 P) (t1073 P))
noncomputable def t1075 (P : Params) : BT := (.node (o247 P) (t994 P) (t1074 P))
noncomputable def t1076 (P : Params) : BT := (.node (o1 P) (t1075 P) (t1002 P))
noncomputable def t1077 (led : Bool) (P : Params) : BT := (.node (o50 P) (.node (o72 P) (.node (o148 P) .nil .nil) (.node (o228 P) .nil .nil)) (.node (o93 P) (.node (o197 P) .nil .nil) (.node (o277 led P) .nil .nil)))
noncomputable def t1078 (led : Bool) (P : Params) : BT := (.node (o25 P) (t900 P) (t1077 led P))
noncomputable def t1079 (led : Bool) (P : Params) : BT := (.node (o10 P) (t932 P) (t1078 led P))
noncomputable def t1080 (led : Bool) (P : Params) : BT := (.node (o6 P) (t1079 led P) (t1013 P))
noncomputable def t1081 (led : Bool) (P : Params) : BT := (.node (o2 P) (t1007 P) (t1080 led P))
noncomputable def t1082 (led : Bool) (P : Params) : BT := (.node (o0 P) (t1076 P) (t1081 led P))
noncomputable def S31c10 (led : Bool) (w : World) (os : OsState) : SharedT := let P := w.params; ⟨(t1082 led P), 252, life0, ⟨[]⟩, ⟨0, 0, 0, 0⟩, 2688, os⟩
noncomputable def th31c10 (led : Bool) (w : World) (os : OsState) : Thread := ⟨PySem.W.Fast.tw11892475500146522536 PySem.W.Fast.tw14364793385576792824 (.builtin "set.update.loop" ⟨[(.ref 250), (.ref 251)], []⟩), (.builtin "set.update.loop" ⟨[(.ref 250), (.ref 251)], []⟩), ⟨121, 9, 121, 52⟩, [.ret (kq (r31x5 led w os) 0) none false [] (.builtin "set.__init__" ⟨[(.ref 250), (.ref 249)], []⟩) ⟨121, 9, 121, 52⟩ [(.ref 250), (.ref 251)], .ret (kq (r31x5 led w os) 1) none false [(.ref 250), (.ref 250), (.ref 249)] (.builtin "type.__call__" ⟨[(.type "set"), (.ref 249)], []⟩) ⟨121, 9, 121, 52⟩ [(.builtin "set.__init__"), (.ref 250), (.ref 249), (.builtin "set.__init__"), (.ref 250), (.ref 249)], .ret (kq (r31x5 led w os) 2) none false [] cE ⟨121, 9, 121, 52⟩ [(.type "set"), (.ref 249)], topFrame qE]⟩
noncomputable def o279 (led : Bool) (P : Params) : Obj := ⟨(.type "set"), none, (.set ⟨[(917505, (.int 917505 2563)), (917536, (.int 917536 2569)), (917537, (.int 917537 2570)), (917538, (.int 917538 2571)), (917539, (.int 917539 2572)), (917540, (.int 917540 2573)), (917541, (.int 917541 2574)), (917542, (.int 917542 2575)), (917543, (.int 917543 2576)), (917544, (.int 917544 2577)), (917545, (.int 917545 2578)), (917546, (.int 917546 2579)), (917547, (.int 917547 2580)), (917548, (.int 917548 2581)), (917549, (.int 917549 2582)), (917550, (.int 917550 2583)), (917551, (.int 917551 2584)), (917552, (.int 917552 2585)), (917553, (.int 917553 2586)), (917554, (.int 917554 2587)), (917555, (.int 917555 2588)), (917556, (.int 917556 2589)), (917557, (.int 917557 2590)), (917558, (.int 917558 2591)), (917559, (.int 917559 2592)), (917560, (.int 917560 2593)), (917561, (.int 917561 2594))]⟩ 29 ⟨127, ⟨[1, 32, 33, 34, 35, 36, 37, 38, 39, 40, 41, 42, 43, 44, 45, 46, 47, 48, 49, 50, 51, 52, 53, 54, 55, 56, 57]⟩, ⟨[]⟩, 0, led, 2, true⟩), ⟨[]⟩⟩
noncomputable def o280 (P : Params) : Obj := ⟨(.type "list_iterator"), none, (.fields ⟨[(.ref 249), (.int 27 0)]⟩), ⟨[]⟩⟩
noncomputable def t1083 (P : Params) : BT := (.node (o7 P) (.node (o7 P) (.node (o150 P) .nil .nil) (.node (o229 P) .nil .nil)) (.node (o94 P) (.node (o198 P) .nil .nil) (.node (o280 P) .nil .nil)))
noncomputable def t1084 (P : Params) : BT := (.node (o26 P) (t887 P) (t1083 P))
noncomputable def t1085 (P : Params) : BT := (.node (o11 P) (t941 P) (t1084 P))
noncomputable def t1086 (P : Params) : BT := (.node (o247 P) (t994 P) (t1085 P))
noncomputable def t1087 (P : Params) : BT := (.node (o1 P) (t1086 P) (t1002 P))
noncomputable def t1088 (led : Bool) (P : Params) : BT := (.node (o50 P) (.node (o72 P) (.node (o148 P) .nil .nil) (.node (o228 P) .nil .nil)) (.node (o93 P) (.node (o197 P) .nil .nil) (.node (o279 led P) .nil .nil)))
noncomputable def t1089 (led : Bool) (P : Params) : BT := (.node (o25 P) (t900 P) (t1088 led P))
noncomputable def t1090 (led : Bool) (P : Params) : BT := (.node (o10 P) (t932 P) (t1089 led P))
noncomputable def t1091 (led : Bool) (P : Params) : BT := (.node (o6 P) (t1090 led P) (t1013 P))
noncomputable def t1092 (led : Bool) (P : Params) : BT := (.node (o2 P) (t1007 P) (t1091 led P))
noncomputable def t1093 (led : Bool) (P : Params) : BT := (.node (o0 P) (t1087 P) (t1092 led P))
noncomputable def S31c11 (led : Bool) (w : World) (os : OsState) : SharedT := let P := w.params; ⟨(t1093 led P), 252, life0, ⟨[]⟩, ⟨0, 0, 0, 0⟩, 2692, os⟩
noncomputable def th31c11 (led : Bool) (w : World) (os : OsState) : Thread := ⟨PySem.W.Fast.tw11892475500146522536 PySem.W.Fast.tw14364793385576792824 (.builtin "set.update.loop" ⟨[(.ref 250), (.ref 251)], []⟩), (.builtin "set.update.loop" ⟨[(.ref 250), (.ref 251)], []⟩), ⟨121, 9, 121, 52⟩, [.ret (kq (r31x5 led w os) 0) none false [] (.builtin "set.__init__" ⟨[(.ref 250), (.ref 249)], []⟩) ⟨121, 9, 121, 52⟩ [(.ref 250), (.ref 251)], .ret (kq (r31x5 led w os) 1) none false [(.ref 250), (.ref 250), (.ref 249)] (.builtin "type.__call__" ⟨[(.type "set"), (.ref 249)], []⟩) ⟨121, 9, 121, 52⟩ [(.builtin "set.__init__"), (.ref 250), (.ref 249), (.builtin "set.__init__"), (.ref 250), (.ref 249)], .ret (kq (r31x5 led w os) 2) none false [] cE ⟨121, 9, 121, 52⟩ [(.type "set"), (.ref 249)], topFrame qE]⟩
noncomputable def o281 (led : Bool) (P : Params) : Obj := ⟨(.type "set"), none, (.set ⟨[(917505, (.int 917505 2563)), (917536, (.int 917536 2569)), (917537, (.int 917537 2570)), (917538, (.int 917538 2571)), (917539, (.int 917539 2572)), (917540, (.int 917540 2573)), (917541, (.int 917541 2574)), (917542, (.int 917542 2575)), (917543, (.int 917543 2576)), (917544, (.int 917544 2577)), (917545, (.int 917545 2578)), (917546, (.int 917546 2579)), (917547, (.int 917547 2580)), (917548, (.int 917548 2581)), (917549, (.int 917549 2582)), (917550, (.int 917550 2583)), (917551, (.int 917551 2584)), (917552, (.int 917552 2585)), (917553, (.int 917553 2586)), (917554, (.int 917554 2587)), (917555, (.int 917555 2588)), (917556, (.int 917556 2589)), (917557, (.int 917557 2590)), (917558, (.int 917558 2591)), (917559, (.int 917559 2592)), (917560, (.int 917560 2593)), (917561, (.int 917561 2594)), (917562, (.int 917562 2595)), (917563, (.int 917563 2596)), (917564, (.int 917564 2597)), (917565, (.int 917565 2598))]⟩ 33 ⟨127, ⟨[1, 32, 33, 34, 35, 36, 37, 38, 39, 40, 41, 42, 43, 44, 45, 46, 47, 48, 49, 50, 51, 52, 53, 54, 55, 56, 57, 58, 59, 60, 61]⟩, ⟨[]⟩, 0, led, 2, true⟩), ⟨[]⟩⟩
noncomputable def o282 (P : Params) : Obj := ⟨(.type "list_iterator"), none, (.fields ⟨[(.ref 249), (.int 31 0)]⟩), ⟨[]⟩⟩
noncomputable def t1094 (P : Params) : BT := (.node (o7 P) (.node (o7 P) (.node (o150 P) .nil .nil) (.node (o229 P) .nil .nil)) (.node (o94 P) (.node (o198 P) .nil .nil) (.node (o282 P) .nil .nil)))
noncomputable def t1095 (P : Params) : BT := (.node (o26 P) (t887 P) (t1094 P))
noncomputable def t1096 (P : Params) : BT := (.node (o11 P) (t941 P) (t1095 P))
noncomputable def t1097 (P : Params) : BT := (.node (o247 P) (t994 P) (t1096 P))
noncomputable def t1098 (P : Params) : BT := (.node (o1 P) (t1097 P) (t1002 P))
noncomputable def t1099 (led : Bool) (P : Params) : BT := (.node (o50 P) (.node (o72 P) (.node (o148 P) .nil .nil) (.node (o228 P) .nil .nil)) (.node (o93 P) (.node (o197 P) .nil .nil) (.node (o281 led P) .nil .nil)))
noncomputable def t1100 (led : Bool) (P : Params) : BT := (.node (o25 P) (t900 P) (t1099 led P))
noncomputable def t1101 (led : Bool) (P : Params) : BT := (.node (o10 P) (t932 P) (t1100 led P))
noncomputable def t1102 (led : Bool) (P : Params) : BT := (.node (o6 P) (t1101 led P) (t1013 P))
noncomputable def t1103 (led : Bool) (P : Params) : BT := (.node (o2 P) (t1007 P) (t1102 led P))
noncomputable def t1104 (led : Bool) (P : Params) : BT := (.node (o0 P) (t1098 P) (t1103 led P))
noncomputable def S31c12 (led : Bool) (w : World) (os : OsState) : SharedT := let P := w.params; ⟨(t1104 led P), 252, life0, ⟨[]⟩, ⟨0, 0, 0, 0⟩, 2696, os⟩
noncomputable def th31c12 (led : Bool) (w : World) (os : OsState) : Thread := ⟨PySem.W.Fast.tw11892475500146522536 PySem.W.Fast.tw14364793385576792824 (.builtin "set.update.loop" ⟨[(.ref 250), (.ref 251)], []⟩), (.builtin "set.update.loop" ⟨[(.ref 250), (.ref 251)], []⟩), ⟨121, 9, 121, 52⟩, [.ret (kq (r31x5 led w os) 0) none false [] (.builtin "set.__init__" ⟨[(.ref 250), (.ref 249)], []⟩) ⟨121, 9, 121, 52⟩ [(.ref 250), (.ref 251)], .ret (kq (r31x5 led w os) 1) none false [(.ref 250), (.ref 250), (.ref 249)] (.builtin "type.__call__" ⟨[(.type "set"), (.ref 249)], []⟩) ⟨121, 9, 121, 52⟩ [(.builtin "set.__init__"), (.ref 250), (.ref 249), (.builtin "set.__init__"), (.ref 250), (.ref 249)], .ret (kq (r31x5 led w os) 2) none false [] cE ⟨121, 9, 121, 52⟩ [(.type "set"), (.ref 249)], topFrame qE]⟩
noncomputable def o283 (led : Bool) (P : Params) : Obj := ⟨(.type "set"), none, (.set ⟨[(917505, (.int 917505 2563)), (917536, (.int 917536 2569)), (917537, (.int 917537 2570)), (917538, (.int 917538 2571)), (917539, (.int 917539 2572)), (917540, (.int 917540 2573)), (917541, (.int 917541 2574)), (917542, (.int 917542 2575)), (917543, (.int 917543 2576)), (917544, (.int 917544 2577)), (917545, (.int 917545 2578)), (917546, (.int 917546 2579)), (917547, (.int 917547 2580)), (917548, (.int 917548 2581)), (917549, (.int 917549 2582)), (917550, (.int 917550 2583)), (917551, (.int 917551 2584)), (917552, (.int 917552 2585)), (917553, (.int 917553 2586)), (917554, (.int 917554 2587)), (917555, (.int 917555 2588)), (917556, (.int 917556 2589)), (917557, (.int 917557 2590)), (917558, (.int 917558 2591)), (917559, (.int 917559 2592)), (917560, (.int 917560 2593)), (917561, (.int 917561 2594)), (917562, (.int 917562 2595)), (917563, (.int 917563 2596)), (917564, (.int 917564 2597)), (917565, (.int 917565 2598)), (917566, (.int 917566 2599)), (917567, (.int 917567 2600)), (917568, (.int 917568 2601)), (917569, (.int 917569 2602))]⟩ 37 ⟨127, ⟨[1, 32, 33, 34, 35, 36, 37, 38, 39, 40, 41, 42, 43, 44, 45, 46, 47, 48, 49, 50, 51, 52, 53, 54, 55, 56, 57, 58, 59, 60, 61, 62, 63, 64, 65]⟩, ⟨[]⟩, 0, led, 2, true⟩), ⟨[]⟩⟩
noncomputable def o284 (P : Params) : Obj := ⟨(.type "list_iterator"), none, (.fields ⟨[(.ref 249), (.int 35 0)]⟩), ⟨[]⟩⟩
noncomputable def t1105 (P : Params) : BT := (.node (o7 P) (.node (o7 P) (.node (o150 P) .nil .nil) (.node (o229 P) .nil .nil)) (.node (o94 P) (.node (o198 P) .nil .nil) (.node (o284 P) .nil .nil)))
noncomputable def t1106 (P : Params) : BT := (.node (o26 P) (t887 P) (t1105 P))
noncomputable def t1107 (P : Params) : BT := (.node (o11 P) (t941 P) (t1106 P))
noncomputable def t1108 (P : Params) : BT := (.node (o247 P) (t994 P) (t1107 P))
noncomputable def t1109 (P : Params) : BT := (.node (o1 P) (t1108 P) (t1002 P))
noncomputable def t1110 (led : Bool) (P : Params) : BT := (.node (o50 P) (.node (o72 P) (.node (o148 P) .nil .nil) (.node (o228 P) .nil .nil)) (.node (o93 P) (.node (o197 P) .nil .nil) (.node (o283 led P) .nil .nil)))
noncomputable def t1111 (led : Bool) (P : Params) : BT := (.node (o25 P) (t900 P) (t1110 led P))
noncomputable def t1112 (led : Bool) (P : Params) : BT := (.node (o10 P) (t932 P) (t1111 led P))
noncomputable def t1113 (led : Bool) (P : Params) : BT := (.node (o6 P) (t1112 led P) (t1013 P))
noncomputable def t1114 (led : Bool) (P : Params) : BT := (.node (o2 P) (t1007 P) (t1113 led P))
noncomputable def t1115 (led : Bool) (P : Params) : BT := (.node (o0 P) (t1109 P) (t1114 led P))
noncomputable def S31c13 (led : Bool) (w : World) (os : OsState) : SharedT := let P := w.params; ⟨(t1115 led P), 252, life0, ⟨[]⟩, ⟨0, 0, 0, 0⟩, 2700, os⟩
noncomputable def th31c13 (led : Bool) (w : World) (os : OsState) : Thread := ⟨PySem.W.Fast.tw11892475500146522536 PySem.W.Fast.tw14364793385576792824 (.builtin "set.update.loop" ⟨[(.ref 250), (.ref 251)], []⟩), (.builtin "set.update.loop" ⟨[(.ref 250), (.ref 251)], []⟩), ⟨121, 9, 121, 52⟩, [.ret (kq (r31x5 led w os) 0) none false [] (.builtin "set.__init__" ⟨[(.ref 250), (.ref 249)], []⟩) ⟨121, 9, 121, 52⟩ [(.ref 250), (.ref 251)], .ret (kq (r31x5 led w os) 1) none false [(.ref 250), (.ref 250), (.ref 249)] (.builtin "type.__call__" ⟨[(.type "set"), (.ref 249)], []⟩) ⟨121, 9, 121, 52⟩ [(.builtin "set.__init__"), (.ref 250), (.ref 249), (.builtin "set.__init__"), (.ref 250), (.ref 249)], .ret (kq (r31x5 led w os) 2) none false [] cE ⟨121, 9, 121, 52⟩ [(.type "set"), (.ref 249)], topFrame qE]⟩
noncomputable def o285 (led : Bool) (P : Params) : Obj := ⟨(.type "set"), none, (.set ⟨[(917505, (.int 917505 2563)), (917536, (.int 917536 2569)), (917537, (.int 917537 2570)), (917538, (.int 917538 2571)), (917539, (.int 917539 2572)), (917540, (.int 917540 2573)), (917541, (.int 917541 2574)), (917542, (.int 917542 2575)), (917543, (.int 917543 2576)), (917544, (.int 917544 2577)), (917545, (.int 917545 2578)), (917546, (.int 917546 2579)), (917547, (.int 917547 2580)), (917548, (.int 917548 2581)), (917549, (.int 917549 2582)), (917550, (.int 917550 2583)), (917551, (.int 917551 2584)), (917552, (.int 917552 2585)), (917553, (.int 917553 2586)), (917554, (.int 917554 2587)), (917555, (.int 917555 2588)), (917556, (.int 917556 2589)), (917557, (.int 917557 2590)), (917558, (.int 917558 2591)), (917559, (.int 917559 2592)), (917560, (.int 917560 2593)), (917561, (.int 917561 2594)), (917562, (.int 917562 2595)), (917563, (.int 917563 2596)), (917564, (.int 917564 2597)), (917565, (.int 917565 2598)), (917566, (.int 917566 2599)), (917567, (.int 917567 2600)), (917568, (.int 917568 2601)), (917569, (.int 917569 2602)), (917570, (.int 917570 2603)), (917571, (.int 917571 2604)), (917572, (.int 917572 2605)), (917573, (.int 917573 2606))]⟩ 41 ⟨127, ⟨[1, 32, 33, 34, 35, 36, 37, 38, 39, 40, 41, 42, 43, 44, 45, 46, 47, 48, 49, 50, 51, 52, 53, 54, 55, 56, 57, 58, 59, 60, 61, 62, 63, 64, 65, 66, 67, 68, 69]⟩, ⟨[]⟩, 0, led, 2, true⟩), ⟨[]⟩⟩
noncomputable def o286 (P : Params) : Obj := ⟨(.type "list_iterator"), none, (.fields ⟨[(.ref 249), (.int 39 0)]⟩), ⟨[]⟩⟩
noncomputable def t1116 (P : Params) : BT := (.node (o7 P) (.node (o7 P) (.node (o150 P) .nil .nil) (.node (o229 P) .nil .nil)) (.node (o94 P) (.node (o198 P) .nil .nil) (.node (o286 P) .nil .nil)))
noncomputable def t1117 (P : Params) : BT := (.node (o26 P) (t887 P) (t1116 P))
noncomputable def t1118 (P : Params) : BT := (.node (o11 P) (t941 P) (t1117 P))
noncomputable def t1119 (P : Params) : BT := (.node (o247 P) (t994 P) (t1118 P))
noncomputable def t1120 (P : Params) : BT := (.node (o1 P) (t1119 P) (t1002 P))
noncomputable def t1121 (led : Bool) (P : Params) : BT := (.node (o50 P) (.node (o72 P) (.node (o148 P) .nil .nil) (.node (o228 P) .nil .nil)) (.node (o93 P) (.node (o197 P) .nil .nil) (.node (o285 led P) .nil .nil)))
noncomputable def t1122 (led : Bool) (P : Params) : BT := (.node (o25 P) (t900 P) (t1121 led P))
noncomputable def t1123 (led : Bool) (P : Params) : BT := (.node (o10 P) (t932 P) (t1122 led P))
noncomputable def t1124 (led : Bool) (P : Params) : BT := (.node (o6 P) (t1123 led P) (t1013 P))
noncomputable def t1125 (led : Bool) (P : Params) : BT := (.node (o2 P) (t1007 P) (t1124 led P))
noncomputable def t1126 (led : Bool) (P : Params) : BT := (.node (o0 P) (t1120 P) (t1125 led P))
noncomputable def S31c14 (led : Bool) (w : World) (os : OsState) : SharedT := let P := w.params; ⟨(t1126 led P), 252, life0, ⟨[]⟩, ⟨0, 0, 0, 0⟩, 2704, os⟩
noncomputable def th31c14 (led : Bool) (w : World) (os : OsState) : Thread := ⟨PySem.W.Fast.tw11892475500146522536 PySem.W.Fast.tw14364793385576792824 (.builtin "set.update.loop" ⟨[(.ref 250), (.ref 251)], []⟩), (.builtin "set.update.loop" ⟨[(.ref 250), (.ref 251)], []⟩), ⟨121, 9, 121, 52⟩, [.ret (kq (r31x5 led w os) 0) none false [] (.builtin "set.__init__" ⟨[(.ref 250), (.ref 249)], []⟩) ⟨121, 9, 121, 52⟩ [(.ref 250), (.ref 251)], .ret (kq (r31x5 led w os) 1) none false [(.ref 250), (.ref 250), (.ref 249)] (.builtin "type.__call__" ⟨[(.type "set"), (.ref 249)], []⟩) ⟨121, 9, 121, 52⟩ [(.builtin "set.__init__"), (.ref 250), (.ref 249), (.builtin "set.__init__"), (.ref 250), (.ref 249)], .ret (kq (r31x5 led w os) 2) none false [] cE ⟨121, 9, 121, 52⟩ [(.type "set"), (.ref 249)], topFrame qE]⟩
noncomputable def o287 (led : Bool) (P : Params) : Obj := ⟨(.type "set"), none, (.set ⟨[(917505, (.int 917505 2563)), (917536, (.int 917536 2569)), (917537, (.int 917537 2570)), (917538, (.int 917538 2571)), (917539, (.int 917539 2572)), (917540, (.int 917540 2573)), (917541, (.int 917541 2574)), (917542, (.int 917542 2575)), (917543, (.int 917543 2576)), (917544, (.int 917544 2577)), (917545, (.int 917545 2578)), (917546, (.int 917546 2579)), (917547, (.int 917547 2580)), (917548, (.int 917548 2581)), (917549, (.int 917549 2582)), (917550, (.int 917550 2583)), (917551, (.int 917551 2584)), (917552, (.int 917552 2585)), (917553, (.int 917553 2586)), (917554, (.int 917554 2587)), (917555, (.int 917555 2588)), (917556, (.int 917556 2589)), (917557, (.int 917557 2590)), (917558, (.int 917558 2591)), (917559, (.int 917559 2592)), (917560, (.int 917560 2593)), (917561, (.int 917561 2594)), (917562, (.int 917562 2595)), (917563, (.int 917563 2596)), (917564, (.int 917564 2597)), (917565, (.int 917565 2598)), (917566, (.int 917566 2599)), (917567, (.int 917567 2600)), (917568, (.int 917568 2601)), (917569, (.int 917569 2602)), (917570, (.int 917570 2603)), (917571, (.int 917571 2604)), (917572, (.int 917572 2605)), (917573, (.int 917573 2606)), (917574, (.int 917574 2607)), (917575, (.int 917575 2608)), (917576, (.int 917576 2609)), (917577, (.int 917577 2610))]⟩ 45 ⟨127, ⟨[1, 32, 33, 34, 35, 36, 37, 38, 39, 40, 41, 42, 43, 44, 45, 46, 47, 48, 49, 50, 51, 52, 53, 54, 55, 56, 57, 58, 59, 60, 61, 62, 63, 64, 65, 66, 67, 68, 69, 70, 71, 72, 73]⟩, ⟨[]⟩, 0, led, 2, true⟩), ⟨[]⟩⟩
noncomputable def o288 (P : Params) : Obj := ⟨(.type "list_iterator"), none, (.fields ⟨[(.ref 249), (.int 43 0)]⟩), ⟨[]⟩⟩
noncomputable def t1127 (P : Params) : BT := (.node (o7 P) (.node (o7 P) (.node (o150 P) .nil .nil) (.node (o229 P) .nil .nil)) (.node (o94 P) (.node (o198 P) .nil .nil) (.node (o288 P) .nil .nil)))
noncomputable def t1128 (P : Params) : BT := (.node (o26 P) (t887 P) (t1127 P))
noncomputable def t1129 (P : Params) : BT := (.node (o11 P) (t941 P) (t1128 P))
noncomputable def t1130 (P : Params) : BT := (.node (o247 P) (t994 P) (t1129 P))
noncomputable def t1131 (P : Params) : BT := (.node (o1 P) (t1130 P) (t1002 P))
noncomputable def t1132 (led : Bool) (P : Params) : BT := (.node (o50 P) (.node (o72 P) (.node (o148 P) .nil .nil) (.node (o228 P) .nil .nil)) (.node (o93 P) (.node (o197 P) .nil .nil) (.node (o287 led P) .nil .nil)))
noncomputable def t1133 (led : Bool) (P : Params) : BT := (.node (o25 P) (t900 P) (t1132 led P))
noncomputable def t1134 (led : Bool) (P : Params) : BT := (.node (o10 P) (t932 P) (t1133 led P))
noncomputable def t1135 (led : Bool) (P : Params) : BT := (.node (o6 P) (t1134 led P) (t1013 P))
noncomputable def t1136 (led : Bool) (P : Params) : BT := (.node (o2 P) (t1007 P) (t1135 led P))
noncomputable def t1137 (led : Bool) (P : Params) : BT := (.node (o0 P) (t1131 P) (t1136 led P))
noncomputable def S31c15 (led : Bool) (w : World) (os : OsState) : SharedT := let P := w.params; ⟨(t1137 led P), 252, life0, ⟨[]⟩, ⟨0, 0, 0, 0⟩, 2708, os⟩
noncomputable def th31c15 (led : Bool) (w : World) (os : OsState) : Thread := ⟨PySem.W.Fast.tw11892475500146522536 PySem.W.Fast.tw14364793385576792824 (.builtin "set.update.loop" ⟨[(.ref 250), (.ref 251)], []⟩), (.builtin "set.update.loop" ⟨[(.ref 250), (.ref 251)], []⟩), ⟨121, 9, 121, 52⟩, [.ret (kq (r31x5 led w os) 0) none false [] (.builtin "set.__init__" ⟨[(.ref 250), (.ref 249)], []⟩) ⟨121, 9, 121, 52⟩ [(.ref 250), (.ref 251)], .ret (kq (r31x5 led w os) 1) none false [(.ref 250), (.ref 250), (.ref 249)] (.builtin "type.__call__" ⟨[(.type "set"), (.ref 249)], []⟩) ⟨121, 9, 121, 52⟩ [(.builtin "set.__init__"), (.ref 250), (.ref 249), (.builtin "set.__init__"), (.ref 250), (.ref 249)], .ret (kq (r31x5 led w os) 2) none false [] cE ⟨121, 9, 121, 52⟩ [(.type "set"), (.ref 249)], topFrame qE]⟩
noncomputable def o289 (led : Bool) (P : Params) : Obj := ⟨(.type "set"), none, (.set ⟨[(917505, (.int 917505 2563)), (917536, (.int 917536 2569)), (917537, (.int 917537 2570)), (917538, (.int 917538 2571)), (917539, (.int 917539 2572)), (917540, (.int 917540 2573)), (917541, (.int 917541 2574)), (917542, (.int 917542 2575)), (917543, (.int 917543 2576)), (917544, (.int 917544 2577)), (917545, (.int 917545 2578)), (917546, (.int 917546 2579)), (917547, (.int 917547 2580)), (917548, (.int 917548 2581)), (917549, (.int 917549 2582)), (917550, (.int 917550 2583)), (917551, (.int 917551 2584)), (917552, (.int 917552 2585)), (917553, (.int 917553 2586)), (917554, (.int 917554 2587)), (917555, (.int 917555 2588)), (917556, (.int 917556 2589)), (917557, (.int 917557 2590)), (917558, (.int 917558 2591)), (917559, (.int 917559 2592)), (917560, (.int 917560 2593)), (917561, (.int 917561 2594)), (917562, (.int 917562 2595)), (917563, (.int 917563 2596)), (917564, (.int 917564 2597)), (917565, (.int 917565 2598)), (917566, (.int 917566 2599)), (917567, (.int 917567 2600)), (917568, (.int 917568 2601)), (917569, (.int 917569 2602)), (917570, (.int 917570 2603)), (917571, (.int 917571 2604)), (917572, (.int 917572 2605)), (917573, (.int 917573 2606)), (917574, (.int 917574 2607)), (917575, (.int 917575 2608)), (917576, (.int 917576 2609)), (917577, (.int 917577 2610)), (917578, (.int 917578 2611)), (917579, (.int 917579 2612)), (917580, (.int 917580 2613)), (917581, (.int 917581 2614))]⟩ 49 ⟨127, ⟨[1, 32, 33, 34, 35, 36, 37, 38, 39, 40, 41, 42, 43, 44, 45, 46, 47, 48, 49, 50, 51, 52, 53, 54, 55, 56, 57, 58, 59, 60, 61, 62, 63, 64, 65, 66, 67, 68, 69, 70, 71, 72, 73, 74, 75, 76, 77]⟩, ⟨[]⟩, 0, led, 2, true⟩), ⟨[]⟩⟩
noncomputable def o290 (P : Params) : Obj := ⟨(.type "list_iterator"), none, (.fields ⟨[(.ref 249), (.int 47 0)]⟩), ⟨[]⟩⟩
noncomputable def t1138 (P : Params) : BT := (.node (o7 P) (.node (o7 P) (.node (o150 P) .nil .nil) (.node (o229 P) .nil .nil)) (.node (o94 P) (.node (o198 P) .nil .nil) (.node (o290 P) .nil .nil)))
noncomputable def t1139 (P : Params) : BT := (.node (o26 P) (t887 P) (t1138 P))
noncomputable def t1140 (P : Params) : BT := (.node (o11 P) (t941 P) (t1139 P))
noncomputable def t1141 (P : Params) : BT := (.node (o247 P) (t994 P) (t1140 P))
noncomputable def t1142 (P : Params) : BT := (.node (o1 P) (t1141 P) (t1002 P))
noncomputable def t1143 (led : Bool) (P : Params) : BT := (.node (o50 P) (.node (o72 P) (.node (o148 P) .nil .nil) (.node (o228 P) .nil .nil)) (.node (o93 P) (.node (o197 P) .nil .nil) (.node (o289 led P) .nil .nil)))
noncomputable def t1144 (led : Bool) (P : Params) : BT := (.node (o25 P) (t900 P) (t1143 led P))
noncomputable def t1145 (led : Bool) (P : Params) : BT := (.node (o10 P) (t932 P) (t1144 led P))
noncomputable def t1146 (led : Bool) (P : Params) : BT := (.node (o6 P) (t1145 led P) (t1013 P))
noncomputable def t1147 (led : Bool) (P : Params) : BT := (.node (o2 P) (t1007 P) (t1146 led P))
noncomputable def t1148 (led : Bool) (P : Params) : BT := (.node (o0 P) (t1142 P) (t1147 led P))
noncomputable def S31c16 (led : Bool) (w : World) (os : OsState) : SharedT := let P := w.params; ⟨(t1148 led P), 252, life0, ⟨[]⟩, ⟨0, 0, 0, 0⟩, 2712, os⟩
noncomputable def th31c16 (led : Bool) (w : World) (os : OsState) : Thread := ⟨PySem.W.Fast.tw11892475500146522536 PySem.W.Fast.tw14364793385576792824 (.builtin "set.update.loop" ⟨[(.ref 250), (.ref 251)], []⟩), (.builtin "set.update.loop" ⟨[(.ref 250), (.ref 251)], []⟩), ⟨121, 9, 121, 52⟩, [.ret (kq (r31x5 led w os) 0) none false [] (.builtin "set.__init__" ⟨[(.ref 250), (.ref 249)], []⟩) ⟨121, 9, 121, 52⟩ [(.ref 250), (.ref 251)], .ret (kq (r31x5 led w os) 1) none false [(.ref 250), (.ref 250), (.ref 249)] (.builtin "type.__call__" ⟨[(.type "set"), (.ref 249)], []⟩) ⟨121, 9, 121, 52⟩ [(.builtin "set.__init__"), (.ref 250), (.ref 249), (.builtin "set.__init__"), (.ref 250), (.ref 249)], .ret (kq (r31x5 led w os) 2) none false [] cE ⟨121, 9, 121, 52⟩ [(.type "set"), (.ref 249)], topFrame qE]⟩
noncomputable def o291 (led : Bool) (P : Params) : Obj := ⟨(.type "set"), none, (.set ⟨[(917505, (.int 917505 2563)), (917536, (.int 917536 2569)), (917537, (.int 917537 2570)), (917538, (.int 917538 2571)), (917539, (.int 917539 2572)), (917540, (.int 917540 2573)), (917541, (.int 917541 2574)), (917542, (.int 917542 2575)), (917543, (.int 917543 2576)), (917544, (.int 917544 2577)), (917545, (.int 917545 2578)), (917546, (.int 917546 2579)), (917547, (.int 917547 2580)), (917548, (.int 917548 2581)), (917549, (.int 917549 2582)), (917550, (.int 917550 2583)), (917551, (.int 917551 2584)), (917552, (.int 917552 2585)), (917553, (.int 917553 2586)), (917554, (.int 917554 2587)), (917555, (.int 917555 2588)), (917556, (.int 917556 2589)), (917557, (.int 917557 2590)), (917558, (.int 917558 2591)), (917559, (.int 917559 2592)), (917560, (.int 917560 2593)), (917561, (.int 917561 2594)), (917562, (.int 917562 2595)), (917563, (.int 917563 2596)), (917564, (.int 917564 2597)), (917565, (.int 917565 2598)), (917566, (.int 917566 2599)), (917567, (.int 917567 2600)), (917568, (.int 917568 2601)), (917569, (.int 917569 2602)), (917570, (.int 917570 2603)), (917571, (.int 917571 2604)), (917572, (.int 917572 2605)), (917573, (.int 917573 2606)), (917574, (.int 917574 2607)), (917575, (.int 917575 2608)), (917576, (.int 917576 2609)), (917577, (.int 917577 2610)), (917578, (.int 917578 2611)), (917579, (.int 917579 2612)), (917580, (.int 917580 2613)), (917581, (.int 917581 2614)), (917582, (.int 917582 2615)), (917583, (.int 917583 2616)), (917584, (.int 917584 2617)), (917585, (.int 917585 2618))]⟩ 53 ⟨127, ⟨[1, 32, 33, 34, 35, 36, 37, 38, 39, 40, 41, 42, 43, 44, 45, 46, 47, 48, 49, 50, 51, 52, 53, 54, 55, 56, 57, 58, 59, 60, 61, 62, 63, 64, 65, 66, 67, 68, 69, 70, 71, 72, 73, 74, 75, 76, 77, 78, 79, 80, 81]⟩, ⟨[]⟩, 0, led, 2, true⟩), ⟨[]⟩⟩
noncomputable def o292 (P : Params) : Obj := ⟨(.type "list_iterator"), none, (.fields ⟨[(.ref 249), (.int 51 0)]⟩), ⟨[]⟩⟩
noncomputable def t1149 (P : Params) : BT := (.node (o7 P) (.node (o7 P) (.node (o150 P) .nil .nil) (.node (o229 P) .nil .nil)) (.node (o94 P) (.node (o198 P) .nil .nil) (.node (o292 P) .nil .nil)))
noncomputable def t1150 (P : Params) : BT := (.node (o26 P) (t887 P) (t1149 P))
noncomputable def t1151 (P : Params) : BT := (.node (o11 P) (t941 P) (t1150 P))
noncomputable def t1152 (P : Params) : BT := (.node (o247 P) (t994 P) (t1151 P))
noncomputable def t1153 (P : Params) : BT := (.node (o1 P) (t1152 P) (t1002 P))
noncomputable def t1154 (led : Bool) (P : Params) : BT := (.node (o50 P) (.node (o72 P) (.node (o148 P) .nil .nil) (.node (o228 P) .nil .nil)) (.node (o93 P) (.node (o197 P) .nil .nil) (.node (o291 led P) .nil .nil)))
noncomputable def t1155 (led : Bool) (P : Params) : BT := (.node (o25 P) (t900 P) (t1154 led P))
noncomputable def t1156 (led : Bool) (P : Params) : BT := (.node (o10 P) (t932 P) (t1155 led P))
noncomputable def t1157 (led : Bool) (P : Params) : BT := (.node (o6 P) (t1156 led P) (t1013 P))
noncomputable def t1158 (led : Bool) (P : Params) : BT := (.node (o2 P) (t1007 P) (t1157 led P))
noncomputable def t1159 (led : Bool) (P : Params) : BT := (.node (o0 P) (t1153 P) (t1158 led P))
noncomputable def S31c17 (led : Bool) (w : World) (os : OsState) : SharedT := let P := w.params; ⟨(t1159 led P), 252, life0, ⟨[]⟩, ⟨0, 0, 0, 0⟩, 2716, os⟩
noncomputable def th31c17 (led : Bool) (w : World) (os : OsState) : Thread := ⟨PySem.W.Fast.tw11892475500146522536 PySem.W.Fast.tw14364793385576792824 (.builtin "set.update.loop" ⟨[(.ref 250), (.ref 251)], []⟩), (.builtin "set.update.loop" ⟨[(.ref 250), (.ref 251)], []⟩), ⟨121, 9, 121, 52⟩, [.ret (kq (r31x5 led w os) 0) none false [] (.builtin "set.__init__" ⟨[(.ref 250), (.ref 249)], []⟩) ⟨121, 9, 121, 52⟩ [(.ref 250), (.ref 251)], .ret (kq (r31x5 led w os) 1) none false [(.ref 250), (.ref 250), (.ref 249)] (.builtin "type.__call__" ⟨[(.type "set"), (.ref 249)], []⟩) ⟨121, 9, 121, 52⟩ [(.builtin "set.__init__"), (.ref 250), (.ref 249), (.builtin "set.__init__"), (.ref 250), (.ref 249)], .ret (kq (r31x5 led w os) 2) none false [] cE ⟨121, 9, 121, 52⟩ [(.type "set"), (.ref 249)], topFrame qE]⟩
noncomputable def o293 (led : Bool) (P : Params) : Obj := ⟨(.type "set"), none, (.set ⟨[(917505, (.int 917505 2563)), (917536, (.int 917536 2569)), (917537, (.int 917537 2570)), (917538, (.int 917538 2571)), (917539, (.int 917539 2572)), (917540, (.int 917540 2573)), (917541, (.int 917541 2574)), (917542, (.int 917542 2575)), (917543, (.int 917543 2576)), (917544, (.int 917544 2577)), (917545, (.int 917545 2578)), (917546, (.int 917546 2579)), (917547, (.int 917547 2580)), (917548, (.int 917548 2581)), (917549, (.int 917549 2582)), (917550, (.int 917550 2583)), (917551, (.int 917551 2584)), (917552, (.int 917552 2585)), (917553, (.int 917553 2586)), (917554, (.int 917554 2587)), (917555, (.int 917555 2588)), (917556, (.int 917556 2589)), (917557, (.int 917557 2590)), (917558, (.int 917558 2591)), (917559, (.int 917559 2592)), (917560, (.int 917560 2593)), (917561, (.int 917561 2594)), (917562, (.int 917562 2595)), (917563, (.int 917563 2596)), (917564, (.int 917564 2597)), (917565, (.int 917565 2598)), (917566, (.int 917566 2599)), (917567, (.int 917567 2600)), (917568, (.int 917568 2601)), (917569, (.int 917569 2602)), (917570, (.int 917570 2603)), (917571, (.int 917571 2604)), (917572, (.int 917572 2605)), (917573, (.int 917573 2606)), (917574, (.int 917574 2607)), (917575, (.int 917575 2608)), (917576, (.int 917576 2609)), (917577, (.int 917577 2610)), (917578, (.int 917578 2611)), (917579, (.int 917579 2612)), (917580, (.int 917580 2613)), (917581, (.int 917581 2614)), (917582, (.int 917582 2615)), (917583, (.int 917583 2616)), (917584, (.int 917584 2617)), (917585, (.int 917585 2618)), (917586, (.int 917586 2619)), (917587, (.int 917587 2620)), (917588, (.int 917588 2621)), (917589, (.int 917589 2622))]⟩ 57 ⟨127, ⟨[1, 32, 33, 34, 35, 36, 37, 38, 39, 40, 41, 42, 43, 44, 45, 46, 47, 48, 49, 50, 51, 52, 53, 54, 55, 56, 57, 58, 59, 60, 61, 62, 63, 64, 65, 66, 67, 68, 69, 70, 71, 72, 73, 74, 75, 76, 77, 78, 79, 80, 81, 82, 83, 84, 85]⟩, ⟨[]⟩, 0, led, 2, true⟩), ⟨[]⟩⟩
noncomputable def o294 (P : Params) : Obj := ⟨(.type "list_iterator"), none, (.fields ⟨[(.ref 249), (.int 55 0)]⟩), ⟨[]⟩⟩
noncomputable def t1160 (P : Params) : BT := (.node (o7 P) (.node (o7 P) (.node (o150 P) .nil .nil) (.node (o229 P) .nil .nil)) (.node (o94 P) (.node (o198 P) .nil .nil) (.node (o294 P) .nil .nil)))
noncomputable def t1161 (P : Params) : BT := (.node (o26 P) (t887 P) (t1160 P))
noncomputable def t1162 (P : Params) : BT := (.node (o11 P) (t941 P) (t1161 P))
noncomputable def t1163 (P : Params) : BT := (.node (o247 P) (t994 P) (t1162 P))
noncomputable def t1164 (P : Params) : BT := (.node (o1 P) (t1163 P) (t1002 P))
noncomputable def t1165 (led : Bool) (P : Params) : BT := (.node (o50 P) (.node (o72 P) (.node (o148 P) .nil .nil) (.node (o228 P) .nil .nil)) (.node (o93 P) (.node (o197 P) .nil .nil) (.node (o293 led P) .nil .nil)))
noncomputable def t1166 (led : Bool) (P : Params) : BT := (.node (o25 P) (t900 P) (t1165 led P))
noncomputable def t1167 (led : Bool) (P : Params) : BT := (.node (o10 P) (t932 P) (t1166 led P))
noncomputable def t1168 (led : Bool) (P : Params) : BT := (.node (o6 P) (t1167 led P) (t1013 P))
noncomputable def t1169 (led : Bool) (P : Params) : BT := (.node (o2 P) (t1007 P) (t1168 led P))
noncomputable def t1170 (led : Bool) (P : Params) : BT := (.node (o0 P) (t1164 P) (t1169 led P))
noncomputable def S31c18 (led : Bool) (w : World) (os : OsState) : SharedT := let P := w.params; ⟨(t1170 led P), 252, life0, ⟨[]⟩, ⟨0, 0, 0, 0⟩, 2720, os⟩
noncomputable def th31c18 (led : Bool) (w : World) (os : OsState) : Thread := ⟨PySem.W.Fast.tw11892475500146522536 PySem.W.Fast.tw14364793385576792824 (.builtin "set.update.loop" ⟨[(.ref 250), (.ref 251)], []⟩), (.builtin "set.update.loop" ⟨[(.ref 250), (.ref 251)], []⟩), ⟨121, 9, 121, 52⟩, [.ret (kq (r31x5 led w os) 0) none false [] (.builtin "set.__init__" ⟨[(.ref 250), (.ref 249)], []⟩) ⟨121, 9, 121, 52⟩ [(.ref 250), (.ref 251)], .ret (kq (r31x5 led w os) 1) none false [(.ref 250), (.ref 250), (.ref 249)] (.builtin "type.__call__" ⟨[(.type "set"), (.ref 249)], []⟩) ⟨121, 9, 121, 52⟩ [(.builtin "set.__init__"), (.ref 250), (.ref 249), (.builtin "set.__init__"), (.ref 250), (.ref 249)], .ret (kq (r31x5 led w os) 2) none false [] cE ⟨121, 9, 121, 52⟩ [(.type "set"), (.ref 249)], topFrame qE]⟩
noncomputable def o295 (led : Bool) (P : Params) : Obj := ⟨(.type "set"), none, (.set ⟨[(917505, (.int 917505 2563)), (917536, (.int 917536 2569)), (917537, (.int 917537 2570)), (917538, (.int 917538 2571)), (917539, (.int 917539 2572)), (917540, (.int 917540 2573)), (917541, (.int 917541 2574)), (917542, (.int 917542 2575)), (917543, (.int 917543 2576)), (917544, (.int 917544 2577)), (917545, (.int 917545 2578)), (917546, (.int 917546 2579)), (917547, (.int 917547 2580)), (917548, (.int 917548 2581)), (917549, (.int 917549 2582)), (917550, (.int 917550 2583)), (917551, (.int 917551 2584)), (917552, (.int 917552 2585)), (917553, (.int 917553 2586)), (917554, (.int 917554 2587)), (917555, (.int 917555 2588)), (917556, (.int 917556 2589)), (917557, (.int 917557 2590)), (917558, (.int 917558 2591)), (917559, (.int 917559 2592)), (917560, (.int 917560 2593)), (917561, (.int 917561 2594)), (917562, (.int 917562 2595)), (917563, (.int 917563 2596)), (917564, (.int 917564 2597)), (917565, (.int 917565 2598)), (917566, (.int 917566 2599)), (917567, (.int 917567 2600)), (917568, (.int 917568 2601)), (917569, (.int 917569 2602)), (917570, (.int 917570 2603)), (917571, (.int 917571 2604)), (917572, (.int 917572 2605)), (917573, (.int 917573 2606)), (917574, (.int 917574 2607)), (917575, (.int 917575 2608)), (917576, (.int 917576 2609)), (917577, (.int 917577 2610)), (917578, (.int 917578 2611)), (917579, (.int 917579 2612)), (917580, (.int 917580 2613)), (917581, (.int 917581 2614)), (917582, (.int 917582 2615)), (917583, (.int 917583 2616)), (917584, (.int 917584 2617)), (917585, (.int 917585 2618)), (917586, (.int 917586 2619)), (917587, (.int 917587 2620)), (917588, (.int 917588 2621)), (917589, (.int 917589 2622)), (917590, (.int 917590 2623)), (917591, (.int 917591 2624)), (917592, (.int 917592 2625)), (917593, (.int 917593 2626))]⟩ 61 ⟨127, ⟨[1, 32, 33, 34, 35, 36, 37, 38, 39, 40, 41, 42, 43, 44, 45, 46, 47, 48, 49, 50, 51, 52, 53, 54, 55, 56, 57, 58, 59, 60, 61, 62, 63, 64, 65, 66, 67, 68, 69, 70, 71, 72, 73, 74, 75, 76, 77, 78, 79, 80, 81, 82, 83, 84, 85, 86, 87, 88, 89]⟩, ⟨[]⟩, 0, led, 2, true⟩), ⟨[]⟩⟩
noncomputable def o296 (P : Params) : Obj := ⟨(.type "list_iterator"), none, (.fields ⟨[(.ref 249), (.int 59 0)]⟩), ⟨[]⟩⟩
noncomputable def t1171 (P : Params) : BT := (.node (o7 P) (.node (o7 P) (.node (o150 P) .nil .nil) (.node (o229 P) .nil .nil)) (.node (o94 P) (.node (o198 P) .nil .nil) (.node (o296 P) .nil .nil)))
noncomputable def t1172 (P : Params) : BT := (.node (o26 P) (t887 P) (t1171 P))
noncomputable def t1173 (P : Params) : BT := (.node (o11 P) (t941 P) (t1172 P))
noncomputable def t1174 (P : Params) : BT := (.node (o247 P) (t994 P) (t1173 P))
noncomputable def t1175 (P : Params) : BT := (.node (o1 P) (t1174 P) (t1002 P))
noncomputable def t1176 (led : Bool) (P : Params) : BT := (.node (o50 P) (.node (o72 P) (.node (o148 P) .nil .nil) (.node (o228 P) .nil .nil)) (.node (o93 P) (.node (o197 P) .nil .nil) (.node (o295 led P) .nil .nil)))
noncomputable def t1177 (led : Bool) (P : Params) : BT := (.node (o25 P) (t900 P) (t1176 led P))
noncomputable def t1178 (led : Bool) (P : Params) : BT := (.node (o10 P) (t932 P) (t1177 led P))
noncomputable def t1179 (led : Bool) (P : Params) : BT := (.node (o6 P) (t1178 led P) (t1013 P))
noncomputable def t1180 (led : Bool) (P : Params) : BT := (.node (o2 P) (t1007 P) (t1179 led P))
noncomputable def t1181 (led : Bool) (P : Params) : BT := (.node (o0 P) (t1175 P) (t1180 led P))
noncomputable def S31c19 (led : Bool) (w : World) (os : OsState) : SharedT := let P := w.params; ⟨(t1181 led P), 252, life0, ⟨[]⟩, ⟨0, 0, 0, 0⟩, 2724, os⟩
noncomputable def th31c19 (led : Bool) (w : World) (os : OsState) : Thread := ⟨PySem.W.Fast.tw11892475500146522536 PySem.W.Fast.tw14364793385576792824 (.builtin "set.update.loop" ⟨[(.ref 250), (.ref 251)], []⟩), (.builtin "set.update.loop" ⟨[(.ref 250), (.ref 251)], []⟩), ⟨121, 9, 121, 52⟩, [.ret (kq (r31x5 led w os) 0) none false [] (.builtin "set.__init__" ⟨[(.ref 250), (.ref 249)], []⟩) ⟨121, 9, 121, 52⟩ [(.ref 250), (.ref 251)], .ret (kq (r31x5 led w os) 1) none false [(.ref 250), (.ref 250), (.ref 249)] (.builtin "type.__call__" ⟨[(.type "set"), (.ref 249)], []⟩) ⟨121, 9, 121, 52⟩ [(.builtin "set.__init__"), (.ref 250), (.ref 249), (.builtin "set.__init__"), (.ref 250), (.ref 249)], .ret (kq (r31x5 led w os) 2) none false [] cE ⟨121, 9, 121, 52⟩ [(.type "set"), (.ref 249)], topFrame qE]⟩
noncomputable def o297 (led : Bool) (P : Params) : Obj := ⟨(.type "set"), none, (.set ⟨[(917505, (.int 917505 2563)), (917536, (.int 917536 2569)), (917537, (.int 917537 2570)), (917538, (.int 917538 2571)), (917539, (.int 917539 2572)), (917540, (.int 917540 2573)), (917541, (.int 917541 2574)), (917542, (.int 917542 2575)), (917543, (.int 917543 2576)), (917544, (.int 917544 2577)), (917545, (.int 917545 2578)), (917546, (.int 917546 2579)), (917547, (.int 917547 2580)), (917548, (.int 917548 2581)), (917549, (.int 917549 2582)), (917550, (.int 917550 2583)), (917551, (.int 917551 2584)), (917552, (.int 917552 2585)), (917553, (.int 917553 2586)), (917554, (.int 917554 2587)), (917555, (.int 917555 2588)), (917556, (.int 917556 2589)), (917557, (.int 917557 2590)), (917558, (.int 917558 2591)), (917559, (.int 917559 2592)), (917560, (.int 917560 2593)), (917561, (.int 917561 2594)), (917562, (.int 917562 2595)), (917563, (.int 917563 2596)), (917564, (.int 917564 2597)), (917565, (.int 917565 2598)), (917566, (.int 917566 2599)), (917567, (.int 917567 2600)), (917568, (.int 917568 2601)), (917569, (.int 917569 2602)), (917570, (.int 917570 2603)), (917571, (.int 917571 2604)), (917572, (.int 917572 2605)), (917573, (.int 917573 2606)), (917574, (.int 917574 2607)), (917575, (.int 917575 2608)), (917576, (.int 917576 2609)), (917577, (.int 917577 2610)), (917578, (.int 917578 2611)), (917579, (.int 917579 2612)), (917580, (.int 917580 2613)), (917581, (.int 917581 2614)), (917582, (.int 917582 2615)), (917583, (.int 917583 2616)), (917584, (.int 917584 2617)), (917585, (.int 917585 2618)), (917586, (.int 917586 2619)), (917587, (.int 917587 2620)), (917588, (.int 917588 2621)), (917589, (.int 917589 2622)), (917590, (.int 917590 2623)), (917591, (.int 917591 2624)), (917592, (.int 917592 2625)), (917593, (.int 917593 2626)), (917594, (.int 917594 2627)), (917595, (.int 917595 2628)), (917596, (.int 917596 2629)), (917597, (.int 917597 2630))]⟩ 65 ⟨127, ⟨[1, 32, 33, 34, 35, 36, 37, 38, 39, 40, 41, 42, 43, 44, 45, 46, 47, 48, 49, 50, 51, 52, 53, 54, 55, 56, 57, 58, 59, 60, 61, 62, 63, 64, 65, 66, 67, 68, 69, 70, 71, 72, 73, 74, 75, 76, 77, 78, 79, 80, 81, 82, 83, 84, 85, 86, 87, 88, 89, 90, 91, 92, 93]⟩, ⟨[]⟩, 0, led, 2, true⟩), ⟨[]⟩⟩
noncomputable def o298 (P : Params) : Obj := ⟨(.type "list_iterator"), none, (.fields ⟨[(.ref 249), (.int 63 0)]⟩), ⟨[]⟩⟩
noncomputable def t1182 (P : Params) : BT := (.node (o7 P) (.node (o7 P) (.node (o150 P) .nil .nil) (.node (o229 P) .nil .nil)) (.node (o94 P) (.node (o198 P) .nil .nil) (.node (o298 P) .nil .nil)))
noncomputable def t1183 (P : Params) : BT := (.node (o26 P) (t887 P) (t1182 P))
noncomputable def t1184 (P : Params) : BT := (.node (o11 P) (t941 P) (t1183 P))
noncomputable def t1185 (P : Params) : BT := (.node (o247 P) (t994 P) (t1184 P))
noncomputable def t1186 (P : Params) : BT := (.node (o1 P) (t1185 P) (t1002 P))
noncomputable def t1187 (led : Bool) (P : Params) : BT := (.node (o50 P) (.node (o72 P) (.node (o148 P) .nil .nil) (.node (o228 P) .nil .nil)) (.node (o93 P) (.node (o197 P) .nil .nil) (.node (o297 led P) .nil .nil)))
noncomputable def t1188 (led : Bool) (P : Params) : BT := (.node (o25 P) (t900 P) (t1187 led P))
noncomputable def t1189 (led : Bool) (P : Params) : BT := (.node (o10 P) (t932 P) (t1188 led P))
noncomputable def t1190 (led : Bool) (P : Params) : BT := (.node (o6 P) (t1189 led P) (t1013 P))
noncomputable def t1191 (led : Bool) (P : Params) : BT := (.node (o2 P) (t1007 P) (t1190 led P))
noncomputable def t1192 (led : Bool) (P : Params) : BT := (.node (o0 P) (t1186 P) (t1191 led P))
noncomputable def S31c20 (led : Bool) (w : World) (os : OsState) : SharedT := let P := w.params; ⟨(t1192 led P), 252, life0, ⟨[]⟩, ⟨0, 0, 0, 0⟩, 2728, os⟩
noncomputable def th31c20 (led : Bool) (w : World) (os : OsState) : Thread := ⟨PySem.W.Fast.tw11892475500146522536 PySem.W.Fast.tw14364793385576792824 (.builtin "set.update.loop" ⟨[(.ref 250), (.ref 251)], []⟩), (.builtin "set.update.loop" ⟨[(.ref 250), (.ref 251)], []⟩), ⟨121, 9, 121, 52⟩, [.ret (kq (r31x5 led w os) 0) none false [] (.builtin "set.__init__" ⟨[(.ref 250), (.ref 249)], []⟩) ⟨121, 9, 121, 52⟩ [(.ref 250), (.ref 251)], .ret (kq (r31x5 led w os) 1) none false [(.ref 250), (.ref 250), (.ref 249)] (.builtin "type.__call__" ⟨[(.type "set"), (.ref 249)], []⟩) ⟨121, 9, 121, 52⟩ [(.builtin "set.__init__"), (.ref 250), (.ref 249), (.builtin "set.__init__"), (.ref 250), (.ref 249)], .ret (kq (r31x5 led w os) 2) none false [] cE ⟨121, 9, 121, 52⟩ [(.type "set"), (.ref 249)], topFrame qE]⟩
noncomputable def o299 (led : Bool) (P : Params) : Obj := ⟨(.type "set"), none, (.set ⟨[(917505, (.int 917505 2563)), (917536, (.int 917536 2569)), (917537, (.int 917537 2570)), (917538, (.int 917538 2571)), (917539, (.int 917539 2572)), (917540, (.int 917540 2573)), (917541, (.int 917541 2574)), (917542, (.int 917542 2575)), (917543, (.int 917543 2576)), (917544, (.int 917544 2577)), (917545, (.int 917545 2578)), (917546, (.int 917546 2579)), (917547, (.int 917547 2580)), (917548, (.int 917548 2581)), (917549, (.int 917549 2582)), (917550, (.int 917550 2583)), (917551, (.int 917551 2584)), (917552, (.int 917552 2585)), (917553, (.int 917553 2586)), (917554, (.int 917554 2587)), (917555, (.int 917555 2588)), (917556, (.int 917556 2589)), (917557, (.int 917557 2590)), (917558, (.int 917558 2591)), (917559, (.int 917559 2592)), (917560, (.int 917560 2593)), (917561, (.int 917561 2594)), (917562, (.int 917562 2595)), (917563, (.int 917563 2596)), (917564, (.int 917564 2597)), (917565, (.int 917565 2598)), (917566, (.int 917566 2599)), (917567, (.int 917567 2600)), (917568, (.int 917568 2601)), (917569, (.int 917569 2602)), (917570, (.int 917570 2603)), (917571, (.int 917571 2604)), (917572, (.int 917572 2605)), (917573, (.int 917573 2606)), (917574, (.int 917574 2607)), (917575, (.int 917575 2608)), (917576, (.int 917576 2609)), (917577, (.int 917577 2610)), (917578, (.int 917578 2611)), (917579, (.int 917579 2612)), (917580, (.int 917580 2613)), (917581, (.int 917581 2614)), (917582, (.int 917582 2615)), (917583, (.int 917583 2616)), (917584, (.int 917584 2617)), (917585, (.int 917585 2618)), (917586, (.int 917586 2619)), (917587, (.int 917587 2620)), (917588, (.int 917588 2621)), (917589, (.int 917589 2622)), (917590, (.int 917590 2623)), (917591, (.int 917591 2624)), (917592, (.int 917592 2625)), (917593, (.int 917593 2626)), (917594, (.int 917594 2627)), (917595, (.int 917595 2628)), (917596, (.int 917596 2629)), (917597, (.int 917597 2630)), (917598, (.int 917598 2631)), (917599, (.int 917599 2632)), (917600, (.int 917600 2633)), (917601, (.int 917601 2634))]⟩ 69 ⟨127, ⟨[1, 32, 33, 34, 35, 36, 37, 38, 39, 40, 41, 42, 43, 44, 45, 46, 47, 48, 49, 50, 51, 52, 53, 54, 55, 56, 57, 58, 59, 60, 61, 62, 63, 64, 65, 66, 67, 68, 69, 70, 71, 72, 73, 74, 75, 76, 77, 78, 79, 80, 81, 82, 83, 84, 85, 86, 87, 88, 89, 90, 91, 92, 93, 94, 95, 96, 97]⟩, ⟨[]⟩, 0, led, 2, true⟩), ⟨[]⟩⟩
noncomputable def o300 (P : Params) : Obj := ⟨(.type "list_iterator"), none, (.fields ⟨[(.ref 249), (.int 67 0)]⟩), ⟨[]⟩⟩
noncomputable def t1193 (P : Params) : BT := (.node (o7 P) (.node (o7 P) (.node (o150 P) .nil .nil) (.node (o229 P) .nil .nil)) (.node (o94 P) (.node (o198 P) .nil .nil) (.node (o300 P) .nil .nil)))
noncomputable def t1194 (P : Params) : BT := (.node (o26 P) (t887 P) (t1193 P))
noncomputable def t1195 (P : Params) : BT := (.node (o11 P) (t941 P) (t1194 P))
noncomputable def t1196 (P : Params) : BT := (.node (o247 P) (t994 P) (t1195 P))
noncomputable def t1197 (P : Params) : BT := (.node (o1 P) (t1196 P) (t1002 P))
noncomputable def t1198 (led : Bool) (P : Params) : BT := (.node (o50 P) (.node (o72 P) (.node (o148 P) .nil .nil) (.node (o228 P) .nil .nil)) (.node (o93 P) (.node (o197 P) .nil .nil) (.node (o299 led P) .nil .nil)))
noncomputable def t1199 (led : Bool) (P : Params) : BT := (.node (o25 P) (t900 P) (t1198 led P))
noncomputable def t1200 (led : Bool) (P : Params) : BT := (.node (o10 P) (t932 P) (t1199 led P))
noncomputable def t1201 (led : Bool) (P : Params) : BT := (.node (o6 P) (t1200 led P) (t1013 P))
noncomputable def t1202 (led : Bool) (P : Params) : BT := (.node (o2 P) (t1007 P) (t1201 led P))
noncomputable def t1203 (led : Bool) (P : Params) : BT := (.node (o0 P) (t1197 P) (t1202 led P))
noncomputable def S31c21 (led : Bool) (w : World) (os : OsState) : SharedT := let P := w.params; ⟨(t1203 led P), 252, life0, ⟨[]⟩, ⟨0, 0, 0, 0⟩, 2732, os⟩
noncomputable def th31c21 (led : Bool) (w : World) (os : OsState) : Thread := ⟨PySem.W.Fast.tw11892475500146522536 PySem.W.Fast.tw14364793385576792824 (.builtin "set.update.loop" ⟨[(.ref 250), (.ref 251)], []⟩), (.builtin "set.update.loop" ⟨[(.ref 250), (.ref 251)], []⟩), ⟨121, 9, 121, 52⟩, [.ret (kq (r31x5 led w os) 0) none false [] (.builtin "set.__init__" ⟨[(.ref 250), (.ref 249)], []⟩) ⟨121, 9, 121, 52⟩ [(.ref 250), (.ref 251)], .ret (kq (r31x5 led w os) 1) none false [(.ref 250), (.ref 250), (.ref 249)] (.builtin "type.__call__" ⟨[(.type "set"), (.ref 249)], []⟩) ⟨121, 9, 121, 52⟩ [(.builtin "set.__init__"), (.ref 250), (.ref 249), (.builtin "set.__init__"), (.ref 250), (.ref 249)], .ret (kq (r31x5 led w os) 2) none false [] cE ⟨121, 9, 121, 52⟩ [(.type "set"), (.ref 249)], topFrame qE]⟩
noncomputable def o301 (led : Bool) (P : Params) : Obj := ⟨(.type "set"), none, (.set ⟨[(917505, (.int 917505 2563)), (917536, (.int 917536 2569)), (917537, (.int 917537 2570)), (917538, (.int 917538 2571)), (917539, (.int 917539 2572)), (917540, (.int 917540 2573)), (917541, (.int 917541 2574)), (917542, (.int 917542 2575)), (917543, (.int 917543 2576)), (917544, (.int 917544 2577)), (917545, (.int 917545 2578)), (917546, (.int 917546 2579)), (917547, (.int 917547 2580)), (917548, (.int 917548 2581)), (917549, (.int 917549 2582)), (917550, (.int 917550 2583)), (917551, (.int 917551 2584)), (917552, (.int 917552 2585)), (917553, (.int 917553 2586)), (917554, (.int 917554 2587)), (917555, (.int 917555 2588)), (917556, (.int 917556 2589)), (917557, (.int 917557 2590)), (917558, (.int 917558 2591)), (917559, (.int 917559 2592)), (917560, (.int 917560 2593)), (917561, (.int 917561 2594)), (917562, (.int 917562 2595)), (917563, (.int 917563 2596)), (917564, (.int 917564 2597)), (917565, (.int 917565 2598)), (917566, (.int 917566 2599)), (917567, (.int 917567 2600)), (917568, (.int 917568 2601)), (917569, (.int 917569 2602)), (917570, (.int 917570 2603)), (917571, (.int 917571 2604)), (917572, (.int 917572 2605)), (917573, (.int 917573 2606)), (917574, (.int 917574 2607)), (917575, (.int 917575 2608)), (917576, (.int 917576 2609)), (917577, (.int 917577 2610)), (917578, (.int 917578 2611)), (917579, (.int 917579 2612)), (917580, (.int 917580 2613)), (917581, (.int 917581 2614)), (917582, (.int 917582 2615)), (917583, (.int 917583 2616)), (917584, (.int 917584 2617)), (917585, (.int 917585 2618)), (917586, (.int 917586 2619)), (917587, (.int 917587 2620)), (917588, (.int 917588 2621)), (917589, (.int 917589 2622)), (917590, (.int 917590 2623)), (917591, (.int 917591 2624)), (917592, (.int 917592 2625)), (917593, (.int 917593 2626)), (917594, (.int 917594 2627)), (917595, (.int 917595 2628)), (917596, (.int 917596 2629)), (917597, (.int 917597 2630)), (917598, (.int 917598 2631)), (917599, (.int 917599 2632)), (917600, (.int 917600 2633)), (917601, (.int 917601 2634)), (917602, (.int 917602 2635)), (917603, (.int 917603 2636)), (917604, (.int 917604 2637)), (917605, (.int 917605 2638))]⟩ 73 ⟨127, ⟨[1, 32, 33, 34, 35, 36, 37, 38, 39, 40, 41, 42, 43, 44, 45, 46, 47, 48, 49, 50, 51, 52, 53, 54, 55, 56, 57, 58, 59, 60, 61, 62, 63, 64, 65, 66, 67, 68, 69, 70, 71, 72, 73, 74, 75, 76, 77, 78, 79, 80, 81, 82, 83, 84, 85, 86, 87, 88, 89, 90, 91, 92, 93, 94, 95, 96, 97, 98, 99, 100, 101]⟩, ⟨[]⟩, 0, led, 2, true⟩), ⟨[]⟩⟩
noncomputable def o302 (P : Params) : Obj := ⟨(.type "list_iterator"), none, (.fields ⟨[(.ref 249), (.int 71 0)]⟩), ⟨[]⟩⟩
noncomputable def t1204 (P : Params) : BT := (.node (o7 P) (.node (o7 P) (.node (o150 P) .nil .nil) (.node (o229 P) .nil .nil)) (.node (o94 P) (.node (o198 P) .nil .nil) (.node (o302 P) .nil .nil)))
noncomputable def t1205 (P : Params) : BT := (.node (o26 P) (t887 P) (t1204 P))
noncomputable def t1206 (P : Params) : BT := (.node (o11 P) (t941 P) (t1205 P))
noncomputable def t1207 (P : Params) : BT := (.node (o247 P) (t994 P) (t1206 P))
noncomputable def t1208 (P : Params) : BT := (.node (o1 P) (t1207 P) (t1002 P))
noncomputable def t1209 (led : Bool) (P : Params) : BT := (.node (o50 P) (.node (o72 P) (.node (o148 P) .nil .nil) (.node (o228 P) .nil .nil)) (.node (o93 P) (.node (o197 P) .nil .nil) (.node (o301 led P) .nil .nil)))
noncomputable def t1210 (led : Bool) (P : Params) : BT := (.node (o25 P) (t900 P) (t1209 led P))
noncomputable def t1211 (led : Bool) (P : Params) : BT := (.node (o10 P) (t932 P) (t1210 led P))
noncomputable def t1212 (led : Bool) (P : Params) : BT := (.node (o6 P) (t1211 led P) (t1013 P))
noncomputable def t1213 (led : Bool) (P : Params) : BT := (.node (o2 P) (t1007 P) (t1212 led P))
noncomputable def t1214 (led : Bool) (P : Params) : BT := (.node (o0 P) (t1208 P) (t1213 led P))
noncomputable def S31c22 (led : Bool) (w : World) (os : OsState) : SharedT := let P := w.params; ⟨(t1214 led P), 252, life0, ⟨[]⟩, ⟨0, 0, 0, 0⟩, 2736, os⟩
noncomputable def th31c22 (led : Bool) (w : World) (os : OsState) : Thread := ⟨PySem.W.Fast.tw11892475500146522536 PySem.W.Fast.tw14364793385576792824 (.builtin "set.update.loop" ⟨[(.ref 250), (.ref 251)], []⟩), (.builtin "set.update.loop" ⟨[(.ref 250), (.ref 251)], []⟩), ⟨121, 9, 121, 52⟩, [.ret (kq (r31x5 led w os) 0) none false [] (.builtin "set.__init__" ⟨[(.ref 250), (.ref 249)], []⟩) ⟨121, 9, 121, 52⟩ [(.ref 250), (.ref 251)], .ret (kq (r31x5 led w os) 1) none false [(.ref 250), (.ref 250), (.ref 249)] (.builtin "type.__call__" ⟨[(.type "set"), (.ref 249)], []⟩) ⟨121, 9, 121, 52⟩ [(.builtin "set.__init__"), (.ref 250), (.ref 249), (.builtin "set.__init__"), (.ref 250), (.ref 249)], .ret (kq (r31x5 led w os) 2) none false [] cE ⟨121, 9, 121, 52⟩ [(.type "set"), (.ref 249)], topFrame qE]⟩
noncomputable def o303 (led : Bool) (P : Params) : Obj := ⟨(.type "set"), none, (.set ⟨[(917505, (.int 917505 2563)), (917536, (.int 917536 2569)), (917537, (.int 917537 2570)), (917538, (.int 917538 2571)), (917539, (.int 917539 2572)), (917540, (.int 917540 2573)), (917541, (.int 917541 2574)), (917542, (.int 917542 2575)), (917543, (.int 917543 2576)), (917544, (.int 917544 2577)), (917545, (.int 917545 2578)), (917546, (.int 917546 2579)), (917547, (.int 917547 2580)), (917548, (.int 917548 2581)), (917549, (.int 917549 2582)), (917550, (.int 917550 2583)), (917551, (.int 917551 2584)), (917552, (.int 917552 2585)), (917553, (.int 917553 2586)), (917554, (.int 917554 2587)), (917555, (.int 917555 2588)), (917556, (.int 917556 2589)), (917557, (.int 917557 2590)), (917558, (.int 917558 2591)), (917559, (.int 917559 2592)), (917560, (.int 917560 2593)), (917561, (.int 917561 2594)), (917562, (.int 917562 2595)), (917563, (.int 917563 2596)), (917564, (.int 917564 2597)), (917565, (.int 917565 2598)), (917566, (.int 917566 2599)), (917567, (.int 917567 2600)), (917568, (.int 917568 2601)), (917569, (.int 917569 2602)), (917570, (.int 917570 2603)), (917571, (.int 917571 2604)), (917572, (.int 917572 2605)), (917573, (.int 917573 2606)), (917574, (.int 917574 2607)), (917575, (.int 917575 2608)), (917576, (.int 917576 2609)), (917577, (.int 917577 2610)), (917578, (.int 917578 2611)), (917579, (.int 917579 2612)), (917580, (.int 917580 2613)), (917581, (.int 917581 2614)), (917582, (.int 917582 2615)), (917583, (.int 917583 2616)), (917584, (.int 917584 2617)), (917585, (.int 917585 2618)), (917586, (.int 917586 2619)), (917587, (.int 917587 2620)), (917588, (.int 917588 2621)), (917589, (.int 917589 2622)), (917590, (.int 917590 2623)), (917591, (.int 917591 2624)), (917592, (.int 917592 2625)), (917593, (.int 917593 2626)), (917594, (.int 917594 2627)), (917595, (.int 917595 2628)), (917596, (.int 917596 2629)), (917597, (.int 917597 2630)), (917598, (.int 917598 2631)), (917599, (.int 917599 2632)), (917600, (.int 917600 2633)), (917601, (.int 917601 2634)), (917602, (.int 917602 2635)), (917603, (.int 917603 2636)), (917604, (.int 917604 2637)), (917605, (.int 917605 2638)), (917606, (.int 917606 2639)), (917607, (.int 917607 2640)), (917608, (.int 917608 2641)), (917609, (.int 917609 2642))]⟩ 77 ⟨127, ⟨[1, 32, 33, 34, 35, 36, 37, 38, 39, 40, 41, 42, 43, 44, 45, 46, 47, 48, 49, 50, 51, 52, 53, 54, 55, 56, 57, 58, 59, 60, 61, 62, 63, 64, 65, 66, 67, 68, 69, 70, 71, 72, 73, 74, 75, 76, 77, 78, 79, 80, 81, 82, 83, 84, 85, 86, 87, 88, 89, 90, 91, 92, 93, 94, 95, 96, 97, 98, 99, 100, 101, 102, 103, 104, 105]⟩, ⟨[]⟩, 0, led, 2, true⟩), ⟨[]⟩⟩
noncomputable def o304 (P : Params) : Obj := ⟨(.type "list_iterator"), none, (.fields ⟨[(.ref 249), (.int 75 0)]⟩), ⟨[]⟩⟩
noncomputable def t1215 (P : Params) : BT := (.node (o7 P) (.node (o7 P) (.node (o150 P) .nil .nil) (.node (o229 P) .nil .nil)) (.node (o94 P) (.node (o198 P) .nil .nil) (.node (o304 P) .nil .nil)))
noncomputable def t1216 (P : Params) : BT := (.node (o26 P) (t887 P) (t1215 P))
noncomputable def t1217 (P : Params) : BT := (.node (o11 P) (t941 P) (t1216 P))
noncomputable def t1218 (P : Params) : BT := (.node (o247 P) (t994 P) (t1217 P))
noncomputable def t1219 (P : Params) : BT := (.node (o1 P) (t1218 P) (t1002 P))
noncomputable def t1220 (led : Bool) (P : Params) : BT := (.node (o50 P) (.node (o72 P) (.node (o148 P) .nil .nil) (.node (o228 P) .nil .nil)) (.node (o93 P) (.node (o197 P) .nil .nil) (.node (o303 led P) .nil .nil)))
noncomputable def t1221 (led : Bool) (P : Params) : BT := (.node (o25 P) (t900 P) (t1220 led P))
noncomputable def t1222 (led : Bool) (P : Params) : BT := (.node (o10 P) (t932 P) (t1221 led P))
noncomputable def t1223 (led : Bool) (P : Params) : BT := (.node (o6 P) (t1222 led P) (t1013 P))
noncomputable def t1224 (led : Bool) (P : Params) : BT := (.node (o2 P) (t1007 P) (t1223 led P))
noncomputable def t1225 (led : Bool) (P : Params) : BT := (.node (o0 P) (t1219 P) (t1224 led P))
noncomputable def S31c23 (led : Bool) (w : World) (os : OsState) : SharedT := let P := w.params; ⟨(t1225 led P), 252, life0, ⟨[]⟩, ⟨0, 0, 0, 0⟩, 2740, os⟩
noncomputable def th31c23 (led : Bool) (w : World) (os : OsState) : Thread := ⟨PySem.W.Fast.tw11892475500146522536 PySem.W.Fast.tw14364793385576792824 (.builtin "set.update.loop" ⟨[(.ref 250), (.ref 251)], []⟩), (.builtin "set.update.loop" ⟨[(.ref 250), (.ref 251)], []⟩), ⟨121, 9, 121, 52⟩, [.ret (kq (r31x5 led w os) 0) none false [] (.builtin "set.__init__" ⟨[(.ref 250), (.ref 249)], []⟩) ⟨121, 9, 121, 52⟩ [(.ref 250), (.ref 251)], .ret (kq (r31x5 led w os) 1) none false [(.ref 250), (.ref 250), (.ref 249)] (.builtin "type.__call__" ⟨[(.type "set"), (.ref 249)], []⟩) ⟨121, 9, 121, 52⟩ [(.builtin "set.__init__"), (.ref 250), (.ref 249), (.builtin "set.__init__"), (.ref 250), (.ref 249)], .ret (kq (r31x5 led w os) 2) none false [] cE ⟨121, 9, 121, 52⟩ [(.type "set"), (.ref 249)], topFrame qE]⟩
noncomputable def o305 (led : Bool) (P : Params) : Obj := ⟨(.type "set"), none, (.set ⟨[(917505, (.int 917505 2563)), (917536, (.int 917536 2569)), (917537, (.int 917537 2570)), (917538, (.int 917538 2571)), (917539, (.int 917539 2572)), (917540, (.int 917540 2573)), (917541, (.int 917541 2574)), (917542, (.int 917542 2575)), (917543, (.int 917543 2576)), (917544, (.int 917544 2577)), (917545, (.int 917545 2578)), (917546, (.int 917546 2579)), (917547, (.int 917547 2580)), (917548, (.int 917548 2581)), (917549, (.int 917549 2582)), (917550, (.int 917550 2583)), (917551, (.int 917551 2584)), (917552, (.int 917552 2585)), (917553, (.int 917553 2586)), (917554, (.int 917554 2587)), (917555, (.int 917555 2588)), (917556, (.int 917556 2589)), (917557, (.int 917557 2590)), (917558, (.int 917558 2591)), (917559, (.int 917559 2592)), (917560, (.int 917560 2593)), (917561, (.int 917561 2594)), (917562, (.int 917562 2595)), (917563, (.int 917563 2596)), (917564, (.int 917564 2597)), (917565, (.int 917565 2598)), (917566, (.int 917566 2599)), (917567, (.int 917567 2600)), (917568, (.int 917568 2601)), (917569, (.int 917569 2602)), (917570, (.int 917570 2603)), (917571, (.int 917571 2604)), (917572, (.int 917572 2605)), (917573, (.int 917573 2606)), (917574, (.int 917574 2607)), (917575, (.int 917575 2608)), (917576, (.int 917576 2609)), (917577, (.int 917577 2610)), (917578, (.int 917578 2611)), (917579, (.int 917579 2612)), (917580, (.int 917580 2613)), (917581, (.int 917581 2614)), (917582, (.int 917582 2615)), (917583, (.int 917583 2616)), (917584, (.int 917584 2617)), (917585, (.int 917585 2618)), (917586, (.int 917586 2619)), (917587, (.int 917587 2620)), (917588, (.int 917588 2621)), (917589, (.int 917589 2622)), (917590, (.int 917590 2623)), (917591, (.int 917591 2624)), (917592, (.int 917592 2625)), (917593, (.int 917593 2626)), (917594, (.int 917594 2627)), (917595, (.int 917595 2628)), (917596, (.int 917596 2629)), (917597, (.int 917597 2630)), (917598, (.int 917598 2631)), (917599, (.int 917599 2632)), (917600, (.int 917600 2633)), (917601, (.int 917601 2634)), (917602, (.int 917602 2635)), (917603, (.int 917603 2636)), (917604, (.int 917604 2637)), (917605, (.int 917605 2638)), (917606, (.int 917606 2639)), (917607, (.int 917607 2640)), (917608, (.int 917608 2641)), (917609, (.int 917609 2642)), (917610, (.int 917610 2643)), (917611, (.int 917611 2644)), (917612, (.int 917612 2645)), (917613, (.int 917613 2646))]⟩ 82 ⟨511, ⟨[1, 32, 33, 34, 35, 36, 37, 38, 39, 40, 41, 42, 43, 44, 45, 46, 47, 48, 49, 50, 51, 52, 53, 54, 55, 56, 57, 58, 59, 60, 61, 62, 63, 64, 65, 66, 67, 68, 69, 70, 71, 72, 73, 74, 75, 76, 77, 78, 79, 80, 81, 82, 83, 84, 85, 86, 87, 88, 89, 90, 91, 92, 93, 94, 95, 96, 97, 98, 99, 100, 101, 102, 103, 104, 105, 106, 107, 108, 109]⟩, ⟨[]⟩, 0, led, 3, true⟩), ⟨[]⟩⟩
noncomputable def o306 (P : Params) : Obj := ⟨(.type "list_iterator"), none, (.fields ⟨[(.ref 249), (.int 79 0)]⟩), ⟨[]⟩⟩
noncomputable def t1226 (P : Params) : BT := (.node (o7 P) (.node (o7 P) (.node (o150 P) .nil .nil) (.node (o229 P) .nil .nil)) (.node (o94 P) (.node (o198 P) .nil .nil) (.node (o306 P) .nil .nil)))
noncomputable def t1227 (P : Params) : BT := (.node (o26 P) (t887 P) (t1226 P))
noncomputable def t1228 (P : Params) : BT := (.node (o11 P) (t941 P) (t1227 P))
noncomputable def t1229 (P : Params) : BT := (.node (o247 P) (t994 P) (t1228 P))
noncomputable def t1230 (P : Params) : BT := (.node (o1 P) (t1229 P) (t1002 P))
noncomputable def t1231 (led : Bool) (P : Params) : BT := (.node (o50 P) (.node (o72 P) (.node (o148 P) .nil .nil) (.node (o228 P) .nil .nil)) (.node (o93 P) (.node (o197 P) .nil .nil) (.node (o305 led P) .nil .nil)))
noncomputable def t1232 (led : Bool) (P : Params) : BT := (.node (o25 P) (t900 P) (t1231 led P))
noncomputable def t1233 (led : Bool) (P : Params) : BT := (.node (o10 P) (t932 P) (t1232 led P))
noncomputable def t1234 (led : Bool) (P : Params) : BT := (.node (o6 P) (t1233 led P) (t1013 P))
noncomputable def t1235 (led : Bool) (P : Params) : BT := (.node (o2 P) (t1007 P) (t1234 led P))
noncomputable def t1236 (led : Bool) (P : Params) : BT := (.node (o0 P) (t1230 P) (t1235 led P))
noncomputable def S31c24 (led : Bool) (w : World) (os : OsState) : SharedT := let P := w.params; ⟨(t1236 led P), 252, life0, ⟨[]⟩, ⟨0, 0, 0, 0⟩, 2744, os⟩
noncomputable def th31c24 (led : Bool) (w : World) (os : OsState) : Thread := ⟨PySem.W.Fast.tw11892475500146522536 PySem.W.Fast.tw14364793385576792824 (.builtin "set.update.loop" ⟨[(.ref 250), (.ref 251)], []⟩), (.builtin "set.update.loop" ⟨[(.ref 250), (.ref 251)], []⟩), ⟨121, 9, 121, 52⟩, [.ret (kq (r31x5 led w os) 0) none false [] (.builtin "set.__init__" ⟨[(.ref 250), (.ref 249)], []⟩) ⟨121, 9, 121, 52⟩ [(.ref 250), (.ref 251)], .ret (kq (r31x5 led w os) 1) none false [(.ref 250), (.ref 250), (.ref 249)] (.builtin "type.__call__" ⟨[(.type "set"), (.ref 249)], []⟩) ⟨121, 9, 121, 52⟩ [(.builtin "set.__init__"), (.ref 250), (.ref 249), (.builtin "set.__init__"), (.ref 250), (.ref 249)], .ret (kq (r31x5 led w os) 2) none false [] cE ⟨121, 9, 121, 52⟩ [(.type "set"), (.ref 249)], topFrame qE]⟩
noncomputable def o307 (led : Bool) (P : Params) : Obj := ⟨(.type "set"), none, (.set ⟨[(917505, (.int 917505 2563)), (917536, (.int 917536 2569)), (917537, (.int 917537 2570)), (917538, (.int 917538 2571)), (917539, (.int 917539 2572)), (917540, (.int 917540 2573)), (917541, (.int 917541 2574)), (917542, (.int 917542 2575)), (917543, (.int 917543 2576)), (917544, (.int 917544 2577)), (917545, (.int 917545 2578)), (917546, (.int 917546 2579)), (917547, (.int 917547 2580)), (917548, (.int 917548 2581)), (917549, (.int 917549 2582)), (917550, (.int 917550 2583)), (917551, (.int 917551 2584)), (917552, (.int 917552 2585)), (917553, (.int 917553 2586)), (917554, (.int 917554 2587)), (917555, (.int 917555 2588)), (917556, (.int 917556 2589)), (917557, (.int 917557 2590)), (917558, (.int 917558 2591)), (917559, (.int 917559 2592)), (917560, (.int 917560 2593)), (917561, (.int 917561 2594)), (917562, (.int 917562 2595)), (917563, (.int 917563 2596)), (917564, (.int 917564 2597)), (917565, (.int 917565 2598)), (917566, (.int 917566 2599)), (917567, (.int 917567 2600)), (917568, (.int 917568 2601)), (917569, (.int 917569 2602)), (917570, (.int 917570 2603)), (917571, (.int 917571 2604)), (917572, (.int 917572 2605)), (917573, (.int 917573 2606)), (917574, (.int 917574 2607)), (917575, (.int 917575 2608)), (917576, (.int 917576 2609)), (917577, (.int 917577 2610)), (917578, (.int 917578 2611)), (917579, (.int 917579 2612)), (917580, (.int 917580 2613)), (917581, (.int 917581 2614)), (917582, (.int 917582 2615)), (917583, (.int 917583 2616)), (917584, (.int 917584 2617)), (917585, (.int 917585 2618)), (917586, (.int 917586 2619)), (917587, (.int 917587 2620)), (917588, (.int 917588 2621)), (917589, (.int 917589 2622)), (917590, (.int 917590 2623)), (917591, (.int 917591 2624)), (917592, (.int 917592 2625)), (917593, (.int 917593 2626)), (917594, (.int 917594 2627)), (917595, (.int 917595 2628)), (917596, (.int 917596 2629)), (917597, (.int 917597 2630)), (917598, (.int 917598 2631)), (917599, (.int 917599 2632)), (917600, (.int 917600 2633)), (917601, (.int 917601 2634)), (917602, (.int 917602 2635)), (917603, (.int 917603 2636)), (917604, (.int 917604 2637)), (917605, (.int 917605 2638)), (917606, (.int 917606 2639)), (917607, (.int 917607 2640)), (917608, (.int 917608 2641)), (917609, (.int 917609 2642)), (917610, (.int 917610 2643)), (917611, (.int 917611 2644)), (917612, (.int 917612 2645)), (917613, (.int 917613 2646)), (917614, (.int 917614 2647)), (917615, (.int 917615 2648)), (917616, (.int 917616 2649)), (917617, (.int 917617 2650))]⟩ 86 ⟨511, ⟨[1, 32, 33, 34, 35, 36, 37, 38, 39, 40, 41, 42, 43, 44, 45, 46, 47, 48, 49, 50, 51, 52, 53, 54, 55, 56, 57, 58, 59, 60, 61, 62, 63, 64, 65, 66, 67, 68, 69, 70, 71, 72, 73, 74, 75, 76, 77, 78, 79, 80, 81, 82, 83, 84, 85, 86, 87, 88, 89, 90, 91, 92, 93, 94, 95, 96, 97, 98, 99, 100, 101, 102, 103, 104, 105, 106, 107, 108, 109, 110, 111, 112, 113]⟩, ⟨[]⟩, 0, led, 3, true⟩), ⟨[]⟩⟩
noncomputable def o308 (P : Params) : Obj := ⟨(.type "list_iterator"), none, (.fields ⟨[(.ref 249), (.int 83 0)]⟩), ⟨[]⟩⟩
noncomputable def t1237 (P : Params) : BT := (.node (o7 P) (.node (o7 P) (.node (o150 P) .nil .nil) (.node (o229 P) .nil .nil)) (.node (o94 P) (.node (o198 P) .nil .nil) (.node (o308 P) .nil .nil)))
noncomputable def t1238 (P : Params) : BT := (.node (o26 P) (t887 P) (t1237 P))
noncomputable def t1239 (P : Params) : BT := (.node (o11 P) (t941 P) (t1238 P))
noncomputable def t1240 (P : Params) : BT := (.node (o247 P) (t994 P) (t1239 P))
noncomputable def t1241 (P : Params) : BT := (.node (o1 P) (t1240 P) (t1002 P))
noncomputable def t1242 (led : Bool) (P : Params) : BT := (.node (o50 P) (.node (o72 P) (.node (o148 P) .nil .nil) (.node (o228 P) .nil .nil)) (.node (o93 P) (.node (o197 P) .nil .nil) (.node (o307 led P) .nil .nil)))
noncomputable def t1243 (led : Bool) (P : Params) : BT := (.node (o25 P) (t900 P) (t1242 led P))
noncomputable def t1244 (led : Bool) (P : Params) : BT := (.node (o10 P) (t932 P) (t1243 led P))
noncomputable def t1245 (led : Bool) (P : Params) : BT := (.node (o6 P) (t1244 led P) (t1013 P))
noncomputable def t1246 (led : Bool) (P : Params) : BT := (.node (o2 P) (t1007 P) (t1245 led P))
noncomputable def t1247 (led : Bool) (P : Params) : BT := (.node (o0 P) (t1241 P) (t1246 led P))
noncomputable def S31c25 (led : Bool) (w : World) (os : OsState) : SharedT := let P := w.params; ⟨(t1247 led P), 252, life0, ⟨[]⟩, ⟨0, 0, 0, 0⟩, 2748, os⟩
noncomputable def th31c25 (led : Bool) (w : World) (os : OsState) : Thread := ⟨PySem.W.Fast.tw11892475500146522536 PySem.W.Fast.tw14364793385576792824 (.builtin "set.update.loop" ⟨[(.ref 250), (.ref 251)], []⟩), (.builtin "set.update.loop" ⟨[(.ref 250), (.ref 251)], []⟩), ⟨121, 9, 121, 52⟩, [.ret (kq (r31x5 led w os) 0) none false [] (.builtin "set.__init__" ⟨[(.ref 250), (.ref 249)], []⟩) ⟨121, 9, 121, 52⟩ [(.ref 250), (.ref 251)], .ret (kq (r31x5 led w os) 1) none false [(.ref 250), (.ref 250), (.ref 249)] (.builtin "type.__call__" ⟨[(.type "set"), (.ref 249)], []⟩) ⟨121, 9, 121, 52⟩ [(.builtin "set.__init__"), (.ref 250), (.ref 249), (.builtin "set.__init__"), (.ref 250), (.ref 249)], .ret (kq (r31x5 led w os) 2) none false [] cE ⟨121, 9, 121, 52⟩ [(.type "set"), (.ref 249)], topFrame qE]⟩
noncomputable def o309 (led : Bool) (P : Params) : Obj := ⟨(.type "set"), none, (.set ⟨[(917505, (.int 917505 2563)), (917536, (.int 917536 2569)), (917537, (.int 917537 2570)), (917538, (.int 917538 2571)), (917539, (.int 917539 2572)), (917540, (.int 917540 2573)), (917541, (.int 917541 2574)), (917542, (.int 917542 2575)), (917543, (.int 917543 2576)), (917544, (.int 917544 2577)), (917545, (.int 917545 2578)), (917546, (.int 917546 2579)), (917547, (.int 917547 2580)), (917548, (.int 917548 2581)), (917549, (.int 917549 2582)), (917550, (.int 917550 2583)), (917551, (.int 917551 2584)), (917552, (.int 917552 2585)), (917553, (.int 917553 2586)), (917554, (.int 917554 2587)), (917555, (.int 917555 2588)), (917556, (.int 917556 2589)), (917557, (.int 917557 2590)), (917558, (.int 917558 2591)), (917559, (.int 917559 2592)), (917560, (.int 917560 2593)), (917561, (.int 917561 2594)), (917562, (.int 917562 2595)), (917563, (.int 917563 2596)), (917564, (.int 917564 2597)), (917565, (.int 917565 2598)), (917566, (.int 917566 2599)), (917567, (.int 917567 2600)), (917568, (.int 917568 2601)), (917569, (.int 917569 2602)), (917570, (.int 917570 2603)), (917571, (.int 917571 2604)), (917572, (.int 917572 2605)), (917573, (.int 917573 2606)), (917574, (.int 917574 2607)), (917575, (.int 917575 2608)), (917576, (.int 917576 2609)), (917577, (.int 917577 2610)), (917578, (.int 917578 2611)), (917579, (.int 917579 2612)), (917580, (.int 917580 2613)), (917581, (.int 917581 2614)), (917582, (.int 917582 2615)), (917583, (.int 917583 2616)), (917584, (.int 917584 2617)), (917585, (.int 917585 2618)), (917586, (.int 917586 2619)), (917587, (.int 917587 2620)), (917588, (.int 917588 2621)), (917589, (.int 917589 2622)), (917590, (.int 917590 2623)), (917591, (.int 917591 2624)), (917592, (.int 917592 2625)), (917593, (.int 917593 2626)), (917594, (.int 917594 2627)), (917595, (.int 917595 2628)), (917596, (.int 917596 2629)), (917597, (.int 917597 2630)), (917598, (.int 917598 2631)), (917599, (.int 917599 2632)), (917600, (.int 917600 2633)), (917601, (.int 917601 2634)), (917602, (.int 917602 2635)), (917603, (.int 917603 2636)), (917604, (.int 917604 2637)), (917605, (.int 917605 2638)), (917606, (.int 917606 2639)), (917607, (.int 917607 2640)), (917608, (.int 917608 2641)), (917609, (.int 917609 2642)), (917610, (.int 917610 2643)), (917611, (.int 917611 2644)), (917612, (.int 917612 2645)), (917613, (.int 917613 2646)), (917614, (.int 917614 2647)), (917615, (.int 917615 2648)), (917616, (.int 917616 2649)), (917617, (.int 917617 2650)), (917618, (.int 917618 2651)), (917619, (.int 917619 2652)), (917620, (.int 917620 2653)), (917621, (.int 917621 2654))]⟩ 90 ⟨511, ⟨[1, 32, 33, 34, 35, 36, 37, 38, 39, 40, 41, 42, 43, 44, 45, 46, 47, 48, 49, 50, 51, 52, 53, 54, 55, 56, 57, 58, 59, 60, 61, 62, 63, 64, 65, 66, 67, 68, 69, 70, 71, 72, 73, 74, 75, 76, 77, 78, 79, 80, 81, 82, 83, 84, 85, 86, 87, 88, 89, 90, 91, 92, 93, 94, 95, 96, 97, 98, 99, 100, 101, 102, 103, 104, 105, 106, 107, 108, 109, 110, 111, 112, 113, 114, 115, 116, 117]⟩, ⟨[]⟩, 0, led, 3, true⟩), ⟨[]⟩⟩
noncomputable def o310 (P : Params) : Obj := ⟨(.type "list_iterator"), none, (.fields ⟨[(.ref 249), (.int 87 0)]⟩), ⟨[]⟩⟩
noncomputable def t1248 (P : Params) : BT := (.node (o7 P) (.node (o7 P) (.node (o150 P) .nil .nil) (.node (o229 P) .nil .nil)) (.node (o94 P) (.node (o198 P) .nil .nil) (.node (o310 P) .nil .nil)))
noncomputable def t1249 (P : Params) : BT := (.node (o26 P) (t887 P) (t1248 P))
noncomputable def t1250 (P : Params) : BT := (.node (o11 P) (t941 P) (t1249 P))
noncomputable def t1251 (P : Params) : BT := (.node (o247 P) (t994 P) (t1250 P))
noncomputable def t1252 (P : Params) : BT := (.node (o1 P) (t1251 P) (t1002 P))
noncomputable def t1253 (led : Bool) (P : Params) : BT := (.node (o50 P) (.node (o72 P) (.node (o148 P) .nil .nil) (.node (o228 P) .nil .nil)) (.node (o93 P) (.node (o197 P) .nil .nil) (.node (o309 led P) .nil .nil)))
noncomputable def t1254 (led : Bool) (P : Params) : BT := (.node (o25 P) (t900 P) (t1253 led P))
noncomputable def t1255 (led : Bool) (P : Params) : BT := (.node (o10 P) (t932 P) (t1254 led P))
noncomputable def t1256 (led : Bool) (P : Params) : BT := (.node (o6 P) (t1255 led P) (t1013 P))
noncomputable def t1257 (led : Bool) (P : Params) : BT := (.node (o2 P) (t1007 P) (t1256 led P))
noncomputable def t1258 (led : Bool) (P : Params) : BT := (.node (o0 P) (t1252 P) (t1257 led P))
noncomputable def S31c26 (led : Bool) (w : World) (os : OsState) : SharedT := let P := w.params; ⟨(t1258 led P), 252, life0, ⟨[]⟩, ⟨0, 0, 0, 0⟩, 2752, os⟩
noncomputable def th31c26 (led : Bool) (w : World) (os : OsState) : Thread := ⟨PySem.W.Fast.tw11892475500146522536 PySem.W.Fast.tw14364793385576792824 (.builtin "set.update.loop" ⟨[(.ref 250), (.ref 251)], []⟩), (.builtin "set.update.loop" ⟨[(.ref 250), (.ref 251)], []⟩), ⟨121, 9, 121, 52⟩, [.ret (kq (r31x5 led w os) 0) none false [] (.builtin "set.__init__" ⟨[(.ref 250), (.ref 249)], []⟩) ⟨121, 9, 121, 52⟩ [(.ref 250), (.ref 251)], .ret (kq (r31x5 led w os) 1) none false [(.ref 250), (.ref 250), (.ref 249)] (.builtin "type.__call__" ⟨[(.type "set"), (.ref 249)], []⟩) ⟨121, 9, 121, 52⟩ [(.builtin "set.__init__"), (.ref 250), (.ref 249), (.builtin "set.__init__"), (.ref 250), (.ref 249)], .ret (kq (r31x5 led w os) 2) none false [] cE ⟨121, 9, 121, 52⟩ [(.type "set"), (.ref 249)], topFrame qE]⟩
noncomputable def o311 (led : Bool) (P : Params) : Obj := ⟨(.type "set"), none, (.set ⟨[(917505, (.int 917505 2563)), (917536, (.int 917536 2569)), (917537, (.int 917537 2570)), (917538, (.int 917538 2571)), (917539, (.int 917539 2572)), (917540, (.int 917540 2573)), (917541, (.int 917541 2574)), (917542, (.int 917542 2575)), (917543, (.int 917543 2576)), (917544, (.int 917544 2577)), (917545, (.int 917545 2578)), (917546, (.int 917546 2579)), (917547, (.int 917547 2580)), (917548, (.int 917548 2581)), (917549, (.int 917549 2582)), (917550, (.int 917550 2583)), (917551, (.int 917551 2584)), (917552, (.int 917552 2585)), (917553, (.int 917553 2586)), (917554, (.int 917554 2587)), (917555, (.int 917555 2588)), (917556, (.int 917556 2589)), (917557, (.int 917557 2590)), (917558, (.int 917558 2591)), (917559, (.int 917559 2592)), (917560, (.int 917560 2593)), (917561, (.int 917561 2594)), (917562, (.int 917562 2595)), (917563, (.int 917563 2596)), (917564, (.int 917564 2597)), (917565, (.int 917565 2598)), (917566, (.int 917566 2599)), (917567, (.int 917567 2600)), (917568, (.int 917568 2601)), (917569, (.int 917569 2602)), (917570, (.int 917570 2603)), (917571, (.int 917571 2604)), (917572, (.int 917572 2605)), (917573, (.int 917573 2606)), (917574, (.int 917574 2607)), (917575, (.int 917575 2608)), (917576, (.int 917576 2609)), (917577, (.int 917577 2610)), (917578, (.int 917578 2611)), (917579, (.int 917579 2612)), (917580, (.int 917580 2613)), (917581, (.int 917581 2614)), (917582, (.int 917582 2615)), (917583, (.int 917583 2616)), (917584, (.int 917584 2617)), (917585, (.int 917585 2618)), (917586, (.int 917586 2619)), (917587, (.int 917587 2620)), (917588, (.int 917588 2621)), (917589, (.int 917589 2622)), (917590, (.int 917590 2623)), (917591, (.int 917591 2624)), (917592, (.int 917592 2625)), (917593, (.int 917593 2626)), (917594, (.int 917594 2627)), (917595, (.int 917595 2628)), (917596, (.int 917596 2629)), (917597, (.int 917597 2630)), (917598, (.int 917598 2631)), (917599, (.int 917599 2632)), (917600, (.int 917600 2633)), (917601, (.int 917601 2634)), (917602, (.int 917602 2635)), (917603, (.int 917603 2636)), (917604, (.int 917604 2637)), (917605, (.int 917605 2638)), (917606, (.int 917606 2639)), (917607, (.int 917607 2640)), (917608, (.int 917608 2641)), (917609, (.int 917609 2642)), (917610, (.int 917610 2643)), (917611, (.int 917611 2644)), (917612, (.int 917612 2645)), (917613, (.int 917613 2646)), (917614, (.int 917614 2647)), (917615, (.int 917615 2648)), (917616, (.int 917616 2649)), (917617, (.int 917617 2650)), (917618, (.int 917618 2651)), (917619, (.int 917619 2652)), (917620, (.int 917620 2653)), (917621, (.int 917621 2654)), (917622, (.int 917622 2655)), (917623, (.int 917623 2656)), (917624, (.int 917624 2657)), (917625, (.int 917625 2658))]⟩ 94 ⟨511, ⟨[1, 32, 33, 34, 35, 36, 37, 38, 39, 40, 41, 42, 43, 44, 45, 46, 47, 48, 49, 50, 51, 52, 53, 54, 55, 56, 57, 58, 59, 60, 61, 62, 63, 64, 65, 66, 67, 68, 69, 70, 71, 72, 73, 74, 75, 76, 77, 78, 79, 80, 81, 82, 83, 84, 85, 86, 87, 88, 89, 90, 91, 92, 93, 94, 95, 96, 97, 98, 99, 100, 101, 102, 103, 104, 105, 106, 107, 108, 109, 110, 111, 112, 113, 114, 115, 116, 117, 118, 119, 120, 121]⟩, ⟨[]⟩, 0, led, 3, true⟩), ⟨[]⟩⟩
noncomputable def o312 (P : Params) : Obj := ⟨(.type "list_iterator"), none, (.fields ⟨[(.ref 249), (.int 91 0)]⟩), ⟨[]⟩⟩
noncomputable def t1259 (P : Params) : BT := (.node (o7 P) (.node (o7 P) (.node (o150 P) .nil .nil) (.node (o229 P) .nil .nil)) (.node (o94 P) (.node (o198 P) .nil .nil) (.node (o312 P) .nil .nil)))
noncomputable def t1260 (P : Params) : BT := (.node (o26 P) (t887 P) (t1259 P))
noncomputable def t1261 (P : Params) : BT := (.node (o11 P) (t941 P) (t1260 P))
noncomputable def t1262 (P : Params) : BT := (.node (o247 P) (t994 P) (t1261 P))
noncomputable def t1263 (P : Params) : BT := (.node (o1 P) (t1262 P) (t1002 P))
noncomputable def t1264 (led : Bool) (P : Params) : BT := (.node (o50 P) (.node (o72 P) (.node (o148 P) .nil .nil) (.node (o228 P) .nil .nil)) (.node (o93 P) (.node (o197 P) .nil .nil) (.node (o311 led P) .nil .nil)))
noncomputable def t1265 (led : Bool) (P : Params) : BT := (.node (o25 P) (t900 P) (t1264 led P))
noncomputable def t1266 (led : Bool) (P : Params) : BT := (.node (o10 P) (t932 P) (t1265 led P))
noncomputable def t1267 (led : Bool) (P : Params) : BT := (.node (o6 P) (t1266 led P) (t1013 P))
noncomputable def t1268 (led : Bool) (P : Params) : BT := (.node (o2 P) (t1007 P) (t1267 led P))
noncomputable def t1269 (led : Bool) (P : Params) : BT := (.node (o0 P) (t1263 P) (t1268 led P))
noncomputable def S31c27 (led : Bool) (w : World) (os : OsState) : SharedT := let P := w.params; ⟨(t1269 led P), 252, life0, ⟨[]⟩, ⟨0, 0, 0, 0⟩, 2756, os⟩
noncomputable def th31c27 (led : Bool) (w : World) (os : OsState) : Thread := ⟨PySem.W.Fast.tw11892475500146522536 PySem.W.Fast.tw14364793385576792824 (.builtin "set.update.loop" ⟨[(.ref 250), (.ref 251)], []⟩), (.builtin "set.update.loop" ⟨[(.ref 250), (.ref 251)], []⟩), ⟨121, 9, 121, 52⟩, [.ret (kq (r31x5 led w os) 0) none false [] (.builtin "set.__init__" ⟨[(.ref 250), (.ref 249)], []⟩) ⟨121, 9, 121, 52⟩ [(.ref 250), (.ref 251)], .ret (kq (r31x5 led w os) 1) none false [(.ref 250), (.ref 250), (.ref 249)] (.builtin "type.__call__" ⟨[(.type "set"), (.ref 249)], []⟩) ⟨121, 9, 121, 52⟩ [(.builtin "set.__init__"), (.ref 250), (.ref 249), (.builtin "set.__init__"), (.ref 250), (.ref 249)], .ret (kq (r31x5 led w os) 2) none false [] cE ⟨121, 9, 121, 52⟩ [(.type "set"), (.ref 249)], topFrame qE]⟩
noncomputable def o313 (led : Bool) (P : Params) : Obj := ⟨(.type "set"), none, (.set ⟨[(917505, (.int 917505 2563)), (917536, (.int 917536 2569)), (917537, (.int 917537 2570)), (917538, (.int 917538 2571)), (917539, (.int 917539 2572)), (917540, (.int 917540 2573)), (917541, (.int 917541 2574)), (917542, (.int 917542 2575)), (917543, (.int 917543 2576)), (917544, (.int 917544 2577)), (917545, (.int 917545 2578)), (917546, (.int 917546 2579)), (917547, (.int 917547 2580)), (917548, (.int 917548 2581)), (917549, (.int 917549 2582)), (917550, (.int 917550 2583)), (917551, (.int 917551 2584)), (917552, (.int 917552 2585)), (917553, (.int 917553 2586)), (917554, (.int 917554 2587)), (917555, (.int 917555 2588)), (917556, (.int 917556 2589)), (917557, (.int 917557 2590)), (917558, (.int 917558 2591)), (917559, (.int 917559 2592)), (917560, (.int 917560 2593)), (917561, (.int 917561 2594)), (917562, (.int 917562 2595)), (917563, (.int 917563 2596)), (917564, (.int 917564 2597)), (917565, (.int 917565 2598)), (917566, (.int 917566 2599)), (917567, (.int 917567 2600)), (917568, (.int 917568 2601)), (917569, (.int 917569 2602)), (917570, (.int 917570 2603)), (917571, (.int 917571 2604)), (917572, (.int 917572 2605)), (917573, (.int 917573 2606)), (917574, (.int 917574 2607)), (917575, (.int 917575 2608)), (917576, (.int 917576 2609)), (917577, (.int 917577 2610)), (917578, (.int 917578 2611)), (917579, (.int 917579 2612)), (917580, (.int 917580 2613)), (917581, (.int 917581 2614)), (917582, (.int 917582 2615)), (917583, (.int 917583 2616)), (917584, (.int 917584 2617)), (917585, (.int 917585 2618)), (917586, (.int 917586 2619)), (917587, (.int 917587 2620)), (917588, (.int 917588 2621)), (917589, (.int 917589 2622)), (917590, (.int 917590 2623)), (917591, (.int 917591 2624)), (917592, (.int 917592 2625)), (917593, (.int 917593 2626)), (917594, (.int 917594 2627)), (917595, (.int 917595 2628)), (917596, (.int 917596 2629)), (917597, (.int 917597 2630)), (917598, (.int 917598 2631)), (917599, (.int 917599 2632)), (917600, (.int 917600 2633)), (917601, (.int 917601 2634)), (917602, (.int 917602 2635)), (917603, (.int 917603 2636)), (917604, (.int 917604 2637)), (917605, (.int 917605 2638)), (917606, (.int 917606 2639)), (917607, (.int 917607 2640)), (917608, (.int 917608 2641)), (917609, (.int 917609 2642)), (917610, (.int 917610 2643)), (917611, (.int 917611 2644)), (917612, (.int 917612 2645)), (917613, (.int 917613 2646)), (917614, (.int 917614 2647)), (917615, (.int 917615 2648)), (917616, (.int 917616 2649)), (917617, (.int 917617 2650)), (917618, (.int 917618 2651)), (917619, (.int 917619 2652)), (917620, (.int 917620 2653)), (917621, (.int 917621 2654)), (917622, (.int 917622 2655)), (917623, (.int 917623 2656)), (917624, (.int 917624 2657)), (917625, (.int 917625 2658)), (917626, (.int 917626 2659)), (917627, (.int 917627 2660)), (917628, (.int 917628 2661)), (917629, (.int 917629 2662))]⟩ 98 ⟨511, ⟨[1, 32, 33, 34, 35, 36, 37, 38, 39, 40, 41, 42, 43, 44, 45, 46, 47, 48, 49, 50, 51, 52, 53, 54, 55, 56, 57, 58, 59, 60, 61, 62, 63, 64, 65, 66, 67, 68, 69, 70, 71, 72, 73, 74, 75, 76, 77, 78, 79, 80, 81, 82, 83, 84, 85, 86, 87, 88, 89, 90, 91, 92, 93, 94, 95, 96, 97, 98, 99, 100, 101, 102, 103, 104, 105, 106, 107, 108, 109, 110, 111, 112, 113, 114, 115, 116, 117, 118, 119, 120, 121, 122, 123, 124, 125]⟩, ⟨[]⟩, 0, led, 3, true⟩), ⟨[]⟩⟩
noncomputable def o314 (P : Params) : Obj := ⟨(.type "list_iterator"), none, (.fields ⟨[(.ref 249), (.int 95 0)]⟩), ⟨[]⟩⟩
noncomputable def t1270 (P : Params) : BT := (.node (o7 P) (.node (o7 P) (.node (o150 P) .nil .nil) (.node (o229 P) .nil .nil)) (.node (o94 P) (.node (o198 P) .nil .nil) (.node (o314 P) .nil .nil)))
noncomputable def t1271 (P : Params) : BT := (.node (o26 P) (t887 P) (t1270 P))
noncomputable def t1272 (P : Params) : BT := (.node (o11 P) (t941 P) (t1271 P))
noncomputable def t1273 (P : Params) : BT := (.node (o247 P) (t994 P) (t1272 P))
noncomputable def t1274 (P : Params) : BT := (.node (o1 P) (t1273 P) (t1002 P))
noncomputable def t1275 (led : Bool) (P : Params) : BT := (.node (o50 P) (.node (o72 P) (.node (o148 P) .nil .nil) (.node (o228 P) .nil .nil)) (.node (o93 P) (.node (o197 P) .nil .nil) (.node (o313 led P) .nil .nil)))
noncomputable def t1276 (led : Bool) (P : Params) : BT := (.node (o25 P) (t900 P) (t1275 led P))
noncomputable def t1277 (led : Bool) (P : Params) : BT := (.node (o10 P) (t932 P) (t1276 led P))
noncomputable def t1278 (led : Bool) (P : Params) : BT := (.node (o6 P) (t1277 led P) (t1013 P))
noncomputable def t1279 (led : Bool) (P : Params) : BT := (.node (o2 P) (t1007 P) (t1278 led P))
noncomputable def t1280 (led : Bool) (P : Params) : BT := (.node (o0 P) (t1274 P) (t1279 led P))
noncomputable def S31c28 (led : Bool) (w : World) (os : OsState) : SharedT := let P := w.params; ⟨(t1280 led P), 252, life0, ⟨[]⟩, ⟨0, 0, 0, 0⟩, 2760, os⟩
noncomputable def th31c28 (led : Bool) (w : World) (os : OsState) : Thread := ⟨PySem.W.Fast.tw11892475500146522536 PySem.W.Fast.tw14364793385576792824 (.builtin "set.update.loop" ⟨[(.ref 250), (.ref 251)], []⟩), (.builtin "set.update.loop" ⟨[(.ref 250), (.ref 251)], []⟩), ⟨121, 9, 121, 52⟩, [.ret (kq (r31x5 led w os) 0) none false [] (.builtin "set.__init__" ⟨[(.ref 250), (.ref 249)], []⟩) ⟨121, 9, 121, 52⟩ [(.ref 250), (.ref 251)], .ret (kq (r31x5 led w os) 1) none false [(.ref 250), (.ref 250), (.ref 249)] (.builtin "type.__call__" ⟨[(.type "set"), (.ref 249)], []⟩) ⟨121, 9, 121, 52⟩ [(.builtin "set.__init__"), (.ref 250), (.ref 249), (.builtin "set.__init__"), (.ref 250), (.ref 249)], .ret (kq (r31x5 led w os) 2) none false [] cE ⟨121, 9, 121, 52⟩ [(.type "set"), (.ref 249)], topFrame qE]⟩
noncomputable def dl96 (P : Params) : List DictEntry := dl95 P ++ [⟨(PyData.keyHash P ⟨⟨[99, 57, 95, 115, 101, 116]⟩⟩), (.str ⟨⟨[99, 57, 95, 115, 101, 116]⟩⟩ 2762), (.ref 250)⟩]
noncomputable def o315 (P : Params) : Obj := ⟨(.type "dict"), none, (.dict ⟨dl96 P⟩ 38), ⟨[]⟩⟩
noncomputable def o316 (led : Bool) (P : Params) : Obj := ⟨(.type "set"), none, (.set ⟨[(917505, (.int 917505 2563)), (917536, (.int 917536 2569)), (917537, (.int 917537 2570)), (917538, (.int 917538 2571)), (917539, (.int 917539 2572)), (917540, (.int 917540 2573)), (917541, (.int 917541 2574)), (917542, (.int 917542 2575)), (917543, (.int 917543 2576)), (917544, (.int 917544 2577)), (917545, (.int 917545 2578)), (917546, (.int 917546 2579)), (917547, (.int 917547 2580)), (917548, (.int 917548 2581)), (917549, (.int 917549 2582)), (917550, (.int 917550 2583)), (917551, (.int 917551 2584)), (917552, (.int 917552 2585)), (917553, (.int 917553 2586)), (917554, (.int 917554 2587)), (917555, (.int 917555 2588)), (917556, (.int 917556 2589)), (917557, (.int 917557 2590)), (917558, (.int 917558 2591)), (917559, (.int 917559 2592)), (917560, (.int 917560 2593)), (917561, (.int 917561 2594)), (917562, (.int 917562 2595)), (917563, (.int 917563 2596)), (917564, (.int 917564 2597)), (917565, (.int 917565 2598)), (917566, (.int 917566 2599)), (917567, (.int 917567 2600)), (917568, (.int 917568 2601)), (917569, (.int 917569 2602)), (917570, (.int 917570 2603)), (917571, (.int 917571 2604)), (917572, (.int 917572 2605)), (917573, (.int 917573 2606)), (917574, (.int 917574 2607)), (917575, (.int 917575 2608)), (917576, (.int 917576 2609)), (917577, (.int 917577 2610)), (917578, (.int 917578 2611)), (917579, (.int 917579 2612)), (917580, (.int 917580 2613)), (917581, (.int 917581 2614)), (917582, (.int 917582 2615)), (917583, (.int 917583 2616)), (917584, (.int 917584 2617)), (917585, (.int 917585 2618)), (917586, (.int 917586 2619)), (917587, (.int 917587 2620)), (917588, (.int 917588 2621)), (917589, (.int 917589 2622)), (917590, (.int 917590 2623)), (917591, (.int 917591 2624)), (917592, (.int 917592 2625)), (917593, (.int 917593 2626)), (917594, (.int 917594 2627)), (917595, (.int 917595 2628)), (917596, (.int 917596 2629)), (917597, (.int 917597 2630)), (917598, (.int 917598 2631)), (917599, (.int 917599 2632)), (917600, (.int 917600 2633)), (917601, (.int 917601 2634)), (917602, (.int 917602 2635)), (917603, (.int 917603 2636)), (917604, (.int 917604 2637)), (917605, (.int 917605 2638)), (917606, (.int 917606 2639)), (917607, (.int 917607 2640)), (917608, (.int 917608 2641)), (917609, (.int 917609 2642)), (917610, (.int 917610 2643)), (917611, (.int 917611 2644)), (917612, (.int 917612 2645)), (917613, (.int 917613 2646)), (917614, (.int 917614 2647)), (917615, (.int 917615 2648)), (917616, (.int 917616 2649)), (917617, (.int 917617 2650)), (917618, (.int 917618 2651)), (917619, (.int 917619 2652)), (917620, (.int 917620 2653)), (917621, (.int 917621 2654)), (917622, (.int 917622 2655)), (917623, (.int 917623 2656)), (917624, (.int 917624 2657)), (917625, (.int 917625 2658)), (917626, (.int 917626 2659)), (917627, (.int 917627 2660)), (917628, (.int 917628 2661)), (917629, (.int 917629 2662)), (917630, (.int 917630 2663)), (917631, (.int 917631 2664))]⟩ 100 ⟨511, ⟨[1, 32, 33, 34, 35, 36, 37, 38, 39, 40, 41, 42, 43, 44, 45, 46, 47, 48, 49, 50, 51, 52, 53, 54, 55, 56, 57, 58, 59, 60, 61, 62, 63, 64, 65, 66, 67, 68, 69, 70, 71, 72, 73, 74, 75, 76, 77, 78, 79, 80, 81, 82, 83, 84, 85, 86, 87, 88, 89, 90, 91, 92, 93, 94, 95, 96, 97, 98, 99, 100, 101, 102, 103, 104, 105, 106, 107, 108, 109, 110, 111, 112, 113, 114, 115, 116, 117, 118, 119, 120, 121, 122, 123, 124, 125, 126, 127]⟩, ⟨[]⟩, 0, led, 3, true⟩), ⟨[]⟩⟩
noncomputable def o317 (P : Params) : Obj := ⟨(.type "list_iterator"), none, (.fields ⟨[.none, (.int 97 0)]⟩), ⟨[]⟩⟩
noncomputable def o318 (P : Params) : Obj := ⟨(.type "StopIteration"), none, (.fields ⟨[(.ref 252), .none, .none, .none, (.bool false), .none]⟩), ⟨[]⟩⟩
noncomputable def t1281 (P : Params) : BT := (.node (o7 P) (.node (o7 P) (.node (o150 P) .nil .nil) (.node (o229 P) .nil .nil)) (.node (o94 P) (.node (o198 P) .nil .nil) (.node (o317 P) .nil .nil)))
noncomputable def t1282 (P : Params) : BT := (.node (o26 P) (t887 P) (t1281 P))
noncomputable def t1283 (P : Params) : BT := (.node (o11 P) (t941 P) (t1282 P))
noncomputable def t1284 (P : Params) : BT := (.node (o315 P) (t994 P) (t1283 P))
noncomputable def t1285 (P : Params) : BT := (.node (o52 P) (.node (o74 P) (.node (o154 P) .nil .nil) (.node (o231 P) .nil .nil)) (.node (o102 P) (.node (o8 P) .nil .nil) (.node (o318 P) .nil .nil)))
noncomputable def t1286 (P : Params) : BT := (.node (o248 P) (t919 P) (t1285 P))
noncomputable def t1287 (P : Params) : BT := (.node (o13 P) (t1000 P) (t1286 P))
noncomputable def t1288 (P : Params) : BT := (.node (o5 P) (t998 P) (t1287 P))
noncomputable def t1289 (P : Params) : BT := (.node (o1 P) (t1284 P) (t1288 P))
noncomputable def t1290 (P : Params) : BT := (.node (o51 P) (.node (o73 P) (.node (o152 P) .nil .nil) (.node (o230 P) .nil .nil)) (.node (o104 P) (.node (o7 P) .nil .nil) (.node (o7 P) .nil .nil)))
noncomputable def t1291 (P : Params) : BT := (.node (o7 P) (t927 P) (t1290 P))
noncomputable def t1292 (P : Params) : BT := (.node (o12 P) (t950 P) (t1291 P))
noncomputable def t1293 (P : Params) : BT := (.node (o4 P) (t1006 P) (t1292 P))
noncomputable def t1294 (led : Bool) (P : Params) : BT := (.node (o50 P) (.node (o72 P) (.node (o148 P) .nil .nil) (.node (o228 P) .nil .nil)) (.node (o93 P) (.node (o197 P) .nil .nil) (.node (o316 led P) .nil .nil)))
noncomputable def t1295 (led : Bool) (P : Params) : BT := (.node (o25 P) (t900 P) (t1294 led P))
noncomputable def t1296 (led : Bool) (P : Params) : BT := (.node (o10 P) (t932 P) (t1295 led P))
noncomputable def t1297 (led : Bool) (P : Params) : BT := (.node (o6 P) (t1296 led P) (t1013 P))
noncomputable def t1298 (led : Bool) (P : Params) : BT := (.node (o2 P) (t1293 P) (t1297 led P))
noncomputable def t1299 (led : Bool) (P : Params) : BT := (.node (o0 P) (t1289 P) (t1298 led P))
noncomputable def S32L (led : Bool) (w : World) (os : OsState) : SharedT := let P := w.params; ⟨(t1299 led P), 254, life0, ⟨[]⟩, ⟨0, 0, 0, 0⟩, 2763, os⟩
noncomputable def o319 (P : Params) : Obj := ⟨(.type "set"), none, (.set ⟨[(917505, (.int 917505 2563)), (917536, (.int 917536 2569)), (917537, (.int 917537 2570)), (917538, (.int 917538 2571)), (917539, (.int 917539 2572)), (917540, (.int 917540 2573)), (917541, (.int 917541 2574)), (917542, (.int 917542 2575)), (917543, (.int 917543 2576)), (917544, (.int 917544 2577)), (917545, (.int 917545 2578)), (917546, (.int 917546 2579)), (917547, (.int 917547 2580)), (917548, (.int 917548 2581)), (917549, (.int 917549 2582)), (917550, (.int 917550 2583)), (917551, (.int 917551 2584)), (917552, (.int 917552 2585)), (917553, (.int 917553 2586)), (917554, (.int 917554 2587)), (917555, (.int 917555 2588)), (917556, (.int 917556 2589)), (917557, (.int 917557 2590)), (917558, (.int 917558 2591)), (917559, (.int 917559 2592)), (917560, (.int 917560 2593)), (917561, (.int 917561 2594)), (917562, (.int 917562 2595)), (917563, (.int 917563 2596)), (917564, (.int 917564 2597)), (917565, (.int 917565 2598)), (917566, (.int 917566 2599)), (917567, (.int 917567 2600)), (917568, (.int 917568 2601)), (917569, (.int 917569 2602)), (917570, (.int 917570 2603)), (917571, (.int 917571 2604)), (917572, (.int 917572 2605)), (917573, (.int 917573 2606)), (917574, (.int 917574 2607)), (917575, (.int 917575 2608)), (917576, (.int 917576 2609)), (917577, (.int 917577 2610)), (917578, (.int 917578 2611)), (917579, (.int 917579 2612)), (917580, (.int 917580 2613)), (917581, (.int 917581 2614)), (917582, (.int 917582 2615)), (917583, (.int 917583 2616)), (917584, (.int 917584 2617)), (917585, (.int 917585 2618)), (917586, (.int 917586 2619)), (917587, (.int 917587 2620)), (917588, (.int 917588 2621)), (917589, (.int 917589 2622)), (917590, (.int 917590 2623)), (917591, (.int 917591 2624)), (917592, (.int 917592 2625)), (917593, (.int 917593 2626)), (917594, (.int 917594 2627)), (917595, (.int 917595 2628)), (917596, (.int 917596 2629)), (917597, (.int 917597 2630)), (917598, (.int 917598 2631)), (917599, (.int 917599 2632)), (917600, (.int 917600 2633)), (917601, (.int 917601 2634)), (917602, (.int 917602 2635)), (917603, (.int 917603 2636)), (917604, (.int 917604 2637)), (917605, (.int 917605 2638)), (917606, (.int 917606 2639)), (917607, (.int 917607 2640)), (917608, (.int 917608 2641)), (917609, (.int 917609 2642)), (917610, (.int 917610 2643)), (917611, (.int 917611 2644)), (917612, (.int 917612 2645)), (917613, (.int 917613 2646)), (917614, (.int 917614 2647)), (917615, (.int 917615 2648)), (917616, (.int 917616 2649)), (917617, (.int 917617 2650)), (917618, (.int 917618 2651)), (917619, (.int 917619 2652)), (917620, (.int 917620 2653)), (917621, (.int 917621 2654)), (917622, (.int 917622 2655)), (917623, (.int 917623 2656)), (917624, (.int 917624 2657)), (917625, (.int 917625 2658)), (917626, (.int 917626 2659)), (917627, (.int 917627 2660)), (917628, (.int 917628 2661)), (917629, (.int 917629 2662)), (917630, (.int 917630 2663)), (917631, (.int 917631 2664))]⟩ 100 ⟨511, ⟨[1, 32, 33, 34, 35, 36, 37, 38, 39, 40, 41, 42, 43, 44, 45, 46, 47, 48, 49, 50, 51, 52, 53, 54, 55, 56, 57, 58, 59, 60, 61, 62, 63, 64, 65, 66, 67, 68, 69, 70, 71, 72, 73, 74, 75, 76, 77, 78, 79, 80, 81, 82, 83, 84, 85, 86, 87, 88, 89, 90, 91, 92, 93, 94, 95, 96, 97, 98, 99, 100, 101, 102, 103, 104, 105, 106, 107, 108, 109, 110, 111, 112, 113, 114, 115, 116, 117, 118, 119, 120, 121, 122, 123, 124, 125, 126, 127]⟩, ⟨[]⟩, 0, (!P.followText "set-order"), 3, true⟩), ⟨[]⟩⟩
noncomputable def t1300 (P : Params) : BT := (.node (o50 P) (.node (o72 P) (.node (o148 P) .nil .nil) (.node (o228 P) .nil .nil)) (.node (o93 P) (.node (o197 P) .nil .nil) (.node (o319 P) .nil .nil)))
noncomputable def t1301 (P : Params) : BT := (.node (o25 P) (t900 P) (t1300 P))
noncomputable def t1302 (P : Params) : BT := (.node (o10 P) (t932 P) (t1301 P))
noncomputable def t1303 (P : Params) : BT := (.node (o6 P) (t1302 P) (t1013 P))
noncomputable def t1304 (P : Params) : BT := (.node (o2 P) (t1293 P) (t1303 P))
noncomputable def t1305 (P : Params) : BT := (.node (o0 P) (t1289 P) (t1304 P))
noncomputable def S32 (w : World) (os : OsState) : SharedT := let P := w.params; ⟨(t1305 P), 254, life0, ⟨[]⟩, ⟨0, 0, 0, 0⟩, 2763, os⟩
noncomputable def dl97 (P : Params) : List DictEntry := [⟨(PyData.keyHash P ⟨⟨[95, 95, 110, 97, 109, 101, 95, 95]⟩⟩), (.str ⟨⟨[95, 95, 110, 97, 109, 101, 95, 95]⟩⟩ 165), (.str ⟨⟨[108, 97, 119, 95, 112, 97, 48, 48, 49, 55, 95, 48, 49]⟩⟩ 2770)⟩, ⟨(PyData.keyHash P ⟨⟨[95, 95, 100, 111, 99, 95, 95]⟩⟩), (.str ⟨⟨[95, 95, 100, 111, 99, 95, 95]⟩⟩ 166), .none⟩, ⟨(PyData.keyHash P ⟨⟨[95, 95, 112, 97, 99, 107, 97, 103, 101, 95, 95]⟩⟩), (.str ⟨⟨[95, 95, 112, 97, 99, 107, 97, 103, 101, 95, 95]⟩⟩ 167), .none⟩, ⟨(PyData.keyHash P ⟨⟨[95, 95, 108, 111, 97, 100, 101, 114, 95, 95]⟩⟩), (.str ⟨⟨[95, 95, 108, 111, 97, 100, 101, 114, 95, 95]⟩⟩ 168), (.builtin "__main__.__loader__#opaque")⟩, ⟨(PyData.keyHash P ⟨⟨[95, 95, 115, 112, 101, 99, 95, 95]⟩⟩), (.str ⟨⟨[95, 95, 115, 112, 101, 99, 95, 95]⟩⟩ 169), .none⟩, ⟨(PyData.keyHash P ⟨⟨[95, 95, 97, 110, 110, 111, 116, 97, 116, 105, 111, 110, 115, 95, 95]⟩⟩), (.str ⟨⟨[95, 95, 97, 110, 110, 111, 116, 97, 116, 105, 111, 110, 115, 95, 95]⟩⟩ 170), (.ref 6)⟩, ⟨(PyData.keyHash P ⟨⟨[95, 95, 98, 117, 105, 108, 116, 105, 110, 115, 95, 95]⟩⟩), (.str ⟨⟨[95, 95, 98, 117, 105, 108, 116, 105, 110, 115, 95, 95]⟩⟩ 171), (.ref 4)⟩, ⟨(PyData.keyHash P ⟨⟨[95, 95, 102, 105, 108, 101, 95, 95]⟩⟩), (.str ⟨⟨[95, 95, 102, 105, 108, 101, 95, 95]⟩⟩ 173), (.str ⟨⟨[47, 99, 108, 97, 105, 109, 47, 99, 117, 116, 46, 112, 121]⟩⟩ 172)⟩, ⟨(PyData.keyHash P ⟨⟨[95, 95, 99, 97, 99, 104, 101, 100, 95, 95]⟩⟩), (.str ⟨⟨[95, 95, 99, 97, 99, 104, 101, 100, 95, 95]⟩⟩ 174), .none⟩, ⟨(PyData.keyHash P ⟨⟨[95, 115, 114, 101]⟩⟩), (.str ⟨⟨[95, 115, 114, 101]⟩⟩ 275), (.ref 12)⟩, ⟨(PyData.keyHash P ⟨⟨[95, 119, 97, 108, 108]⟩⟩), (.str ⟨⟨[95, 119, 97, 108, 108]⟩⟩ 288), (.ref 38)⟩, ⟨(PyData.keyHash P ⟨⟨[95, 116, 119, 105, 110, 95, 114, 101, 95, 49]⟩⟩), (.str ⟨⟨[95, 116, 119, 105, 110, 95, 114, 101, 95, 49]⟩⟩ 320), (.ref 43)⟩, ⟨(PyData.keyHash P ⟨⟨[98, 121, 116, 101, 115, 95, 116, 121, 112, 101, 115]⟩⟩), (.str ⟨⟨[98, 121, 116, 101, 115, 95, 116, 121, 112, 101, 115]⟩⟩ 321), (.ref 44)⟩, ⟨(PyData.keyHash P ⟨⟨[95, 98, 121, 116, 101, 115, 95, 102, 114, 111, 109, 95, 100, 101, 99, 111, 100, 101, 95, 100, 97, 116, 97]⟩⟩), (.str ⟨⟨[95, 98, 121, 116, 101, 115, 95, 102, 114, 111, 109, 95, 100, 101, 99, 111, 100, 101, 95, 100, 97, 116, 97]⟩⟩ 328), (.ref 51)⟩, ⟨(PyData.keyHash P ⟨⟨[69, 114, 114, 111, 114]⟩⟩), (.str ⟨⟨[69, 114, 114, 111, 114]⟩⟩ 348), (.ref 61)⟩, ⟨(PyData.keyHash P ⟨⟨[95, 97, 115, 99, 105, 105, 95, 98, 117, 102, 102, 101, 114]⟩⟩), (.str ⟨⟨[95, 97, 115, 99, 105, 105, 95, 98, 117, 102, 102, 101, 114]⟩⟩ 356), (.ref 71)⟩, ⟨(PyData.keyHash P ⟨⟨[95, 98, 117, 102, 102, 101, 114]⟩⟩), (.str ⟨⟨[95, 98, 117, 102, 102, 101, 114]⟩⟩ 364), (.ref 78)⟩, ⟨(PyData.keyHash P ⟨⟨[95, 78, 79, 95, 83, 69, 80]⟩⟩), (.str ⟨⟨[95, 78, 79, 95, 83, 69, 80]⟩⟩ 365), (.ref 79)⟩, ⟨(PyData.keyHash P ⟨⟨[98, 50, 97, 95, 104, 101, 120]⟩⟩), (.str ⟨⟨[98, 50, 97, 95, 104, 101, 120]⟩⟩ 376), (.ref 87)⟩, ⟨(PyData.keyHash P ⟨⟨[104, 101, 120, 108, 105, 102, 121]⟩⟩), (.str ⟨⟨[104, 101, 120, 108, 105, 102, 121]⟩⟩ 377), (.ref 87)⟩, ⟨(PyData.keyHash P ⟨⟨[95, 104, 101, 120, 95, 118, 97, 108, 117, 101]⟩⟩), (.str ⟨⟨[95, 104, 101, 120, 95, 118, 97, 108, 117, 101]⟩⟩ 384), (.ref 94)⟩, ⟨(PyData.keyHash P ⟨⟨[97, 50, 98, 95, 104, 101, 120]⟩⟩), (.str ⟨⟨[97, 50, 98, 95, 104, 101, 120]⟩⟩ 397), (.ref 101)⟩, ⟨(PyData.keyHash P ⟨⟨[117, 110, 104, 101, 120, 108, 105, 102, 121]⟩⟩), (.str ⟨⟨[117, 110, 104, 101, 120, 108, 105, 102, 121]⟩⟩ 398), (.ref 101)⟩, ⟨(PyData.keyHash P ⟨⟨[98, 49, 54, 101, 110, 99, 111, 100, 101]⟩⟩), (.str ⟨⟨[98, 49, 54, 101, 110, 99, 111, 100, 101]⟩⟩ 407), (.ref 108)⟩, ⟨(PyData.keyHash P ⟨⟨[98, 49, 54, 100, 101, 99, 111, 100, 101]⟩⟩), (.str ⟨⟨[98, 49, 54, 100, 101, 99, 111, 100, 101]⟩⟩ 415), (.ref 116)⟩, ⟨(PyData.keyHash P ⟨⟨[98, 49, 95, 115, 101, 116]⟩⟩), (.str ⟨⟨[98, 49, 95, 115, 101, 116]⟩⟩ 477), (.ref 124)⟩, ⟨(PyData.keyHash P ⟨⟨[105, 110, 95, 116, 97, 98, 108, 101, 95, 98, 49]⟩⟩), (.str ⟨⟨[105, 110, 95, 116, 97, 98, 108, 101, 95, 98, 49]⟩⟩ 484), (.ref 134)⟩, ⟨(PyData.keyHash P ⟨⟨[98, 51, 95, 101, 120, 99, 101, 112, 116, 105, 111, 110, 115]⟩⟩), (.str ⟨⟨[98, 51, 95, 101, 120, 99, 101, 112, 116, 105, 111, 110, 115]⟩⟩ 2435), (.ref 135)⟩, ⟨(PyData.keyHash P ⟨⟨[109, 97, 112, 95, 116, 97, 98, 108, 101, 95, 98, 51]⟩⟩), (.str ⟨⟨[109, 97, 112, 95, 116, 97, 98, 108, 101, 95, 98, 51]⟩⟩ 2443), (.ref 180)⟩, ⟨(PyData.keyHash P ⟨⟨[105, 110, 95, 116, 97, 98, 108, 101, 95, 99, 49, 49]⟩⟩), (.str ⟨⟨[105, 110, 95, 116, 97, 98, 108, 101, 95, 99, 49, 49]⟩⟩ 2450), (.ref 187)⟩, ⟨(PyData.keyHash P ⟨⟨[105, 110, 95, 116, 97, 98, 108, 101, 95, 99, 52]⟩⟩), (.str ⟨⟨[105, 110, 95, 116, 97, 98, 108, 101, 95, 99, 52]⟩⟩ 2458), (.ref 194)⟩, ⟨(PyData.keyHash P ⟨⟨[99, 54, 95, 115, 101, 116]⟩⟩), (.str ⟨⟨[99, 54, 95, 115, 101, 116]⟩⟩ 2472), (.ref 196)⟩, ⟨(PyData.keyHash P ⟨⟨[105, 110, 95, 116, 97, 98, 108, 101, 95, 99, 54]⟩⟩), (.str ⟨⟨[105, 110, 95, 116, 97, 98, 108, 101, 95, 99, 54]⟩⟩ 2479), (.ref 206)⟩, ⟨(PyData.keyHash P ⟨⟨[99, 55, 95, 115, 101, 116]⟩⟩), (.str ⟨⟨[99, 55, 95, 115, 101, 116]⟩⟩ 2507), (.ref 208)⟩, ⟨(PyData.keyHash P ⟨⟨[105, 110, 95, 116, 97, 98, 108, 101, 95, 99, 55]⟩⟩), (.str ⟨⟨[105, 110, 95, 116, 97, 98, 108, 101, 95, 99, 55]⟩⟩ 2514), (.ref 218)⟩, ⟨(PyData.keyHash P ⟨⟨[99, 56, 95, 115, 101, 116]⟩⟩), (.str ⟨⟨[99, 56, 95, 115, 101, 116]⟩⟩ 2555), (.ref 232)⟩, ⟨(PyData.keyHash P ⟨⟨[105, 110, 95, 116, 97, 98, 108, 101, 95, 99, 56]⟩⟩), (.str ⟨⟨[105, 110, 95, 116, 97, 98, 108, 101, 95, 99, 56]⟩⟩ 2562), (.ref 242)⟩, ⟨(PyData.keyHash P ⟨⟨[99, 57, 95, 115, 101, 116]⟩⟩), (.str ⟨⟨[99, 57, 95, 115, 101, 116]⟩⟩ 2762), (.ref 250)⟩, ⟨(PyData.keyHash P ⟨⟨[105, 110, 95, 116, 97, 98, 108, 101, 95, 99, 57]⟩⟩), (.str ⟨⟨[105, 110, 95, 116, 97, 98, 108, 101, 95, 99, 57]⟩⟩ 2769), (.ref 260)⟩, ⟨(PyData.keyHash P ⟨⟨[95, 108, 97, 119, 95, 101, 110, 100, 115]⟩⟩), (.str ⟨⟨[95, 108, 97, 119, 95, 101, 110, 100, 115]⟩⟩ 2777), (.ref 267)⟩, ⟨(PyData.keyHash P ⟨⟨[95, 108, 97, 119, 95, 99, 111, 100, 101]⟩⟩), (.str ⟨⟨[95, 108, 97, 119, 95, 99, 111, 100, 101]⟩⟩ 2787), (.ref 274)⟩, ⟨(PyData.keyHash P ⟨⟨[95, 108, 97, 119, 95, 108, 105, 101, 115]⟩⟩), (.str ⟨⟨[95, 108, 97, 119, 95, 108, 105, 101, 115]⟩⟩ 2793), (.ref 279)⟩, ⟨(PyData.keyHash P ⟨⟨[95, 108, 97, 119, 95, 104, 101, 108, 100]⟩⟩), (.str ⟨⟨[95, 108, 97, 119, 95, 104, 101, 108, 100]⟩⟩ 2800), (.ref 286)⟩, ⟨(PyData.keyHash P ⟨⟨[95, 108, 97, 119, 95, 115, 104, 105, 101, 108, 100, 101, 100]⟩⟩), (.str ⟨⟨[95, 108, 97, 119, 95, 115, 104, 105, 101, 108, 100, 101, 100]⟩⟩ 2806), (.ref 291)⟩, ⟨(PyData.keyHash P ⟨⟨[95, 108, 97, 119, 95, 102, 105, 103, 117, 114, 101, 115]⟩⟩), (.str ⟨⟨[95, 108, 97, 119, 95, 102, 105, 103, 117, 114, 101, 115]⟩⟩ 2812), (.ref 296)⟩, ⟨(PyData.keyHash P ⟨⟨[95, 108, 97, 119, 95, 102, 111, 108, 100]⟩⟩), (.str ⟨⟨[95, 108, 97, 119, 95, 102, 111, 108, 100]⟩⟩ 2820), (.ref 303)⟩, ⟨(PyData.keyHash P ⟨⟨[95, 108, 97, 119, 95, 112, 114, 101, 112, 97, 114, 101, 100]⟩⟩), (.str ⟨⟨[95, 108, 97, 119, 95, 112, 114, 101, 112, 97, 114, 101, 100]⟩⟩ 2826), (.ref 308)⟩, ⟨(PyData.keyHash P ⟨⟨[95, 108, 97, 119, 95, 98, 97, 99, 107]⟩⟩), (.str ⟨⟨[95, 108, 97, 119, 95, 98, 97, 99, 107]⟩⟩ 2837), (.ref 315)⟩, ⟨(PyData.keyHash P ⟨⟨[108, 97, 119]⟩⟩), (.str ⟨⟨[108, 97, 119]⟩⟩ 2843), (.ref 320)⟩]
noncomputable def o320 (P : Params) : Obj := ⟨(.type "dict"), none, (.dict ⟨dl97 P⟩ 49), ⟨[]⟩⟩
noncomputable def o321 (P : Params) : Obj := ⟨.none, none, (.fields ⟨[(.int 2 0), (.int 0 0), (.ref 37), (.int 8 0), (.int 0 0), (.ref 50), (.int 21 0), (.int 0 0), (.ref 57), (.int 23 0), (.int 0 0), (.ref 70), (.int 34 0), (.int 0 0), (.ref 77), (.int 42 0), (.int 0 0), (.ref 86), (.int 59 0), (.int 0 0), (.ref 93), (.int 67 0), (.int 0 0), (.ref 100), (.int 84 0), (.int 0 0), (.ref 107), (.int 86 0), (.int 0 0), (.ref 115), (.int 95 0), (.int 0 0), (.ref 133), (.int 98 0), (.int 0 0), (.ref 179), (.int 103 0), (.int 0 0), (.ref 186), (.int 105 0), (.int 0 0), (.ref 193), (.int 113 0), (.int 0 0), (.ref 205), (.int 116 0), (.int 0 0), (.ref 217), (.int 119 0), (.int 0 0), (.ref 241), (.int 122 0), (.int 0 0), (.ref 259), (.int 125 0), (.int 0 0), (.ref 266), (.int 127 0), (.int 0 0), (.ref 273), (.int 137 0), (.int 0 0), (.ref 278), (.int 142 0), (.int 0 0), (.ref 285), (.int 146 0), (.int 0 0), (.ref 290), (.int 151 0), (.int 0 0), (.ref 295), (.int 153 0), (.int 0 0), (.ref 302), (.int 159 0), (.int 0 0), (.ref 307), (.int 161 0), (.int 0 0), (.ref 314), (.int 172 0), (.int 0 0), (.ref 319)]⟩), ⟨[]⟩⟩
noncomputable def o322 (P : Params) : Obj := ⟨(.type "tuple"), none, (.seq ⟨[(.str ⟨⟨[99, 111, 100, 101]⟩⟩ 2766)]⟩ 0), ⟨[]⟩⟩
noncomputable def o323 (P : Params) : Obj := ⟨.none, none, (fnD 32 ⟨⟨[105, 110, 95, 116, 97, 98, 108, 101, 95, 99, 57]⟩⟩ ⟨⟨[105, 110, 95, 116, 97, 98, 108, 101, 95, 99, 57]⟩⟩ [] .none .none .none .none none .none .none 0 0), ⟨[]⟩⟩
noncomputable def o324 (P : Params) : Obj := ⟨(.type "code"), none, (.fields ⟨[(.str ⟨⟨[105, 110, 95, 116, 97, 98, 108, 101, 95, 99, 57]⟩⟩ 2763), (.str ⟨⟨[105, 110, 95, 116, 97, 98, 108, 101, 95, 99, 57]⟩⟩ 2764), (.str ⟨⟨[47, 99, 108, 97, 105, 109, 47, 99, 117, 116, 46, 112, 121]⟩⟩ 2765), (.int 122 0), (.int 1 0), (.int 0 0), (.int 0 0), (.int 3 0), (.ref 254), (.bool true), (.int 276 0), (.ref 255), .none, (.ref 256), (.ref 257), (.ref 258), (.int 2767 0), (.int 122 0), (.str ⟨⟨[47, 99, 108, 97, 105, 109, 47, 99, 117, 116, 46, 112, 121]⟩⟩ 2768)]⟩), ⟨[]⟩⟩
noncomputable def o325 (P : Params) : Obj := ⟨(.type "function"), none, (fnD 32 ⟨⟨[105, 110, 95, 116, 97, 98, 108, 101, 95, 99, 57]⟩⟩ ⟨⟨[105, 110, 95, 116, 97, 98, 108, 101, 95, 99, 57]⟩⟩ [] .none .none .none (.str ⟨⟨[99, 112, 121, 51, 49, 51, 46, 115, 116, 114, 105, 110, 103, 112, 114, 101, 112]⟩⟩ 416) none (.ref 259) .none 3 0), ⟨[]⟩⟩
noncomputable def o326 (P : Params) : Obj := ⟨.none, none, (fnD 34 ⟨⟨[95, 108, 97, 119, 95, 101, 110, 100, 115]⟩⟩ ⟨⟨[95, 108, 97, 119, 95, 101, 110, 100, 115]⟩⟩ [] .none .none .none .none none .none .none 0 0), ⟨[]⟩⟩
noncomputable def o327 (P : Params) : Obj := ⟨(.type "code"), none, (.fields ⟨[(.str ⟨⟨[95, 108, 97, 119, 95, 101, 110, 100, 115]⟩⟩ 2772), (.str ⟨⟨[95, 108, 97, 119, 95, 101, 110, 100, 115]⟩⟩ 2773), (.str ⟨⟨[47, 99, 108, 97, 105, 109, 47, 99, 117, 116, 46, 112, 121]⟩⟩ 2774), (.int 125 0), (.int 0 0), (.int 0 0), (.int 0 0), (.int 3 0), (.ref 261), (.bool true), (.int 276 0), (.ref 262), .none, (.ref 263), (.ref 264), (.ref 265), (.int 2775 0), (.int 125 0), (.str ⟨⟨[47, 99, 108, 97, 105, 109, 47, 99, 117, 116, 46, 112, 121]⟩⟩ 2776)]⟩), ⟨[]⟩⟩
noncomputable def o328 (P : Params) : Obj := ⟨(.type "function"), none, (fnD 34 ⟨⟨[95, 108, 97, 119, 95, 101, 110, 100, 115]⟩⟩ ⟨⟨[95, 108, 97, 119, 95, 101, 110, 100, 115]⟩⟩ [] .none .none .none (.str ⟨⟨[108, 97, 119, 95, 112, 97, 48, 48, 49, 55, 95, 48, 49]⟩⟩ 2770) none (.ref 266) .none 3 0), ⟨[]⟩⟩
noncomputable def o329 (P : Params) : Obj := ⟨(.type "tuple"), none, (.seq ⟨[(.str ⟨⟨[110, 117, 109, 98, 101, 114]⟩⟩ 2781), (.str ⟨⟨[107, 105, 110, 100]⟩⟩ 2782), (.str ⟨⟨[114, 101, 115, 116]⟩⟩ 2783), (.str ⟨⟨[99, 111, 100, 101]⟩⟩ 2784)]⟩ 0), ⟨[]⟩⟩
noncomputable def o330 (P : Params) : Obj := ⟨.none, none, (fnD 35 ⟨⟨[95, 108, 97, 119, 95, 99, 111, 100, 101]⟩⟩ ⟨⟨[95, 108, 97, 119, 95, 99, 111, 100, 101]⟩⟩ [] .none .none .none .none none .none .none 0 0), ⟨[]⟩⟩
noncomputable def o331 (P : Params) : Obj := ⟨(.type "code"), none, (.fields ⟨[(.str ⟨⟨[95, 108, 97, 119, 95, 99, 111, 100, 101]⟩⟩ 2778), (.str ⟨⟨[95, 108, 97, 119, 95, 99, 111, 100, 101]⟩⟩ 2779), (.str ⟨⟨[47, 99, 108, 97, 105, 109, 47, 99, 117, 116, 46, 112, 121]⟩⟩ 2780), (.int 127 0), (.int 1 0), (.int 0 0), (.int 0 0), (.int 3 0), (.ref 268), (.bool true), (.int 276 0), (.ref 269), .none, (.ref 270), (.ref 271), (.ref 272), (.int 2785 0), (.int 127 0), (.str ⟨⟨[47, 99, 108, 97, 105, 109, 47, 99, 117, 116, 46, 112, 121]⟩⟩ 2786)]⟩), ⟨[]⟩⟩
noncomputable def o332 (P : Params) : Obj := ⟨(.type "function"), none, (fnD 35 ⟨⟨[95, 108, 97, 119, 95, 99, 111, 100, 101]⟩⟩ ⟨⟨[95, 108, 97, 119, 95, 99, 111, 100, 101]⟩⟩ [] .none .none .none (.str ⟨⟨[108, 97, 119, 95, 112, 97, 48, 48, 49, 55, 95, 48, 49]⟩⟩ 2770) none (.ref 273) .none 3 0), ⟨[]⟩⟩
noncomputable def o333 (P : Params) : Obj := ⟨.none, none, (fnD 36 ⟨⟨[95, 108, 97, 119, 95, 108, 105, 101, 115]⟩⟩ ⟨⟨[95, 108, 97, 119, 95, 108, 105, 101, 115]⟩⟩ [] .none .none .none .none none .none .none 0 0), ⟨[]⟩⟩
noncomputable def o334 (P : Params) : Obj := ⟨(.type "code"), none, (.fields ⟨[(.str ⟨⟨[95, 108, 97, 119, 95, 108, 105, 101, 115]⟩⟩ 2788), (.str ⟨⟨[95, 108, 97, 119, 95, 108, 105, 101, 115]⟩⟩ 2789), (.str ⟨⟨[47, 99, 108, 97, 105, 109, 47, 99, 117, 116, 46, 112, 121]⟩⟩ 2790), (.int 137 0), (.int 1 0), (.int 0 0), (.int 0 0), (.int 3 0), (.ref 275), (.bool true), (.int 276 0), (.ref 276), .none, .none, .none, (.ref 277), (.int 2791 0), (.int 137 0), (.str ⟨⟨[47, 99, 108, 97, 105, 109, 47, 99, 117, 116, 46, 112, 121]⟩⟩ 2792)]⟩), ⟨[]⟩⟩
noncomputable def o335 (P : Params) : Obj := ⟨(.type "function"), none, (fnD 36 ⟨⟨[95, 108, 97, 119, 95, 108, 105, 101, 115]⟩⟩ ⟨⟨[95, 108, 97, 119, 95, 108, 105, 101, 115]⟩⟩ [] .none .none .none (.str ⟨⟨[108, 97, 119, 95, 112, 97, 48, 48, 49, 55, 95, 48, 49]⟩⟩ 2770) none (.ref 278) .none 3 0), ⟨[]⟩⟩
noncomputable def o336 (P : Params) : Obj := ⟨(.type "tuple"), none, (.seq ⟨[(.str ⟨⟨[115, 105, 103, 110]⟩⟩ 2797)]⟩ 0), ⟨[]⟩⟩
noncomputable def o337 (P : Params) : Obj := ⟨.none, none, (fnD 37 ⟨⟨[95, 108, 97, 119, 95, 104, 101, 108, 100]⟩⟩ ⟨⟨[95, 108, 97, 119, 95, 104, 101, 108, 100]⟩⟩ [] .none .none .none .none none .none .none 0 0), ⟨[]⟩⟩
noncomputable def o338 (P : Params) : Obj := ⟨(.type "code"), none, (.fields ⟨[(.str ⟨⟨[95, 108, 97, 119, 95, 104, 101, 108, 100]⟩⟩ 2794), (.str ⟨⟨[95, 108, 97, 119, 95, 104, 101, 108, 100]⟩⟩ 2795), (.str ⟨⟨[47, 99, 108, 97, 105, 109, 47, 99, 117, 116, 46, 112, 121]⟩⟩ 2796), (.int 142 0), (.int 1 0), (.int 0 0), (.int 0 0), (.int 3 0), (.ref 280), (.bool true), (.int 276 0), (.ref 281), .none, (.ref 282), (.ref 283), (.ref 284), (.int 2798 0), (.int 142 0), (.str ⟨⟨[47, 99, 108, 97, 105, 109, 47, 99, 117, 116, 46, 112, 121]⟩⟩ 2799)]⟩), ⟨[]⟩⟩
noncomputable def o339 (P : Params) : Obj := ⟨(.type "function"), none, (fnD 37 ⟨⟨[95, 108, 97, 119, 95, 104, 101, 108, 100]⟩⟩ ⟨⟨[95, 108, 97, 119, 95, 104, 101, 108, 100]⟩⟩ [] .none .none .none (.str ⟨⟨[108, 97, 119, 95, 112, 97, 48, 48, 49, 55, 95, 48, 49]⟩⟩ 2770) none (.ref 285) .none 3 0), ⟨[]⟩⟩
noncomputable def o340 (P : Params) : Obj := ⟨.none, none, (fnD 38 ⟨⟨[95, 108, 97, 119, 95, 115, 104, 105, 101, 108, 100, 101, 100]⟩⟩ ⟨⟨[95, 108, 97, 119, 95, 115, 104, 105, 101, 108, 100, 101, 100]⟩⟩ [] .none .none .none .none none .none .none 0 0), ⟨[]⟩⟩
noncomputable def o341 (P : Params) : Obj := ⟨(.type "code"), none, (.fields ⟨[(.str ⟨⟨[95, 108, 97, 119, 95, 115, 104, 105, 101, 108, 100, 101, 100]⟩⟩ 2801), (.str ⟨⟨[95, 108, 97, 119, 95, 115, 104, 105, 101, 108, 100, 101, 100]⟩⟩ 2802), (.str ⟨⟨[47, 99, 108, 97, 105, 109, 47, 99, 117, 116, 46, 112, 121]⟩⟩ 2803), (.int 146 0), (.int 1 0), (.int 0 0), (.int 0 0), (.int 3 0), (.ref 287), (.bool true), (.int 276 0), (.ref 288), .none, .none, .none, (.ref 289), (.int 2804 0), (.int 146 0), (.str ⟨⟨[47, 99, 108, 97, 105, 109, 47, 99, 117, 116, 46, 112, 121]⟩⟩ 2805)]⟩), ⟨[]⟩⟩
noncomputable def o342 (P : Params) : Obj := ⟨(.type "function"), none, (fnD 38 ⟨⟨[95, 108, 97, 119, 95, 115, 104, 105, 101, 108, 100, 101, 100]⟩⟩ ⟨⟨[95, 108, 97, 119, 95, 115, 104, 105, 101, 108, 100, 101, 100]⟩⟩ [] .none .none .none (.str ⟨⟨[108, 97, 119, 95, 112, 97, 48, 48, 49, 55, 95, 48, 49]⟩⟩ 2770) none (.ref 290) .none 3 0), ⟨[]⟩⟩
noncomputable def o343 (P : Params) : Obj := ⟨.none, none, (fnD 39 ⟨⟨[95, 108, 97, 119, 95, 102, 105, 103, 117, 114, 101, 115]⟩⟩ ⟨⟨[95, 108, 97, 119, 95, 102, 105, 103, 117, 114, 101, 115]⟩⟩ [] .none .none .none .none none .none .none 0 0), ⟨[]⟩⟩
noncomputable def o344 (P : Params) : Obj := ⟨(.type "code"), none, (.fields ⟨[(.str ⟨⟨[95, 108, 97, 119, 95, 102, 105, 103, 117, 114, 101, 115]⟩⟩ 2807), (.str ⟨⟨[95, 108, 97, 119, 95, 102, 105, 103, 117, 114, 101, 115]⟩⟩ 2808), (.str ⟨⟨[47, 99, 108, 97, 105, 109, 47, 99, 117, 116, 46, 112, 121]⟩⟩ 2809), (.int 151 0), (.int 2 0), (.int 0 0), (.int 0 0), (.int 3 0), (.ref 292), (.bool true), (.int 276 0), (.ref 293), .none, .none, .none, (.ref 294), (.int 2810 0), (.int 151 0), (.str ⟨⟨[47, 99, 108, 97, 105, 109, 47, 99, 117, 116, 46, 112, 121]⟩⟩ 2811)]⟩), ⟨[]⟩⟩
noncomputable def o345 (P : Params) : Obj := ⟨(.type "function"), none, (fnD 39 ⟨⟨[95, 108, 97, 119, 95, 102, 105, 103, 117, 114, 101, 115]⟩⟩ ⟨⟨[95, 108, 97, 119, 95, 102, 105, 103, 117, 114, 101, 115]⟩⟩ [] .none .none .none (.str ⟨⟨[108, 97, 119, 95, 112, 97, 48, 48, 49, 55, 95, 48, 49]⟩⟩ 2770) none (.ref 295) .none 3 0), ⟨[]⟩⟩
noncomputable def o346 (P : Params) : Obj := ⟨(.type "tuple"), none, (.seq ⟨[(.str ⟨⟨[99, 111, 100, 101]⟩⟩ 2816), (.str ⟨⟨[104, 101, 108, 100]⟩⟩ 2817)]⟩ 0), ⟨[]⟩⟩
noncomputable def o347 (P : Params) : Obj := ⟨.none, none, (fnD 40 ⟨⟨[95, 108, 97, 119, 95, 102, 111, 108, 100]⟩⟩ ⟨⟨[95, 108, 97, 119, 95, 102, 111, 108, 100]⟩⟩ [] .none .none .none .none none .none .none 0 0), ⟨[]⟩⟩
noncomputable def o348 (P : Params) : Obj := ⟨(.type "code"), none, (.fields ⟨[(.str ⟨⟨[95, 108, 97, 119, 95, 102, 111, 108, 100]⟩⟩ 2813), (.str ⟨⟨[95, 108, 97, 119, 95, 102, 111, 108, 100]⟩⟩ 2814), (.str ⟨⟨[47, 99, 108, 97, 105, 109, 47, 99, 117, 116, 46, 112, 121]⟩⟩ 2815), (.int 153 0), (.int 2 0), (.int 0 0), (.int 0 0), (.int 3 0), (.ref 297), (.bool true), (.int 276 0), (.ref 298), .none, (.ref 299), (.ref 300), (.ref 301), (.int 2818 0), (.int 153 0), (.str ⟨⟨[47, 99, 108, 97, 105, 109, 47, 99, 117, 116, 46, 112, 121]⟩⟩ 2819)]⟩), ⟨[]⟩⟩
noncomputable def o349 (P : Params) : Obj := ⟨(.type "function"), none, (fnD 40 ⟨⟨[95, 108, 97, 119, 95, 102, 111, 108, 100]⟩⟩ ⟨⟨[95, 108, 97, 119, 95, 102, 111, 108, 100]⟩⟩ [] .none .none .none (.str ⟨⟨[108, 97, 119, 95, 112, 97, 48, 48, 49, 55, 95, 48, 49]⟩⟩ 2770) none (.ref 302) .none 3 0), ⟨[]⟩⟩
noncomputable def o350 (P : Params) : Obj := ⟨.none, none, (fnD 41 ⟨⟨[95, 108, 97, 119, 95, 112, 114, 101, 112, 97, 114, 101, 100]⟩⟩ ⟨⟨[95, 108, 97, 119, 95, 112, 114, 101, 112, 97, 114, 101, 100]⟩⟩ [] .none .none .none .none none .none .none 0 0), ⟨[]⟩⟩
noncomputable def o351 (P : Params) : Obj := ⟨(.type "code"), none, (.fields ⟨[(.str ⟨⟨[95, 108, 97, 119, 95, 112, 114, 101, 112, 97, 114, 101, 100]⟩⟩ 2821), (.str ⟨⟨[95, 108, 97, 119, 95, 112, 114, 101, 112, 97, 114, 101, 100]⟩⟩ 2822), (.str ⟨⟨[47, 99, 108, 97, 105, 109, 47, 99, 117, 116, 46, 112, 121]⟩⟩ 2823), (.int 159 0), (.int 1 0), (.int 0 0), (.int 0 0), (.int 3 0), (.ref 304), (.bool true), (.int 276 0), (.ref 305), .none, .none, .none, (.ref 306), (.int 2824 0), (.int 159 0), (.str ⟨⟨[47, 99, 108, 97, 105, 109, 47, 99, 117, 116, 46, 112, 121]⟩⟩ 2825)]⟩), ⟨[]⟩⟩
noncomputable def o352 (P : Params) : Obj := ⟨(.type "function"), none, (fnD 41 ⟨⟨[95, 108, 97, 119, 95, 112, 114, 101, 112, 97, 114, 101, 100]⟩⟩ ⟨⟨[95, 108, 97, 119, 95, 112, 114, 101, 112, 97, 114, 101, 100]⟩⟩ [] .none .none .none (.str ⟨⟨[108, 97, 119, 95, 112, 97, 48, 48, 49, 55, 95, 48, 49]⟩⟩ 2770) none (.ref 307) .none 3 0), ⟨[]⟩⟩
noncomputable def o353 (P : Params) : Obj := ⟨(.type "tuple"), none, (.seq ⟨[(.str ⟨⟨[116, 101, 120, 116]⟩⟩ 2830), (.str ⟨⟨[99, 97, 115, 101, 102, 111, 108, 100]⟩⟩ 2831), (.str ⟨⟨[115, 105, 103, 110, 115]⟩⟩ 2832), (.str ⟨⟨[107]⟩⟩ 2833), (.str ⟨⟨[111, 99, 116, 101, 116, 115]⟩⟩ 2834)]⟩ 0), ⟨[]⟩⟩
noncomputable def o354 (P : Params) : Obj := ⟨.none, none, (fnD 42 ⟨⟨[95, 108, 97, 119, 95, 98, 97, 99, 107]⟩⟩ ⟨⟨[95, 108, 97, 119, 95, 98, 97, 99, 107]⟩⟩ [] .none .none .none .none none .none .none 0 0), ⟨[]⟩⟩
noncomputable def o355 (P : Params) : Obj := ⟨(.type "code"), none, (.fields ⟨[(.str ⟨⟨[95, 108, 97, 119, 95, 98, 97, 99, 107]⟩⟩ 2827), (.str ⟨⟨[95, 108, 97, 119, 95, 98, 97, 99, 107]⟩⟩ 2828), (.str ⟨⟨[47, 99, 108, 97, 105, 109, 47, 99, 117, 116, 46, 112, 121]⟩⟩ 2829), (.int 161 0), (.int 2 0), (.int 0 0), (.int 0 0), (.int 3 0), (.ref 309), (.bool true), (.int 276 0), (.ref 310), .none, (.ref 311), (.ref 312), (.ref 313), (.int 2835 0), (.int 161 0), (.str ⟨⟨[47, 99, 108, 97, 105, 109, 47, 99, 117, 116, 46, 112, 121]⟩⟩ 2836)]⟩), ⟨[]⟩⟩
noncomputable def o356 (P : Params) : Obj := ⟨(.type "function"), none, (fnD 42 ⟨⟨[95, 108, 97, 119, 95, 98, 97, 99, 107]⟩⟩ ⟨⟨[95, 108, 97, 119, 95, 98, 97, 99, 107]⟩⟩ [] .none .none .none (.str ⟨⟨[108, 97, 119, 95, 112, 97, 48, 48, 49, 55, 95, 48, 49]⟩⟩ 2770) none (.ref 314) .none 3 0), ⟨[]⟩⟩
noncomputable def o357 (P : Params) : Obj := ⟨.none, none, (fnD 43 ⟨⟨[108, 97, 119]⟩⟩ ⟨⟨[108, 97, 119]⟩⟩ [] .none .none .none .none none .none .none 0 0), ⟨[]⟩⟩
noncomputable def o358 (P : Params) : Obj := ⟨(.type "code"), none, (.fields ⟨[(.str ⟨⟨[108, 97, 119]⟩⟩ 2838), (.str ⟨⟨[108, 97, 119]⟩⟩ 2839), (.str ⟨⟨[47, 99, 108, 97, 105, 109, 47, 99, 117, 116, 46, 112, 121]⟩⟩ 2840), (.int 172 0), (.int 1 0), (.int 0 0), (.int 0 0), (.int 3 0), (.ref 316), (.bool true), (.int 276 0), (.ref 317), .none, .none, .none, (.ref 318), (.int 2841 0), (.int 172 0), (.str ⟨⟨[47, 99, 108, 97, 105, 109, 47, 99, 117, 116, 46, 112, 121]⟩⟩ 2842)]⟩), ⟨[]⟩⟩
noncomputable def o359 (P : Params) : Obj := ⟨(.type "function"), none, (fnD 43 ⟨⟨[108, 97, 119]⟩⟩ ⟨⟨[108, 97, 119]⟩⟩ [] .none .none .none (.str ⟨⟨[108, 97, 119, 95, 112, 97, 48, 48, 49, 55, 95, 48, 49]⟩⟩ 2770) none (.ref 319) .none 3 0), ⟨[]⟩⟩
noncomputable def t1306 (P : Params) : BT := (.node (o54 P) (.node (o103 P) (.node (o8 P) .nil .nil) .nil) (.node (o7 P) (.node (o358 P) .nil .nil) .nil))
noncomputable def t1307 (P : Params) : BT := (.node (o7 P) (.node (o158 P) (.node (o7 P) .nil .nil) .nil) (.node (o7 P) .nil .nil))
noncomputable def t1308 (P : Params) : BT := (.node (o28 P) (t1306 P) (t1307 P))
noncomputable def t1309 (P : Params) : BT := (.node (o64 P) (.node (o126 P) (.node (o7 P) .nil .nil) .nil) (.node (o215 P) .nil .nil))
noncomputable def t1310 (P : Params) : BT := (.node (o8 P) (.node (o8 P) (.node (o349 P) .nil .nil) .nil) (.node (o7 P) .nil .nil))
noncomputable def t1311 (P : Params) : BT := (.node (o40 P) (t1309 P) (t1310 P))
noncomputable def t1312 (P : Params) : BT := (.node (o7 P) (t1308 P) (t1311 P))
noncomputable def t1313 (P : Params) : BT := (.node (o59 P) (.node (o187 P) (.node (o7 P) .nil .nil) .nil) (.node (o207 P) .nil .nil))
noncomputable def t1314 (P : Params) : BT := (.node (o8 P) (.node (o174 P) (.node (o344 P) .nil .nil) .nil) (.node (o239 P) .nil .nil))
noncomputable def t1315 (P : Params) : BT := (.node (o35 P) (t1313 P) (t1314 P))
noncomputable def t1316 (P : Params) : BT := (.node (o69 P) (.node (o142 P) (.node (o335 P) .nil .nil) .nil) (.node (o7 P) .nil .nil))
noncomputable def t1317 (P : Params) : BT := (.node (o91 P) (.node (o195 P) (.node (o353 P) .nil .nil) .nil) (.node (o7 P) .nil .nil))
noncomputable def t1318 (P : Params) : BT := (.node (o7 P) (t1316 P) (t1317 P))
noncomputable def t1319 (P : Params) : BT := (.node (o22 P) (t1315 P) (t1318 P))
noncomputable def t1320 (P : Params) : BT := (.node (o7 P) (t1312 P) (t1319 P))
noncomputable def t1321 (P : Params) : BT := (.node (o56 P) (.node (o7 P) (.node (o324 P) .nil .nil) .nil) (.node (o203 P) .nil .nil))
noncomputable def t1322 (P : Params) : BT := (.node (o77 P) (.node (o166 P) (.node (o342 P) .nil .nil) .nil) (.node (o236 P) .nil .nil))
noncomputable def t1323 (P : Params) : BT := (.node (o7 P) (t1321 P) (t1322 P))
noncomputable def t1324 (P : Params) : BT := (.node (o66 P) (.node (o134 P) (.node (o7 P) .nil .nil) .nil) (.node (o221 P) .nil .nil))
noncomputable def t1325 (P : Params) : BT := (.node (o87 P) (.node (o193 P) (.node (o351 P) .nil .nil) .nil) (.node (o253 P) .nil .nil))
noncomputable def t1326 (P : Params) : BT := (.node (o43 P) (t1324 P) (t1325 P))
noncomputable def t1327 (P : Params) : BT := (.node (o18 P) (t1323 P) (t1326 P))
noncomputable def t1328 (P : Params) : BT := (.node (o7 P) (.node (o118 P) (.node (o328 P) .nil .nil) .nil) (.node (o7 P) .nil .nil))
noncomputable def t1329 (P : Params) : BT := (.node (o82 P) (.node (o182 P) (.node (o346 P) .nil .nil) .nil) (.node (o245 P) .nil .nil))
noncomputable def t1330 (P : Params) : BT := (.node (o38 P) (t1328 P) (t1329 P))
noncomputable def t1331 (P : Params) : BT := (.node (o7 P) (.node (o150 P) (.node (o7 P) .nil .nil) .nil) (.node (o229 P) .nil .nil))
noncomputable def t1332 (P : Params) : BT := (.node (o94 P) (.node (o198 P) (.node (o356 P) .nil .nil) .nil) (.node (o317 P) .nil .nil))
noncomputable def t1333 (P : Params) : BT := (.node (o7 P) (t1331 P) (t1332 P))
noncomputable def t1334 (P : Params) : BT := (.node (o26 P) (t1330 P) (t1333 P))
noncomputable def t1335 (P : Params) : BT := (.node (o11 P) (t1327 P) (t1334 P))
noncomputable def t1336 (P : Params) : BT := (.node (o320 P) (t1320 P) (t1335 P))
noncomputable def t1337 (P : Params) : BT := (.node (o7 P) (.node (o8 P) (.node (o7 P) .nil .nil) .nil) (.node (o201 P) .nil .nil))
noncomputable def t1338 (P : Params) : BT := (.node (o76 P) (.node (o162 P) (.node (o340 P) .nil .nil) .nil) (.node (o234 P) .nil .nil))
noncomputable def t1339 (P : Params) : BT := (.node (o8 P) (t1337 P) (t1338 P))
noncomputable def t1340 (P : Params) : BT := (.node (o7 P) (.node (o130 P) (.node (o331 P) .nil .nil) .nil) (.node (o220 P) .nil .nil))
noncomputable def t1341 (P : Params) : BT := (.node (o7 P) (.node (o7 P) (.node (o8 P) .nil .nil) .nil) (.node (o251 P) .nil .nil))
noncomputable def t1342 (P : Params) : BT := (.node (o41 P) (t1340 P) (t1341 P))
noncomputable def t1343 (P : Params) : BT := (.node (o16 P) (t1339 P) (t1342 P))
noncomputable def t1344 (P : Params) : BT := (.node (o8 P) (.node (o114 P) (.node (o326 P) .nil .nil) .nil) (.node (o8 P) .nil .nil))
noncomputable def t1345 (P : Params) : BT := (.node (o7 P) (.node (o178 P) (.node (o7 P) .nil .nil) .nil) (.node (o244 P) .nil .nil))
noncomputable def t1346 (P : Params) : BT := (.node (o36 P) (t1344 P) (t1345 P))
noncomputable def t1347 (P : Params) : BT := (.node (o8 P) (.node (o146 P) (.node (o8 P) .nil .nil) .nil) (.node (o227 P) .nil .nil))
noncomputable def t1348 (P : Params) : BT := (.node (o7 P) (.node (o196 P) (.node (o354 P) .nil .nil) .nil) (.node (o266 P) .nil .nil))
noncomputable def t1349 (P : Params) : BT := (.node (o49 P) (t1347 P) (t1348 P))
noncomputable def t1350 (P : Params) : BT := (.node (o24 P) (t1346 P) (t1349 P))
noncomputable def t1351 (P : Params) : BT := (.node (o9 P) (t1343 P) (t1350 P))
noncomputable def t1352 (P : Params) : BT := (.node (o57 P) (.node (o109 P) (.node (o7 P) .nil .nil) .nil) (.node (o206 P) .nil .nil))
noncomputable def t1353 (P : Params) : BT := (.node (o79 P) (.node (o170 P) (.node (o8 P) .nil .nil) .nil) (.node (o7 P) .nil .nil))
noncomputable def t1354 (P : Params) : BT := (.node (o33 P) (t1352 P) (t1353 P))
noncomputable def t1355 (P : Params) : BT := (.node (o67 P) (.node (o138 P) (.node (o333 P) .nil .nil) .nil) (.node (o8 P) .nil .nil))
noncomputable def t1356 (P : Params) : BT := (.node (o89 P) (.node (o7 P) (.node (o7 P) .nil .nil) .nil) (.node (o263 P) .nil .nil))
noncomputable def t1357 (P : Params) : BT := (.node (o47 P) (t1355 P) (t1356 P))
noncomputable def t1358 (P : Params) : BT := (.node (o20 P) (t1354 P) (t1357 P))
noncomputable def t1359 (P : Params) : BT := (.node (o62 P) (.node (o122 P) (.node (o8 P) .nil .nil) .nil) (.node (o213 P) .nil .nil))
noncomputable def t1360 (P : Params) : BT := (.node (o84 P) (.node (o186 P) (.node (o347 P) .nil .nil) .nil) (.node (o8 P) .nil .nil))
noncomputable def t1361 (P : Params) : BT := (.node (o7 P) (t1359 P) (t1360 P))
noncomputable def t1362 (P : Params) : BT := (.node (o74 P) (.node (o154 P) (.node (o338 P) .nil .nil) .nil) (.node (o231 P) .nil .nil))
noncomputable def t1363 (P : Params) : BT := (.node (o102 P) (.node (o8 P) (.node (o8 P) .nil .nil) .nil) (.node (o318 P) .nil .nil))
noncomputable def t1364 (P : Params) : BT := (.node (o52 P) (t1362 P) (t1363 P))
noncomputable def t1365 (P : Params) : BT := (.node (o321 P) (t1361 P) (t1364 P))
noncomputable def t1366 (P : Params) : BT := (.node (o13 P) (t1358 P) (t1365 P))
noncomputable def t1367 (P : Params) : BT := (.node (o5 P) (t1351 P) (t1366 P))
noncomputable def t1368 (P : Params) : BT := (.node (o1 P) (t1336 P) (t1367 P))
noncomputable def t1369 (P : Params) : BT := (.node (o55 P) (.node (o7 P) (.node (o322 P) .nil .nil) .nil) (.node (o200 P) (.node (o359 P) .nil .nil) .nil))
noncomputable def t1370 (P : Params) : BT := (.node (o8 P) (.node (o160 P) (.node (o8 P) .nil .nil) .nil) (.node (o233 P) .nil .nil))
noncomputable def t1371 (P : Params) : BT := (.node (o7 P) (t1369 P) (t1370 P))
noncomputable def t1372 (P : Params) : BT := (.node (o65 P) (.node (o128 P) (.node (o330 P) .nil .nil) .nil) (.node (o222 P) .nil .nil))
noncomputable def t1373 (P : Params) : BT := (.node (o85 P) (.node (o191 P) (.node (o7 P) .nil .nil) .nil) (.node (o250 P) .nil .nil))
noncomputable def t1374 (P : Params) : BT := (.node (o7 P) (t1372 P) (t1373 P))
noncomputable def t1375 (P : Params) : BT := (.node (o15 P) (t1371 P) (t1374 P))
noncomputable def t1376 (P : Params) : BT := (.node (o7 P) (.node (o112 P) (.node (o7 P) .nil .nil) .nil) (.node (o7 P) .nil .nil))
noncomputable def t1377 (P : Params) : BT := (.node (o80 P) (.node (o176 P) (.node (o345 P) .nil .nil) .nil) (.node (o246 P) .nil .nil))
noncomputable def t1378 (P : Params) : BT := (.node (o6 P) (t1376 P) (t1377 P))
noncomputable def t1379 (P : Params) : BT := (.node (o7 P) (.node (o144 P) (.node (o7 P) .nil .nil) .nil) (.node (o226 P) .nil .nil))
noncomputable def t1380 (P : Params) : BT := (.node (o92 P) (.node (o7 P) (.node (o7 P) .nil .nil) .nil) (.node (o265 P) .nil .nil))
noncomputable def t1381 (P : Params) : BT := (.node (o8 P) (t1379 P) (t1380 P))
noncomputable def t1382 (P : Params) : BT := (.node (o23 P) (t1378 P) (t1381 P))
noncomputable def t1383 (P : Params) : BT := (.node (o8 P) (t1375 P) (t1382 P))
noncomputable def t1384 (P : Params) : BT := (.node (o7 P) (.node (o108 P) (.node (o325 P) .nil .nil) .nil) (.node (o208 P) .nil .nil))
noncomputable def t1385 (P : Params) : BT := (.node (o78 P) (.node (o168 P) (.node (o7 P) .nil .nil) .nil) (.node (o237 P) .nil .nil))
noncomputable def t1386 (P : Params) : BT := (.node (o32 P) (t1384 P) (t1385 P))
noncomputable def t1387 (P : Params) : BT := (.node (o7 P) (.node (o136 P) (.node (o8 P) .nil .nil) .nil) (.node (o7 P) .nil .nil))
noncomputable def t1388 (P : Params) : BT := (.node (o88 P) (.node (o194 P) (.node (o352 P) .nil .nil) .nil) (.node (o254 P) .nil .nil))
noncomputable def t1389 (P : Params) : BT := (.node (o46 P) (t1387 P) (t1388 P))
noncomputable def t1390 (P : Params) : BT := (.node (o19 P) (t1386 P) (t1389 P))
noncomputable def t1391 (P : Params) : BT := (.node (o61 P) (.node (o120 P) (.node (o7 P) .nil .nil) .nil) (.node (o212 P) .nil .nil))
noncomputable def t1392 (P : Params) : BT := (.node (o83 P) (.node (o184 P) (.node (o7 P) .nil .nil) .nil) (.node (o7 P) .nil .nil))
noncomputable def t1393 (P : Params) : BT := (.node (o39 P) (t1391 P) (t1392 P))
noncomputable def t1394 (P : Params) : BT := (.node (o73 P) (.node (o152 P) (.node (o337 P) .nil .nil) .nil) (.node (o230 P) .nil .nil))
noncomputable def t1395 (P : Params) : BT := (.node (o104 P) (.node (o7 P) (.node (o7 P) .nil .nil) .nil) (.node (o7 P) .nil .nil))
noncomputable def t1396 (P : Params) : BT := (.node (o51 P) (t1394 P) (t1395 P))
noncomputable def t1397 (P : Params) : BT := (.node (o7 P) (t1393 P) (t1396 P))
noncomputable def t1398 (P : Params) : BT := (.node (o12 P) (t1390 P) (t1397 P))
noncomputable def t1399 (P : Params) : BT := (.node (o4 P) (t1383 P) (t1398 P))
noncomputable def t1400 (P : Params) : BT := (.node (o8 P) (.node (o107 P) (.node (o323 P) .nil .nil) .nil) (.node (o202 P) .nil .nil))
noncomputable def t1401 (P : Params) : BT := (.node (o7 P) (.node (o164 P) (.node (o341 P) .nil .nil) .nil) (.node (o235 P) .nil .nil))
noncomputable def t1402 (P : Params) : BT := (.node (o31 P) (t1400 P) (t1401 P))
noncomputable def t1403 (P : Params) : BT := (.node (o8 P) (.node (o132 P) (.node (o332 P) .nil .nil) .nil) (.node (o7 P) .nil .nil))
noncomputable def t1404 (P : Params) : BT := (.node (o86 P) (.node (o192 P) (.node (o350 P) .nil .nil) .nil) (.node (o252 P) .nil .nil))
noncomputable def t1405 (P : Params) : BT := (.node (o42 P) (t1403 P) (t1404 P))
noncomputable def t1406 (P : Params) : BT := (.node (o17 P) (t1402 P) (t1405 P))
noncomputable def t1407 (P : Params) : BT := (.node (o60 P) (.node (o116 P) (.node (o327 P) .nil .nil) .nil) (.node (o211 P) .nil .nil))
noncomputable def t1408 (P : Params) : BT := (.node (o81 P) (.node (o180 P) (.node (o8 P) .nil .nil) .nil) (.node (o7 P) .nil .nil))
noncomputable def t1409 (P : Params) : BT := (.node (o37 P) (t1407 P) (t1408 P))
noncomputable def t1410 (P : Params) : BT := (.node (o72 P) (.node (o148 P) (.node (o336 P) .nil .nil) .nil) (.node (o228 P) .nil .nil))
noncomputable def t1411 (P : Params) : BT := (.node (o93 P) (.node (o197 P) (.node (o355 P) .nil .nil) .nil) (.node (o319 P) .nil .nil))
noncomputable def t1412 (P : Params) : BT := (.node (o50 P) (t1410 P) (t1411 P))
noncomputable def t1413 (P : Params) : BT := (.node (o25 P) (t1409 P) (t1412 P))
noncomputable def t1414 (P : Params) : BT := (.node (o10 P) (t1406 P) (t1413 P))
noncomputable def t1415 (P : Params) : BT := (.node (o58 P) (.node (o110 P) (.node (o8 P) .nil .nil) .nil) (.node (o7 P) .nil .nil))
noncomputable def t1416 (P : Params) : BT := (.node (o7 P) (.node (o172 P) (.node (o343 P) .nil .nil) .nil) (.node (o238 P) .nil .nil))
noncomputable def t1417 (P : Params) : BT := (.node (o34 P) (t1415 P) (t1416 P))
noncomputable def t1418 (P : Params) : BT := (.node (o68 P) (.node (o140 P) (.node (o334 P) .nil .nil) .nil) (.node (o225 P) .nil .nil))
noncomputable def t1419 (P : Params) : BT := (.node (o90 P) (.node (o8 P) (.node (o8 P) .nil .nil) .nil) (.node (o264 P) .nil .nil))
noncomputable def t1420 (P : Params) : BT := (.node (o48 P) (t1418 P) (t1419 P))
noncomputable def t1421 (P : Params) : BT := (.node (o21 P) (t1417 P) (t1420 P))
noncomputable def t1422 (P : Params) : BT := (.node (o63 P) (.node (o124 P) (.node (o329 P) .nil .nil) .nil) (.node (o214 P) .nil .nil))
noncomputable def t1423 (P : Params) : BT := (.node (o7 P) (.node (o7 P) (.node (o348 P) .nil .nil) .nil) (.node (o249 P) .nil .nil))
noncomputable def t1424 (P : Params) : BT := (.node (o8 P) (t1422 P) (t1423 P))
noncomputable def t1425 (P : Params) : BT := (.node (o75 P) (.node (o156 P) (.node (o339 P) .nil .nil) .nil) (.node (o232 P) .nil .nil))
noncomputable def t1426 (P : Params) : BT := (.node (o7 P) (.node (o199 P) (.node (o357 P) .nil .nil) .nil) (.node (o7 P) .nil .nil))
noncomputable def t1427 (P : Params) : BT := (.node (o53 P) (t1425 P) (t1426 P))
noncomputable def t1428 (P : Params) : BT := (.node (o27 P) (t1424 P) (t1427 P))
noncomputable def t1429 (P : Params) : BT := (.node (o14 P) (t1421 P) (t1428 P))
noncomputable def t1430 (P : Params) : BT := (.node (o6 P) (t1414 P) (t1429 P))
noncomputable def t1431 (P : Params) : BT := (.node (o2 P) (t1399 P) (t1430 P))
noncomputable def t1432 (P : Params) : BT := (.node (o0 P) (t1368 P) (t1431 P))
noncomputable def S44 (w : World) (os : OsState) : SharedT := let P := w.params; ⟨(t1432 P), 321, life0, ⟨[]⟩, ⟨0, 0, 0, 0⟩, 2844, os⟩
noncomputable def H1 (P : Params) : Heap := ⟨⟨[o0 P, o1 P, o2 P, o320 P, o4 P, o5 P, o6 P, o7 P, o8 P, o9 P, o10 P, o11 P, o12 P, o13 P, o14 P, o7 P, o15 P, o16 P, o17 P, o18 P, o19 P, o20 P, o21 P, o22 P, o23 P, o24 P, o25 P, o26 P, o7 P, o321 P, o27 P, o28 P, o7 P, o8 P, o31 P, o7 P, o32 P, o33 P, o34 P, o35 P, o6 P, o36 P, o37 P, o38 P, o39 P, o7 P, o8 P, o40 P, o7 P, o41 P, o42 P, o43 P, o46 P, o47 P, o48 P, o7 P, o8 P, o49 P, o50 P, o7 P, o51 P, o52 P, o53 P, o54 P, o55 P, o7 P, o8 P, o56 P, o7 P, o57 P, o58 P, o59 P, o7 P, o8 P, o60 P, o7 P, o61 P, o62 P, o63 P, o64 P, o65 P, o7 P, o8 P, o66 P, o7 P, o67 P, o68 P, o69 P, o7 P, o8 P, o72 P, o7 P, o73 P, o74 P, o75 P, o7 P, o8 P, o76 P, o7 P, o77 P, o78 P, o79 P, o7 P, o8 P, o80 P, o7 P, o81 P, o82 P, o83 P, o84 P, o7 P, o8 P, o85 P, o7 P, o86 P, o87 P, o88 P, o89 P, o90 P, o91 P, o92 P, o7 P, o93 P, o94 P, o104 P, o102 P, o7 P, o103 P, o7 P, o8 P, o107 P, o7 P, o108 P, o109 P, o110 P, o187 P, o112 P, o114 P, o116 P, o118 P, o120 P, o122 P, o124 P, o126 P, o128 P, o130 P, o132 P, o134 P, o136 P, o138 P, o140 P, o142 P, o144 P, o146 P, o148 P, o150 P, o152 P, o154 P, o156 P, o158 P, o160 P, o162 P, o164 P, o166 P, o168 P, o170 P, o172 P, o174 P, o176 P, o178 P, o180 P, o182 P, o184 P, o186 P, o7 P, o8 P, o191 P, o7 P, o192 P, o193 P, o194 P, o7 P, o8 P, o195 P, o7 P, o196 P, o197 P, o198 P, o7 P, o8 P, o199 P, o7 P, o200 P, o201 P, o202 P, o203 P, o208 P, o206 P, o7 P, o207 P, o7 P, o8 P, o211 P, o7 P, o212 P, o213 P, o214 P, o215 P, o222 P, o220 P, o7 P, o221 P, o7 P, o8 P, o225 P, o7 P, o226 P, o227 P, o228 P, o229 P, o230 P, o231 P, o232 P, o7 P, o233 P, o234 P, o235 P, o236 P, o237 P, o7 P, o238 P, o239 P, o246 P, o244 P, o7 P, o245 P, o7 P, o8 P, o249 P, o7 P, o250 P, o251 P, o252 P, o253 P, o254 P, o263 P, o264 P, o7 P, o265 P, o266 P, o319 P, o317 P, o7 P, o318 P, o7 P, o8 P, o322 P, o7 P, o323 P, o324 P, o325 P, o7 P, o8 P, o7 P, o7 P, o326 P, o327 P, o328 P, o7 P, o8 P, o329 P, o7 P, o330 P, o331 P, o332 P, o7 P, o8 P, o333 P, o334 P, o335 P, o7 P, o8 P, o336 P, o7 P, o337 P, o338 P, o339 P, o7 P, o8 P, o340 P, o341 P, o342 P, o7 P, o8 P, o343 P, o344 P, o345 P, o7 P, o8 P, o346 P, o7 P, o347 P, o348 P, o349 P, o7 P, o8 P, o350 P, o351 P, o352 P, o7 P, o8 P, o353 P, o7 P, o354 P, o355 P, o356 P, o7 P, o8 P, o357 P, o358 P, o359 P]⟩, life0⟩
noncomputable def dl98 (P : Params) : List DictEntry := [⟨(PyData.keyHash P ⟨⟨[95, 95, 110, 97, 109, 101, 95, 95]⟩⟩), (.str ⟨⟨[95, 95, 110, 97, 109, 101, 95, 95]⟩⟩ 247), (.str ⟨⟨[95, 115, 114, 101]⟩⟩ 246)⟩, ⟨(PyData.keyHash P ⟨⟨[95, 95, 100, 111, 99, 95, 95]⟩⟩), (.str ⟨⟨[95, 95, 100, 111, 99, 95, 95]⟩⟩ 248), .none⟩, ⟨(PyData.keyHash P ⟨⟨[95, 95, 112, 97, 99, 107, 97, 103, 101, 95, 95]⟩⟩), (.str ⟨⟨[95, 95, 112, 97, 99, 107, 97, 103, 101, 95, 95]⟩⟩ 250), (.str ⟨⟨[]⟩⟩ 249)⟩, ⟨(PyData.keyHash P ⟨⟨[95, 95, 108, 111, 97, 100, 101, 114, 95, 95]⟩⟩), (.str ⟨⟨[95, 95, 108, 111, 97, 100, 101, 114, 95, 95]⟩⟩ 251), (.ref 14)⟩, ⟨(PyData.keyHash P ⟨⟨[95, 95, 115, 112, 101, 99, 95, 95]⟩⟩), (.str ⟨⟨[95, 95, 115, 112, 101, 99, 95, 95]⟩⟩ 252), (.ref 26)⟩, ⟨(PyData.keyHash P ⟨⟨[99, 111, 109, 112, 105, 108, 101]⟩⟩), (.str ⟨⟨[99, 111, 109, 112, 105, 108, 101]⟩⟩ 253), (.builtin "_sre.compile")⟩, ⟨(PyData.keyHash P ⟨⟨[116, 101, 109, 112, 108, 97, 116, 101]⟩⟩), (.str ⟨⟨[116, 101, 109, 112, 108, 97, 116, 101]⟩⟩ 254), (.builtin "_sre.template")⟩, ⟨(PyData.keyHash P ⟨⟨[103, 101, 116, 99, 111, 100, 101, 115, 105, 122, 101]⟩⟩), (.str ⟨⟨[103, 101, 116, 99, 111, 100, 101, 115, 105, 122, 101]⟩⟩ 255), (.builtin "_sre.getcodesize")⟩, ⟨(PyData.keyHash P ⟨⟨[97, 115, 99, 105, 105, 95, 105, 115, 99, 97, 115, 101, 100]⟩⟩), (.str ⟨⟨[97, 115, 99, 105, 105, 95, 105, 115, 99, 97, 115, 101, 100]⟩⟩ 256), (.builtin "_sre.ascii_iscased")⟩, ⟨(PyData.keyHash P ⟨⟨[117, 110, 105, 99, 111, 100, 101, 95, 105, 115, 99, 97, 115, 101, 100]⟩⟩), (.str ⟨⟨[117, 110, 105, 99, 111, 100, 101, 95, 105, 115, 99, 97, 115, 101, 100]⟩⟩ 257), (.builtin "_sre.unicode_iscased")⟩, ⟨(PyData.keyHash P ⟨⟨[97, 115, 99, 105, 105, 95, 116, 111, 108, 111, 119, 101, 114]⟩⟩), (.str ⟨⟨[97, 115, 99, 105, 105, 95, 116, 111, 108, 111, 119, 101, 114]⟩⟩ 258), (.builtin "_sre.ascii_tolower")⟩, ⟨(PyData.keyHash P ⟨⟨[117, 110, 105, 99, 111, 100, 101, 95, 116, 111, 108, 111, 119, 101, 114]⟩⟩), (.str ⟨⟨[117, 110, 105, 99, 111, 100, 101, 95, 116, 111, 108, 111, 119, 101, 114]⟩⟩ 259), (.builtin "_sre.unicode_tolower")⟩, ⟨(PyData.keyHash P ⟨⟨[77, 65, 71, 73, 67]⟩⟩), (.str ⟨⟨[77, 65, 71, 73, 67]⟩⟩ 261), (.int 20230612 260)⟩, ⟨(PyData.keyHash P ⟨⟨[67, 79, 68, 69, 83, 73, 90, 69]⟩⟩), (.str ⟨⟨[67, 79, 68, 69, 83, 73, 90, 69]⟩⟩ 263), (.int 4 262)⟩, ⟨(PyData.keyHash P ⟨⟨[77, 65, 88, 82, 69, 80, 69, 65, 84]⟩⟩), (.str ⟨⟨[77, 65, 88, 82, 69, 80, 69, 65, 84]⟩⟩ 265), (.int 4294967295 264)⟩, ⟨(PyData.keyHash P ⟨⟨[77, 65, 88, 71, 82, 79, 85, 80, 83]⟩⟩), (.str ⟨⟨[77, 65, 88, 71, 82, 79, 85, 80, 83]⟩⟩ 267), (.int 1073741823 266)⟩, ⟨(PyData.keyHash P ⟨⟨[99, 111, 112, 121, 114, 105, 103, 104, 116]⟩⟩), (.str ⟨⟨[99, 111, 112, 121, 114, 105, 103, 104, 116]⟩⟩ 269), (.str ⟨⟨[32, 83, 82, 69, 32, 50, 46, 50, 46, 50, 32, 67, 111, 112, 121, 114, 105, 103, 104, 116, 32, 40, 99, 41, 32, 49, 57, 57, 55, 45, 50, 48, 48, 50, 32, 98, 121, 32, 83, 101, 99, 114, 101, 116, 32, 76, 97, 98, 115, 32, 65, 66, 32]⟩⟩ 268)⟩]
noncomputable def o360 (P : Params) : Obj := ⟨(.type "dict"), none, (.dict ⟨dl98 P⟩ 17), ⟨[]⟩⟩
noncomputable def He (P : Params) : Heap := ⟨⟨[o0 P, o1 P, o2 P, o3 P, o4 P, o5 P, o6 P, o7 P, o8 P, o9 P, o10 P, o360 P, o12 P, o13 P, o14 P, o7 P, o15 P, o16 P, o17 P, o18 P, o19 P, o20 P, o21 P, o22 P, o23 P, o24 P, o25 P, o26 P]⟩, life0⟩
end Mine
end
section
open PySem PySem.W PyProof.Rows
namespace Mine
theorem pcPre (w : World) (os : OsState) : topGo treeTable prog w 28 ann 12 ⟨H0 w.params, ⟨[]⟩, ⟨0, 0, 0, 0⟩, 276, os⟩ (topStub prog) = some ((S0 w os).abs, ⟨denote treeTable cE, cE, ⟨0, 0, 0, 0⟩, [topFrame qE]⟩) := by
  rw [PySem.W.Fast.te15667345088766844465, PySem.W.Fast.te14364793385576792824, PySem.W.Fast.te11892475500146522536]; kernel_rfl
theorem pcBlock (w : World) (os : OsState) : segRun treeTable prog w 28 ann 1 1 (S0 w os).abs (blockOf top env cE ⟨0, 0, 0, 0⟩ [topFrame qE]) = some (.next, (S0 w os).abs, cE, ⟨0, 0, 0, 0⟩) := by
  rw [PySem.W.Fast.te14374325043358763698, PySem.W.Fast.te14364793385576792824]; kernel_rfl
theorem pcFin (w : World) (os : OsState) : topRun treeTable prog w 28 ann 2 (S44 w os).abs ⟨doneF .next, cE, ⟨172, 0, 187, 101⟩, [topFrame qE]⟩ = some ⟨H1 w.params, ⟨[]⟩, ⟨0, 0, 0, 0⟩, 2844, os⟩ := by
  rw [PySem.W.Fast.te14082659384304107361, PySem.W.Fast.te14364793385576792824]; kernel_rfl
end Mine
end
section
open PySem PySem.W PyProof.Rows
namespace Mine
theorem pc0 (w : World) (os : OsState) : segRunT treeTable prog w 28 ann 1 166 (S0 w os) (piecesOf [stm 0, stm 1, stm 2, stm 3, stm 4, stm 5] env cE ⟨0, 0, 0, 0⟩ [topFrame qE]) = some (.next, S6 w os, cE, ⟨20, 0, 20, 8⟩) := by rw [PySem.W.Fast.te10110043849684766642, PySem.W.Fast.te14364793385576792824]; kernel_rfl
theorem pc6 (w : World) (os : OsState) : segRunT treeTable prog w 28 ann 1 319 (S6 w os) (piecesOf [stm 6, stm 7, stm 8, stm 9, stm 10, stm 11] env cE ⟨20, 0, 20, 8⟩ [topFrame qE]) = some (.next, S12 w os, cE, ⟨58, 0, 58, 7⟩) := by rw [PySem.W.Fast.te10110043849684766642, PySem.W.Fast.te14364793385576792824]; kernel_rfl
theorem pc12 (w : World) (os : OsState) : segRunT treeTable prog w 28 ann 1 153 (S12 w os) (piecesOf [stm 12, stm 13, stm 14, stm 15, stm 16, stm 17, stm 18] env cE ⟨58, 0, 58, 7⟩ [topFrame qE]) = some (.next, S19 w os, cE, ⟨93, 0, 93, 8⟩) := by rw [PySem.W.Fast.te10110043849684766642, PySem.W.Fast.te14364793385576792824]; kernel_rfl
theorem r19x0_eq (w : World) (os : OsState) : segGoT treeTable prog w 28 ann 1 413 (S19 w os) (piecesOf [stm 19] env cE ⟨93, 0, 93, 8⟩ [topFrame qE]) = r19x0 w os := by rw [PySem.W.Fast.te10295753902157049106, PySem.W.Fast.te14364793385576792824]; kernel_rfl
theorem pc19c0s (w : World) (os : OsState) : r19x0 w os = some (S19c0 (!w.params.followText "set-order") w os, ⟨PySem.W.Fast.tw11892475500146522536 PySem.W.Fast.tw14364793385576792824 (.builtin "set.__init__" ⟨[(.ref 124), (.ref 123)], []⟩), (.builtin "set.__init__" ⟨[(.ref 124), (.ref 123)], []⟩), ⟨94, 9, 94, 107⟩, stackOf (r19x0 w os)⟩) := by
  exact rowed (fun w => r19x0 w os) (fun w => some (S19c0 (!w.params.followText "set-order") w os, ⟨PySem.W.Fast.tw11892475500146522536 PySem.W.Fast.tw14364793385576792824 (.builtin "set.__init__" ⟨[(.ref 124), (.ref 123)], []⟩), (.builtin "set.__init__" ⟨[(.ref 124), (.ref 123)], []⟩), ⟨94, 9, 94, 107⟩, stackOf (r19x0 w os)⟩)) (fun w => by kernel_rfl) (fun w => by kernel_rfl) w
theorem pc19c0d (w : World) (os : OsState) : (((stackOf (r19x0 w os)).take 2).map dataOf, (stackOf (r19x0 w os)).drop 2) = ([some (none, false, [(.ref 124), (.ref 124), (.ref 123)], (.builtin "type.__call__" ⟨[(.type "set"), (.ref 123)], []⟩), ⟨94, 9, 94, 107⟩, [(.builtin "set.__init__"), (.ref 124), (.ref 123), (.builtin "set.__init__"), (.ref 124), (.ref 123)]), some (none, false, [], cE, ⟨94, 9, 94, 107⟩, [(.type "set"), (.ref 123)])], [topFrame qE]) := by
  exact rowed (fun w => (((stackOf (r19x0 w os)).take 2).map dataOf, (stackOf (r19x0 w os)).drop 2)) (fun w => ([some (none, false, [(.ref 124), (.ref 124), (.ref 123)], (.builtin "type.__call__" ⟨[(.type "set"), (.ref 123)], []⟩), ⟨94, 9, 94, 107⟩, [(.builtin "set.__init__"), (.ref 124), (.ref 123), (.builtin "set.__init__"), (.ref 124), (.ref 123)]), some (none, false, [], cE, ⟨94, 9, 94, 107⟩, [(.type "set"), (.ref 123)])], [topFrame qE])) (fun w => by kernel_rfl) (fun w => by kernel_rfl) w
theorem pc19c0 (w : World) (os : OsState) : segGoT treeTable prog w 28 ann 1 413 (S19 w os) (piecesOf [stm 19] env cE ⟨93, 0, 93, 8⟩ [topFrame qE]) = some (S19c0 (!w.params.followText "set-order") w os, (th19c0 w os)) := by
  rw [r19x0_eq]
  exact go_two (pc19c0s w os) (pc19c0d w os)
theorem r19x1_eq (led : Bool) (w : World) (os : OsState) : segGoT treeTable prog w 28 ann 1 197 (S19c0 led w os) (th19c0 w os) = r19x1 led w os := by rw [PySem.W.Fast.te10295753902157049106, PySem.W.Fast.te14364793385576792824]; kernel_rfl
theorem pc19c1s (led : Bool) (w : World) (os : OsState) : r19x1 led w os = some (S19c1 led w os, ⟨PySem.W.Fast.tw11892475500146522536 PySem.W.Fast.tw14364793385576792824 (.builtin "set.update.loop" ⟨[(.ref 124), (.ref 125)], []⟩), (.builtin "set.update.loop" ⟨[(.ref 124), (.ref 125)], []⟩), ⟨94, 9, 94, 107⟩, stackOf (r19x1 led w os)⟩) := by
  cases led
  · exact rowed (fun w => r19x1 false w os) (fun w => some (S19c1 false w os, ⟨PySem.W.Fast.tw11892475500146522536 PySem.W.Fast.tw14364793385576792824 (.builtin "set.update.loop" ⟨[(.ref 124), (.ref 125)], []⟩), (.builtin "set.update.loop" ⟨[(.ref 124), (.ref 125)], []⟩), ⟨94, 9, 94, 107⟩, stackOf (r19x1 false w os)⟩)) (fun w => by kernel_rfl) (fun w => by kernel_rfl) w
  · exact rowed (fun w => r19x1 true w os) (fun w => some (S19c1 true w os, ⟨PySem.W.Fast.tw11892475500146522536 PySem.W.Fast.tw14364793385576792824 (.builtin "set.update.loop" ⟨[(.ref 124), (.ref 125)], []⟩), (.builtin "set.update.loop" ⟨[(.ref 124), (.ref 125)], []⟩), ⟨94, 9, 94, 107⟩, stackOf (r19x1 true w os)⟩)) (fun w => by kernel_rfl) (fun w => by kernel_rfl) w
theorem pc19c1d (led : Bool) (w : World) (os : OsState) : (((stackOf (r19x1 led w os)).take 3).map dataOf, (stackOf (r19x1 led w os)).drop 3) = ([some (none, false, [], (.builtin "set.__init__" ⟨[(.ref 124), (.ref 123)], []⟩), ⟨94, 9, 94, 107⟩, [(.ref 124), (.ref 125)]), some (none, false, [(.ref 124), (.ref 124), (.ref 123)], (.builtin "type.__call__" ⟨[(.type "set"), (.ref 123)], []⟩), ⟨94, 9, 94, 107⟩, [(.builtin "set.__init__"), (.ref 124), (.ref 123), (.builtin "set.__init__"), (.ref 124), (.ref 123)]), some (none, false, [], cE, ⟨94, 9, 94, 107⟩, [(.type "set"), (.ref 123)])], [topFrame qE]) := by
  cases led
  · exact rowed (fun w => (((stackOf (r19x1 false w os)).take 3).map dataOf, (stackOf (r19x1 false w os)).drop 3)) (fun w => ([some (none, false, [], (.builtin "set.__init__" ⟨[(.ref 124), (.ref 123)], []⟩), ⟨94, 9, 94, 107⟩, [(.ref 124), (.ref 125)]), some (none, false, [(.ref 124), (.ref 124), (.ref 123)], (.builtin "type.__call__" ⟨[(.type "set"), (.ref 123)], []⟩), ⟨94, 9, 94, 107⟩, [(.builtin "set.__init__"), (.ref 124), (.ref 123), (.builtin "set.__init__"), (.ref 124), (.ref 123)]), some (none, false, [], cE, ⟨94, 9, 94, 107⟩, [(.type "set"), (.ref 123)])], [topFrame qE])) (fun w => by kernel_rfl) (fun w => by kernel_rfl) w
  · exact rowed (fun w => (((stackOf (r19x1 true w os)).take 3).map dataOf, (stackOf (r19x1 true w os)).drop 3)) (fun w => ([some (none, false, [], (.builtin "set.__init__" ⟨[(.ref 124), (.ref 123)], []⟩), ⟨94, 9, 94, 107⟩, [(.ref 124), (.ref 125)]), some (none, false, [(.ref 124), (.ref 124), (.ref 123)], (.builtin "type.__call__" ⟨[(.type "set"), (.ref 123)], []⟩), ⟨94, 9, 94, 107⟩, [(.builtin "set.__init__"), (.ref 124), (.ref 123), (.builtin "set.__init__"), (.ref 124), (.ref 123)]), some (none, false, [], cE, ⟨94, 9, 94, 107⟩, [(.type "set"), (.ref 123)])], [topFrame qE])) (fun w => by kernel_rfl) (fun w => by kernel_rfl) w
theorem pc19c1 (led : Bool) (w : World) (os : OsState) : segGoT treeTable prog w 28 ann 1 197 (S19c0 led w os) (th19c0 w os) = some (S19c1 led w os, (th19c1 led w os)) := by
  rw [r19x1_eq]
  exact go_three (pc19c1s led w os) (pc19c1d led w os)
theorem pc19c2 (led : Bool) (w : World) (os : OsState) : segGoT treeTable prog w 28 ann 1 202 (S19c1 led w os) (th19c1 led w os) = some (S19c2 led w os, (th19c2 led w os)) := by
  cases led
  · exact rowed (fun w => segGoT treeTable prog w 28 ann 1 202 (S19c1 false w os) (th19c1 false w os)) (fun w => some (S19c2 false w os, (th19c2 false w os))) (fun w => by rw [PySem.W.Fast.te10295753902157049106, PySem.W.Fast.te14364793385576792824]; kernel_rfl) (fun w => by rw [PySem.W.Fast.te10295753902157049106, PySem.W.Fast.te14364793385576792824]; kernel_rfl) w
  · exact rowed (fun w => segGoT treeTable prog w 28 ann 1 202 (S19c1 true w os) (th19c1 true w os)) (fun w => some (S19c2 true w os, (th19c2 true w os))) (fun w => by rw [PySem.W.Fast.te10295753902157049106, PySem.W.Fast.te14364793385576792824]; kernel_rfl) (fun w => by rw [PySem.W.Fast.te10295753902157049106, PySem.W.Fast.te14364793385576792824]; kernel_rfl) w
theorem pc19endff (w : World) (os : OsState) : (fun w => segRunT treeTable prog w 28 ann 1 187 (S19c2 false w os) (th19c2 false w os)) (w.withFollow "special-get-raises" false) = (fun w => some (.next, S20L false w os, cE, ⟨94, 0, 94, 6⟩)) (w.withFollow "special-get-raises" false) := by rw [PySem.W.Fast.te10110043849684766642, PySem.W.Fast.te14364793385576792824]; kernel_rfl
theorem pc19endft (w : World) (os : OsState) : (fun w => segRunT treeTable prog w 28 ann 1 187 (S19c2 false w os) (th19c2 false w os)) (w.withFollow "special-get-raises" true) = (fun w => some (.next, S20L false w os, cE, ⟨94, 0, 94, 6⟩)) (w.withFollow "special-get-raises" true) := by rw [PySem.W.Fast.te10110043849684766642, PySem.W.Fast.te14364793385576792824]; kernel_rfl
theorem pc19endtf (w : World) (os : OsState) : (fun w => segRunT treeTable prog w 28 ann 1 187 (S19c2 true w os) (th19c2 true w os)) (w.withFollow "special-get-raises" false) = (fun w => some (.next, S20L true w os, cE, ⟨94, 0, 94, 6⟩)) (w.withFollow "special-get-raises" false) := by rw [PySem.W.Fast.te10110043849684766642, PySem.W.Fast.te14364793385576792824]; kernel_rfl
theorem pc19endtt (w : World) (os : OsState) : (fun w => segRunT treeTable prog w 28 ann 1 187 (S19c2 true w os) (th19c2 true w os)) (w.withFollow "special-get-raises" true) = (fun w => some (.next, S20L true w os, cE, ⟨94, 0, 94, 6⟩)) (w.withFollow "special-get-raises" true) := by rw [PySem.W.Fast.te10110043849684766642, PySem.W.Fast.te14364793385576792824]; kernel_rfl
theorem pc19end (led : Bool) (w : World) (os : OsState) : segRunT treeTable prog w 28 ann 1 187 (S19c2 led w os) (th19c2 led w os) = some (.next, S20L led w os, cE, ⟨94, 0, 94, 6⟩) := by
  cases led
  · exact rowed (fun w => segRunT treeTable prog w 28 ann 1 187 (S19c2 false w os) (th19c2 false w os)) (fun w => some (.next, S20L false w os, cE, ⟨94, 0, 94, 6⟩)) (fun w => pc19endff w os) (fun w => pc19endft w os) w
  · exact rowed (fun w => segRunT treeTable prog w 28 ann 1 187 (S19c2 true w os) (th19c2 true w os)) (fun w => some (.next, S20L true w os, cE, ⟨94, 0, 94, 6⟩)) (fun w => pc19endtf w os) (fun w => pc19endtt w os) w
theorem S20L_eq (w : World) (os : OsState) : S20L (!w.params.followText "set-order") w os = S20 w os := by kernel_rfl
theorem pc19 (w : World) (os : OsState) : segRun treeTable prog w 28 ann 1 999 (S19 w os).abs (piecesOf [stm 19] env cE ⟨93, 0, 93, 8⟩ [topFrame qE]) = some (.next, (S20 w os).abs, cE, ⟨94, 0, 94, 6⟩) := by
  rw [show 999 = 413 + (197 + (202 + (187))) from rfl, ← S20L_eq]
  exact (seg_go (segGo_of (pc19c0 w os)) (seg_go (segGo_of (pc19c1 (!w.params.followText "set-order") w os)) (seg_go (segGo_of (pc19c2 (!w.params.followText "set-order") w os)) (segRun_of (pc19end (!w.params.followText "set-order") w os)))))
theorem pc20 (w : World) (os : OsState) : segRunT treeTable prog w 28 ann 1 30 (S20 w os) (piecesOf [stm 20] env cE ⟨94, 0, 94, 6⟩ [topFrame qE]) = some (.next, S21 w os, cE, ⟨95, 0, 96, 30⟩) := by rw [PySem.W.Fast.te10110043849684766642, PySem.W.Fast.te14364793385576792824]; kernel_rfl
end Mine
end
section
open PySem PySem.W PyProof.Rows
namespace Mine
theorem pc21a0 (w : World) (os : OsState) : segRunT treeTable prog w 28 ann 1 224 (S21 w os) ⟨(subDict (ch21 0)).wrap atA deadEnd id id, cE, ⟨97, 16, 97, 8704⟩, [topFrame qE]⟩ = some (.ret (.ref 135), S21a0 w os, cE, ⟨97, 16, 97, 8704⟩) :=
  rowed (fun w => segRunT treeTable prog w 28 ann 1 224 (S21 w os) ⟨(subDict (ch21 0)).wrap atA deadEnd id id, cE, ⟨97, 16, 97, 8704⟩, [topFrame qE]⟩) (fun w => some (.ret (.ref 135), S21a0 w os, cE, ⟨97, 16, 97, 8704⟩)) (fun w => by rw [PySem.W.Fast.te10110043849684766642, PySem.W.Fast.te14364793385576792824, PySem.W.Fast.te11913375310210876947]; kernel_rfl) (fun w => by rw [PySem.W.Fast.te10110043849684766642, PySem.W.Fast.te14364793385576792824, PySem.W.Fast.te11913375310210876947]; kernel_rfl) w
theorem pc21a1 (w : World) (os : OsState) : segRunT treeTable prog w 28 ann 1 224 (S21b0 w os) ⟨(holding [.ref 135] (subDict (ch21 1))).wrap atA deadEnd id id, cE, ⟨97, 16, 97, 8704⟩, [topFrame qE]⟩ = some (.ret (.ref 136), S21a1 w os, cE, ⟨97, 16, 97, 8704⟩) :=
  rowed (fun w => segRunT treeTable prog w 28 ann 1 224 (S21b0 w os) ⟨(holding [.ref 135] (subDict (ch21 1))).wrap atA deadEnd id id, cE, ⟨97, 16, 97, 8704⟩, [topFrame qE]⟩) (fun w => some (.ret (.ref 136), S21a1 w os, cE, ⟨97, 16, 97, 8704⟩)) (fun w => by rw [PySem.W.Fast.te10110043849684766642, PySem.W.Fast.te14364793385576792824, PySem.W.Fast.te11913375310210876947, PySem.W.Fast.te17359229931016689406]; kernel_rfl) (fun w => by rw [PySem.W.Fast.te10110043849684766642, PySem.W.Fast.te14364793385576792824, PySem.W.Fast.te11913375310210876947, PySem.W.Fast.te17359229931016689406]; kernel_rfl) w
theorem pc21b1 (w : World) (os : OsState) : Goes prog w 28 ann top env qE (5 + 6 * 17) (S21a1 w os).abs (merge21 135 136) (S21b1 w os).abs () :=
  goes_merge21 (es := (dl12 w.params)) (es' := (dl13 w.params)) (k := 17) (k' := 17) (by kernel_rfl) (by kernel_rfl) (by kernel_rfl) (by kernel_rfl) (by decide) (by decide) (by decide) (by kernel_rfl) (by kernel_rfl) (by kernel_rfl) (by kernel_rfl) (by kernel_rfl)
theorem pc21a2 (w : World) (os : OsState) : segRunT treeTable prog w 28 ann 1 224 (S21b1 w os) ⟨(holding [.ref 135] (subDict (ch21 2))).wrap atA deadEnd id id, cE, ⟨97, 16, 97, 8704⟩, [topFrame qE]⟩ = some (.ret (.ref 137), S21a2 w os, cE, ⟨97, 16, 97, 8704⟩) :=
  rowed (fun w => segRunT treeTable prog w 28 ann 1 224 (S21b1 w os) ⟨(holding [.ref 135] (subDict (ch21 2))).wrap atA deadEnd id id, cE, ⟨97, 16, 97, 8704⟩, [topFrame qE]⟩) (fun w => some (.ret (.ref 137), S21a2 w os, cE, ⟨97, 16, 97, 8704⟩)) (fun w => by rw [PySem.W.Fast.te10110043849684766642, PySem.W.Fast.te14364793385576792824, PySem.W.Fast.te11913375310210876947, PySem.W.Fast.te17359229931016689406]; kernel_rfl) (fun w => by rw [PySem.W.Fast.te10110043849684766642, PySem.W.Fast.te14364793385576792824, PySem.W.Fast.te11913375310210876947, PySem.W.Fast.te17359229931016689406]; kernel_rfl) w
theorem pc21b2 (w : World) (os : OsState) : Goes prog w 28 ann top env qE (5 + 6 * 17) (S21a2 w os).abs (merge21 135 137) (S21b2 w os).abs () :=
  goes_merge21 (es := (dl14 w.params)) (es' := (dl15 w.params)) (k := 34) (k' := 17) (by kernel_rfl) (by kernel_rfl) (by kernel_rfl) (by kernel_rfl) (by decide) (by decide) (by decide) (by kernel_rfl) (by kernel_rfl) (by kernel_rfl) (by kernel_rfl) (by kernel_rfl)
theorem pc21a3 (w : World) (os : OsState) : segRunT treeTable prog w 28 ann 1 224 (S21b2 w os) ⟨(holding [.ref 135] (subDict (ch21 3))).wrap atA deadEnd id id, cE, ⟨97, 16, 97, 8704⟩, [topFrame qE]⟩ = some (.ret (.ref 138), S21a3 w os, cE, ⟨97, 16, 97, 8704⟩) :=
  rowed (fun w => segRunT treeTable prog w 28 ann 1 224 (S21b2 w os) ⟨(holding [.ref 135] (subDict (ch21 3))).wrap atA deadEnd id id, cE, ⟨97, 16, 97, 8704⟩, [topFrame qE]⟩) (fun w => some (.ret (.ref 138), S21a3 w os, cE, ⟨97, 16, 97, 8704⟩)) (fun w => by rw [PySem.W.Fast.te10110043849684766642, PySem.W.Fast.te14364793385576792824, PySem.W.Fast.te11913375310210876947, PySem.W.Fast.te17359229931016689406]; kernel_rfl) (fun w => by rw [PySem.W.Fast.te10110043849684766642, PySem.W.Fast.te14364793385576792824, PySem.W.Fast.te11913375310210876947, PySem.W.Fast.te17359229931016689406]; kernel_rfl) w
theorem pc21b3 (w : World) (os : OsState) : Goes prog w 28 ann top env qE (5 + 6 * 17) (S21a3 w os).abs (merge21 135 138) (S21b3 w os).abs () :=
  goes_merge21 (es := (dl16 w.params)) (es' := (dl17 w.params)) (k := 51) (k' := 17) (by kernel_rfl) (by kernel_rfl) (by kernel_rfl) (by kernel_rfl) (by decide) (by decide) (by decide) (by kernel_rfl) (by kernel_rfl) (by kernel_rfl) (by kernel_rfl) (by kernel_rfl)
theorem pc21a4 (w : World) (os : OsState) : segRunT treeTable prog w 28 ann 1 224 (S21b3 w os) ⟨(holding [.ref 135] (subDict (ch21 4))).wrap atA deadEnd id id, cE, ⟨97, 16, 97, 8704⟩, [topFrame qE]⟩ = some (.ret (.ref 139), S21a4 w os, cE, ⟨97, 16, 97, 8704⟩) :=
  rowed (fun w => segRunT treeTable prog w 28 ann 1 224 (S21b3 w os) ⟨(holding [.ref 135] (subDict (ch21 4))).wrap atA deadEnd id id, cE, ⟨97, 16, 97, 8704⟩, [topFrame qE]⟩) (fun w => some (.ret (.ref 139), S21a4 w os, cE, ⟨97, 16, 97, 8704⟩)) (fun w => by rw [PySem.W.Fast.te10110043849684766642, PySem.W.Fast.te14364793385576792824, PySem.W.Fast.te11913375310210876947, PySem.W.Fast.te17359229931016689406]; kernel_rfl) (fun w => by rw [PySem.W.Fast.te10110043849684766642, PySem.W.Fast.te14364793385576792824, PySem.W.Fast.te11913375310210876947, PySem.W.Fast.te17359229931016689406]; kernel_rfl) w
theorem pc21b4 (w : World) (os : OsState) : Goes prog w 28 ann top env qE (5 + 6 * 17) (S21a4 w os).abs (merge21 135 139) (S21b4 w os).abs () :=
  goes_merge21 (es := (dl18 w.params)) (es' := (dl19 w.params)) (k := 68) (k' := 17) (by kernel_rfl) (by kernel_rfl) (by kernel_rfl) (by kernel_rfl) (by decide) (by decide) (by decide) (by kernel_rfl) (by kernel_rfl) (by kernel_rfl) (by kernel_rfl) (by kernel_rfl)
theorem pc21a5 (w : World) (os : OsState) : segRunT treeTable prog w 28 ann 1 224 (S21b4 w os) ⟨(holding [.ref 135] (subDict (ch21 5))).wrap atA deadEnd id id, cE, ⟨97, 16, 97, 8704⟩, [topFrame qE]⟩ = some (.ret (.ref 140), S21a5 w os, cE, ⟨97, 16, 97, 8704⟩) :=
  rowed (fun w => segRunT treeTable prog w 28 ann 1 224 (S21b4 w os) ⟨(holding [.ref 135] (subDict (ch21 5))).wrap atA deadEnd id id, cE, ⟨97, 16, 97, 8704⟩, [topFrame qE]⟩) (fun w => some (.ret (.ref 140), S21a5 w os, cE, ⟨97, 16, 97, 8704⟩)) (fun w => by rw [PySem.W.Fast.te10110043849684766642, PySem.W.Fast.te14364793385576792824, PySem.W.Fast.te11913375310210876947, PySem.W.Fast.te17359229931016689406]; kernel_rfl) (fun w => by rw [PySem.W.Fast.te10110043849684766642, PySem.W.Fast.te14364793385576792824, PySem.W.Fast.te11913375310210876947, PySem.W.Fast.te17359229931016689406]; kernel_rfl) w
theorem pc21b5 (w : World) (os : OsState) : Goes prog w 28 ann top env qE (5 + 6 * 17) (S21a5 w os).abs (merge21 135 140) (S21b5 w os).abs () :=
  goes_merge21 (es := (dl20 w.params)) (es' := (dl21 w.params)) (k := 85) (k' := 17) (by kernel_rfl) (by kernel_rfl) (by kernel_rfl) (by kernel_rfl) (by decide) (by decide) (by decide) (by kernel_rfl) (by kernel_rfl) (by kernel_rfl) (by kernel_rfl) (by kernel_rfl)
theorem pc21a6 (w : World) (os : OsState) : segRunT treeTable prog w 28 ann 1 224 (S21b5 w os) ⟨(holding [.ref 135] (subDict (ch21 6))).wrap atA deadEnd id id, cE, ⟨97, 16, 97, 8704⟩, [topFrame qE]⟩ = some (.ret (.ref 141), S21a6 w os, cE, ⟨97, 16, 97, 8704⟩) :=
  rowed (fun w => segRunT treeTable prog w 28 ann 1 224 (S21b5 w os) ⟨(holding [.ref 135] (subDict (ch21 6))).wrap atA deadEnd id id, cE, ⟨97, 16, 97, 8704⟩, [topFrame qE]⟩) (fun w => some (.ret (.ref 141), S21a6 w os, cE, ⟨97, 16, 97, 8704⟩)) (fun w => by rw [PySem.W.Fast.te10110043849684766642, PySem.W.Fast.te14364793385576792824, PySem.W.Fast.te11913375310210876947, PySem.W.Fast.te17359229931016689406]; kernel_rfl) (fun w => by rw [PySem.W.Fast.te10110043849684766642, PySem.W.Fast.te14364793385576792824, PySem.W.Fast.te11913375310210876947, PySem.W.Fast.te17359229931016689406]; kernel_rfl) w
theorem pc21b6 (w : World) (os : OsState) : Goes prog w 28 ann top env qE (5 + 6 * 17) (S21a6 w os).abs (merge21 135 141) (S21b6 w os).abs () :=
  goes_merge21 (es := (dl22 w.params)) (es' := (dl23 w.params)) (k := 102) (k' := 17) (by kernel_rfl) (by kernel_rfl) (by kernel_rfl) (by kernel_rfl) (by decide) (by decide) (by decide) (by kernel_rfl) (by kernel_rfl) (by kernel_rfl) (by kernel_rfl) (by kernel_rfl)
theorem pc21a7 (w : World) (os : OsState) : segRunT treeTable prog w 28 ann 1 224 (S21b6 w os) ⟨(holding [.ref 135] (subDict (ch21 7))).wrap atA deadEnd id id, cE, ⟨97, 16, 97, 8704⟩, [topFrame qE]⟩ = some (.ret (.ref 142), S21a7 w os, cE, ⟨97, 16, 97, 8704⟩) :=
  rowed (fun w => segRunT treeTable prog w 28 ann 1 224 (S21b6 w os) ⟨(holding [.ref 135] (subDict (ch21 7))).wrap atA deadEnd id id, cE, ⟨97, 16, 97, 8704⟩, [topFrame qE]⟩) (fun w => some (.ret (.ref 142), S21a7 w os, cE, ⟨97, 16, 97, 8704⟩)) (fun w => by rw [PySem.W.Fast.te10110043849684766642, PySem.W.Fast.te14364793385576792824, PySem.W.Fast.te11913375310210876947, PySem.W.Fast.te17359229931016689406]; kernel_rfl) (fun w => by rw [PySem.W.Fast.te10110043849684766642, PySem.W.Fast.te14364793385576792824, PySem.W.Fast.te11913375310210876947, PySem.W.Fast.te17359229931016689406]; kernel_rfl) w
theorem pc21b7 (w : World) (os : OsState) : Goes prog w 28 ann top env qE (5 + 6 * 17) (S21a7 w os).abs (merge21 135 142) (S21b7 w os).abs () :=
  goes_merge21 (es := (dl24 w.params)) (es' := (dl25 w.params)) (k := 119) (k' := 17) (by kernel_rfl) (by kernel_rfl) (by kernel_rfl) (by kernel_rfl) (by decide) (by decide) (by decide) (by kernel_rfl) (by kernel_rfl) (by kernel_rfl) (by kernel_rfl) (by kernel_rfl)
theorem pc21a8 (w : World) (os : OsState) : segRunT treeTable prog w 28 ann 1 224 (S21b7 w os) ⟨(holding [.ref 135] (subDict (ch21 8))).wrap atA deadEnd id id, cE, ⟨97, 16, 97, 8704⟩, [topFrame qE]⟩ = some (.ret (.ref 143), S21a8 w os, cE, ⟨97, 16, 97, 8704⟩) :=
  rowed (fun w => segRunT treeTable prog w 28 ann 1 224 (S21b7 w os) ⟨(holding [.ref 135] (subDict (ch21 8))).wrap atA deadEnd id id, cE, ⟨97, 16, 97, 8704⟩, [topFrame qE]⟩) (fun w => some (.ret (.ref 143), S21a8 w os, cE, ⟨97, 16, 97, 8704⟩)) (fun w => by rw [PySem.W.Fast.te10110043849684766642, PySem.W.Fast.te14364793385576792824, PySem.W.Fast.te11913375310210876947, PySem.W.Fast.te17359229931016689406]; kernel_rfl) (fun w => by rw [PySem.W.Fast.te10110043849684766642, PySem.W.Fast.te14364793385576792824, PySem.W.Fast.te11913375310210876947, PySem.W.Fast.te17359229931016689406]; kernel_rfl) w
theorem pc21b8 (w : World) (os : OsState) : Goes prog w 28 ann top env qE (5 + 6 * 17) (S21a8 w os).abs (merge21 135 143) (S21b8 w os).abs () :=
  goes_merge21 (es := (dl26 w.params)) (es' := (dl27 w.params)) (k := 136) (k' := 17) (by kernel_rfl) (by kernel_rfl) (by kernel_rfl) (by kernel_rfl) (by decide) (by decide) (by decide) (by kernel_rfl) (by kernel_rfl) (by kernel_rfl) (by kernel_rfl) (by kernel_rfl)
theorem pc21a9 (w : World) (os : OsState) : segRunT treeTable prog w 28 ann 1 224 (S21b8 w os) ⟨(holding [.ref 135] (subDict (ch21 9))).wrap atA deadEnd id id, cE, ⟨97, 16, 97, 8704⟩, [topFrame qE]⟩ = some (.ret (.ref 144), S21a9 w os, cE, ⟨97, 16, 97, 8704⟩) :=
  rowed (fun w => segRunT treeTable prog w 28 ann 1 224 (S21b8 w os) ⟨(holding [.ref 135] (subDict (ch21 9))).wrap atA deadEnd id id, cE, ⟨97, 16, 97, 8704⟩, [topFrame qE]⟩) (fun w => some (.ret (.ref 144), S21a9 w os, cE, ⟨97, 16, 97, 8704⟩)) (fun w => by rw [PySem.W.Fast.te10110043849684766642, PySem.W.Fast.te14364793385576792824, PySem.W.Fast.te11913375310210876947, PySem.W.Fast.te17359229931016689406]; kernel_rfl) (fun w => by rw [PySem.W.Fast.te10110043849684766642, PySem.W.Fast.te14364793385576792824, PySem.W.Fast.te11913375310210876947, PySem.W.Fast.te17359229931016689406]; kernel_rfl) w
theorem pc21b9 (w : World) (os : OsState) : Goes prog w 28 ann top env qE (5 + 6 * 17) (S21a9 w os).abs (merge21 135 144) (S21b9 w os).abs () :=
  goes_merge21 (es := (dl28 w.params)) (es' := (dl29 w.params)) (k := 153) (k' := 17) (by kernel_rfl) (by kernel_rfl) (by kernel_rfl) (by kernel_rfl) (by decide) (by decide) (by decide) (by kernel_rfl) (by kernel_rfl) (by kernel_rfl) (by kernel_rfl) (by kernel_rfl)
theorem pc21a10 (w : World) (os : OsState) : segRunT treeTable prog w 28 ann 1 224 (S21b9 w os) ⟨(holding [.ref 135] (subDict (ch21 10))).wrap atA deadEnd id id, cE, ⟨97, 16, 97, 8704⟩, [topFrame qE]⟩ = some (.ret (.ref 145), S21a10 w os, cE, ⟨97, 16, 97, 8704⟩) :=
  rowed (fun w => segRunT treeTable prog w 28 ann 1 224 (S21b9 w os) ⟨(holding [.ref 135] (subDict (ch21 10))).wrap atA deadEnd id id, cE, ⟨97, 16, 97, 8704⟩, [topFrame qE]⟩) (fun w => some (.ret (.ref 145), S21a10 w os, cE, ⟨97, 16, 97, 8704⟩)) (fun w => by rw [PySem.W.Fast.te10110043849684766642, PySem.W.Fast.te14364793385576792824, PySem.W.Fast.te11913375310210876947, PySem.W.Fast.te17359229931016689406]; kernel_rfl) (fun w => by rw [PySem.W.Fast.te10110043849684766642, PySem.W.Fast.te14364793385576792824, PySem.W.Fast.te11913375310210876947, PySem.W.Fast.te17359229931016689406]; kernel_rfl) w
theorem pc21b10 (w : World) (os : OsState) : Goes prog w 28 ann top env qE (5 + 6 * 17) (S21a10 w os).abs (merge21 135 145) (S21b10 w os).abs () :=
  goes_merge21 (es := (dl30 w.params)) (es' := (dl31 w.params)) (k := 170) (k' := 17) (by kernel_rfl) (by kernel_rfl) (by kernel_rfl) (by kernel_rfl) (by decide) (by decide) (by decide) (by kernel_rfl) (by kernel_rfl) (by kernel_rfl) (by kernel_rfl) (by kernel_rfl)
theorem pc21a11 (w : World) (os : OsState) : segRunT treeTable prog w 28 ann 1 224 (S21b10 w os) ⟨(holding [.ref 135] (subDict (ch21 11))).wrap atA deadEnd id id, cE, ⟨97, 16, 97, 8704⟩, [topFrame qE]⟩ = some (.ret (.ref 146), S21a11 w os, cE, ⟨97, 16, 97, 8704⟩) :=
  rowed (fun w => segRunT treeTable prog w 28 ann 1 224 (S21b10 w os) ⟨(holding [.ref 135] (subDict (ch21 11))).wrap atA deadEnd id id, cE, ⟨97, 16, 97, 8704⟩, [topFrame qE]⟩) (fun w => some (.ret (.ref 146), S21a11 w os, cE, ⟨97, 16, 97, 8704⟩)) (fun w => by rw [PySem.W.Fast.te10110043849684766642, PySem.W.Fast.te14364793385576792824, PySem.W.Fast.te11913375310210876947, PySem.W.Fast.te17359229931016689406]; kernel_rfl) (fun w => by rw [PySem.W.Fast.te10110043849684766642, PySem.W.Fast.te14364793385576792824, PySem.W.Fast.te11913375310210876947, PySem.W.Fast.te17359229931016689406]; kernel_rfl) w
theorem pc21b11 (w : World) (os : OsState) : Goes prog w 28 ann top env qE (5 + 6 * 17) (S21a11 w os).abs (merge21 135 146) (S21b11 w os).abs () :=
  goes_merge21 (es := (dl32 w.params)) (es' := (dl33 w.params)) (k := 187) (k' := 17) (by kernel_rfl) (by kernel_rfl) (by kernel_rfl) (by kernel_rfl) (by decide) (by decide) (by decide) (by kernel_rfl) (by kernel_rfl) (by kernel_rfl) (by kernel_rfl) (by kernel_rfl)
theorem pc21a12 (w : World) (os : OsState) : segRunT treeTable prog w 28 ann 1 224 (S21b11 w os) ⟨(holding [.ref 135] (subDict (ch21 12))).wrap atA deadEnd id id, cE, ⟨97, 16, 97, 8704⟩, [topFrame qE]⟩ = some (.ret (.ref 147), S21a12 w os, cE, ⟨97, 16, 97, 8704⟩) :=
  rowed (fun w => segRunT treeTable prog w 28 ann 1 224 (S21b11 w os) ⟨(holding [.ref 135] (subDict (ch21 12))).wrap atA deadEnd id id, cE, ⟨97, 16, 97, 8704⟩, [topFrame qE]⟩) (fun w => some (.ret (.ref 147), S21a12 w os, cE, ⟨97, 16, 97, 8704⟩)) (fun w => by rw [PySem.W.Fast.te10110043849684766642, PySem.W.Fast.te14364793385576792824, PySem.W.Fast.te11913375310210876947, PySem.W.Fast.te17359229931016689406]; kernel_rfl) (fun w => by rw [PySem.W.Fast.te10110043849684766642, PySem.W.Fast.te14364793385576792824, PySem.W.Fast.te11913375310210876947, PySem.W.Fast.te17359229931016689406]; kernel_rfl) w
theorem pc21b12 (w : World) (os : OsState) : Goes prog w 28 ann top env qE (5 + 6 * 17) (S21a12 w os).abs (merge21 135 147) (S21b12 w os).abs () :=
  goes_merge21 (es := (dl34 w.params)) (es' := (dl35 w.params)) (k := 204) (k' := 17) (by kernel_rfl) (by kernel_rfl) (by kernel_rfl) (by kernel_rfl) (by decide) (by decide) (by decide) (by kernel_rfl) (by kernel_rfl) (by kernel_rfl) (by kernel_rfl) (by kernel_rfl)
end Mine
end
section
open PySem PySem.W PyProof.Rows
namespace Mine
theorem pc21a13 (w : World) (os : OsState) : segRunT treeTable prog w 28 ann 1 224 (S21b12 w os) ⟨(holding [.ref 135] (subDict (ch21 13))).wrap atA deadEnd id id, cE, ⟨97, 16, 97, 8704⟩, [topFrame qE]⟩ = some (.ret (.ref 148), S21a13 w os, cE, ⟨97, 16, 97, 8704⟩) :=
  rowed (fun w => segRunT treeTable prog w 28 ann 1 224 (S21b12 w os) ⟨(holding [.ref 135] (subDict (ch21 13))).wrap atA deadEnd id id, cE, ⟨97, 16, 97, 8704⟩, [topFrame qE]⟩) (fun w => some (.ret (.ref 148), S21a13 w os, cE, ⟨97, 16, 97, 8704⟩)) (fun w => by rw [PySem.W.Fast.te10110043849684766642, PySem.W.Fast.te14364793385576792824, PySem.W.Fast.te11913375310210876947, PySem.W.Fast.te17359229931016689406]; kernel_rfl) (fun w => by rw [PySem.W.Fast.te10110043849684766642, PySem.W.Fast.te14364793385576792824, PySem.W.Fast.te11913375310210876947, PySem.W.Fast.te17359229931016689406]; kernel_rfl) w
theorem pc21b13 (w : World) (os : OsState) : Goes prog w 28 ann top env qE (5 + 6 * 17) (S21a13 w os).abs (merge21 135 148) (S21b13 w os).abs () :=
  goes_merge21 (es := (dl36 w.params)) (es' := (dl37 w.params)) (k := 221) (k' := 17) (by kernel_rfl) (by kernel_rfl) (by kernel_rfl) (by kernel_rfl) (by decide) (by decide) (by decide) (by kernel_rfl) (by kernel_rfl) (by kernel_rfl) (by kernel_rfl) (by kernel_rfl)
theorem pc21a14 (w : World) (os : OsState) : segRunT treeTable prog w 28 ann 1 224 (S21b13 w os) ⟨(holding [.ref 135] (subDict (ch21 14))).wrap atA deadEnd id id, cE, ⟨97, 16, 97, 8704⟩, [topFrame qE]⟩ = some (.ret (.ref 149), S21a14 w os, cE, ⟨97, 16, 97, 8704⟩) :=
  rowed (fun w => segRunT treeTable prog w 28 ann 1 224 (S21b13 w os) ⟨(holding [.ref 135] (subDict (ch21 14))).wrap atA deadEnd id id, cE, ⟨97, 16, 97, 8704⟩, [topFrame qE]⟩) (fun w => some (.ret (.ref 149), S21a14 w os, cE, ⟨97, 16, 97, 8704⟩)) (fun w => by rw [PySem.W.Fast.te10110043849684766642, PySem.W.Fast.te14364793385576792824, PySem.W.Fast.te11913375310210876947, PySem.W.Fast.te17359229931016689406]; kernel_rfl) (fun w => by rw [PySem.W.Fast.te10110043849684766642, PySem.W.Fast.te14364793385576792824, PySem.W.Fast.te11913375310210876947, PySem.W.Fast.te17359229931016689406]; kernel_rfl) w
theorem pc21b14 (w : World) (os : OsState) : Goes prog w 28 ann top env qE (5 + 6 * 17) (S21a14 w os).abs (merge21 135 149) (S21b14 w os).abs () :=
  goes_merge21 (es := (dl38 w.params)) (es' := (dl39 w.params)) (k := 238) (k' := 17) (by kernel_rfl) (by kernel_rfl) (by kernel_rfl) (by kernel_rfl) (by decide) (by decide) (by decide) (by kernel_rfl) (by kernel_rfl) (by kernel_rfl) (by kernel_rfl) (by kernel_rfl)
theorem pc21a15 (w : World) (os : OsState) : segRunT treeTable prog w 28 ann 1 224 (S21b14 w os) ⟨(holding [.ref 135] (subDict (ch21 15))).wrap atA deadEnd id id, cE, ⟨97, 16, 97, 8704⟩, [topFrame qE]⟩ = some (.ret (.ref 150), S21a15 w os, cE, ⟨97, 16, 97, 8704⟩) :=
  rowed (fun w => segRunT treeTable prog w 28 ann 1 224 (S21b14 w os) ⟨(holding [.ref 135] (subDict (ch21 15))).wrap atA deadEnd id id, cE, ⟨97, 16, 97, 8704⟩, [topFrame qE]⟩) (fun w => some (.ret (.ref 150), S21a15 w os, cE, ⟨97, 16, 97, 8704⟩)) (fun w => by rw [PySem.W.Fast.te10110043849684766642, PySem.W.Fast.te14364793385576792824, PySem.W.Fast.te11913375310210876947, PySem.W.Fast.te17359229931016689406]; kernel_rfl) (fun w => by rw [PySem.W.Fast.te10110043849684766642, PySem.W.Fast.te14364793385576792824, PySem.W.Fast.te11913375310210876947, PySem.W.Fast.te17359229931016689406]; kernel_rfl) w
theorem pc21b15 (w : World) (os : OsState) : Goes prog w 28 ann top env qE (5 + 6 * 17) (S21a15 w os).abs (merge21 135 150) (S21b15 w os).abs () :=
  goes_merge21 (es := (dl40 w.params)) (es' := (dl41 w.params)) (k := 255) (k' := 17) (by kernel_rfl) (by kernel_rfl) (by kernel_rfl) (by kernel_rfl) (by decide) (by decide) (by decide) (by kernel_rfl) (by kernel_rfl) (by kernel_rfl) (by kernel_rfl) (by kernel_rfl)
theorem pc21a16 (w : World) (os : OsState) : segRunT treeTable prog w 28 ann 1 224 (S21b15 w os) ⟨(holding [.ref 135] (subDict (ch21 16))).wrap atA deadEnd id id, cE, ⟨97, 16, 97, 8704⟩, [topFrame qE]⟩ = some (.ret (.ref 151), S21a16 w os, cE, ⟨97, 16, 97, 8704⟩) :=
  rowed (fun w => segRunT treeTable prog w 28 ann 1 224 (S21b15 w os) ⟨(holding [.ref 135] (subDict (ch21 16))).wrap atA deadEnd id id, cE, ⟨97, 16, 97, 8704⟩, [topFrame qE]⟩) (fun w => some (.ret (.ref 151), S21a16 w os, cE, ⟨97, 16, 97, 8704⟩)) (fun w => by rw [PySem.W.Fast.te10110043849684766642, PySem.W.Fast.te14364793385576792824, PySem.W.Fast.te11913375310210876947, PySem.W.Fast.te17359229931016689406]; kernel_rfl) (fun w => by rw [PySem.W.Fast.te10110043849684766642, PySem.W.Fast.te14364793385576792824, PySem.W.Fast.te11913375310210876947, PySem.W.Fast.te17359229931016689406]; kernel_rfl) w
theorem pc21b16 (w : World) (os : OsState) : Goes prog w 28 ann top env qE (5 + 6 * 17) (S21a16 w os).abs (merge21 135 151) (S21b16 w os).abs () :=
  goes_merge21 (es := (dl42 w.params)) (es' := (dl43 w.params)) (k := 272) (k' := 17) (by kernel_rfl) (by kernel_rfl) (by kernel_rfl) (by kernel_rfl) (by decide) (by decide) (by decide) (by kernel_rfl) (by kernel_rfl) (by kernel_rfl) (by kernel_rfl) (by kernel_rfl)
theorem pc21a17 (w : World) (os : OsState) : segRunT treeTable prog w 28 ann 1 224 (S21b16 w os) ⟨(holding [.ref 135] (subDict (ch21 17))).wrap atA deadEnd id id, cE, ⟨97, 16, 97, 8704⟩, [topFrame qE]⟩ = some (.ret (.ref 152), S21a17 w os, cE, ⟨97, 16, 97, 8704⟩) :=
  rowed (fun w => segRunT treeTable prog w 28 ann 1 224 (S21b16 w os) ⟨(holding [.ref 135] (subDict (ch21 17))).wrap atA deadEnd id id, cE, ⟨97, 16, 97, 8704⟩, [topFrame qE]⟩) (fun w => some (.ret (.ref 152), S21a17 w os, cE, ⟨97, 16, 97, 8704⟩)) (fun w => by rw [PySem.W.Fast.te10110043849684766642, PySem.W.Fast.te14364793385576792824, PySem.W.Fast.te11913375310210876947, PySem.W.Fast.te17359229931016689406]; kernel_rfl) (fun w => by rw [PySem.W.Fast.te10110043849684766642, PySem.W.Fast.te14364793385576792824, PySem.W.Fast.te11913375310210876947, PySem.W.Fast.te17359229931016689406]; kernel_rfl) w
theorem pc21b17 (w : World) (os : OsState) : Goes prog w 28 ann top env qE (5 + 6 * 17) (S21a17 w os).abs (merge21 135 152) (S21b17 w os).abs () :=
  goes_merge21 (es := (dl44 w.params)) (es' := (dl45 w.params)) (k := 289) (k' := 17) (by kernel_rfl) (by kernel_rfl) (by kernel_rfl) (by kernel_rfl) (by decide) (by decide) (by decide) (by kernel_rfl) (by kernel_rfl) (by kernel_rfl) (by kernel_rfl) (by kernel_rfl)
theorem pc21a18 (w : World) (os : OsState) : segRunT treeTable prog w 28 ann 1 224 (S21b17 w os) ⟨(holding [.ref 135] (subDict (ch21 18))).wrap atA deadEnd id id, cE, ⟨97, 16, 97, 8704⟩, [topFrame qE]⟩ = some (.ret (.ref 153), S21a18 w os, cE, ⟨97, 16, 97, 8704⟩) :=
  rowed (fun w => segRunT treeTable prog w 28 ann 1 224 (S21b17 w os) ⟨(holding [.ref 135] (subDict (ch21 18))).wrap atA deadEnd id id, cE, ⟨97, 16, 97, 8704⟩, [topFrame qE]⟩) (fun w => some (.ret (.ref 153), S21a18 w os, cE, ⟨97, 16, 97, 8704⟩)) (fun w => by rw [PySem.W.Fast.te10110043849684766642, PySem.W.Fast.te14364793385576792824, PySem.W.Fast.te11913375310210876947, PySem.W.Fast.te17359229931016689406]; kernel_rfl) (fun w => by rw [PySem.W.Fast.te10110043849684766642, PySem.W.Fast.te14364793385576792824, PySem.W.Fast.te11913375310210876947, PySem.W.Fast.te17359229931016689406]; kernel_rfl) w
theorem pc21b18 (w : World) (os : OsState) : Goes prog w 28 ann top env qE (5 + 6 * 17) (S21a18 w os).abs (merge21 135 153) (S21b18 w os).abs () :=
  goes_merge21 (es := (dl46 w.params)) (es' := (dl47 w.params)) (k := 306) (k' := 17) (by kernel_rfl) (by kernel_rfl) (by kernel_rfl) (by kernel_rfl) (by decide) (by decide) (by decide) (by kernel_rfl) (by kernel_rfl) (by kernel_rfl) (by kernel_rfl) (by kernel_rfl)
theorem pc21a19 (w : World) (os : OsState) : segRunT treeTable prog w 28 ann 1 224 (S21b18 w os) ⟨(holding [.ref 135] (subDict (ch21 19))).wrap atA deadEnd id id, cE, ⟨97, 16, 97, 8704⟩, [topFrame qE]⟩ = some (.ret (.ref 154), S21a19 w os, cE, ⟨97, 16, 97, 8704⟩) :=
  rowed (fun w => segRunT treeTable prog w 28 ann 1 224 (S21b18 w os) ⟨(holding [.ref 135] (subDict (ch21 19))).wrap atA deadEnd id id, cE, ⟨97, 16, 97, 8704⟩, [topFrame qE]⟩) (fun w => some (.ret (.ref 154), S21a19 w os, cE, ⟨97, 16, 97, 8704⟩)) (fun w => by rw [PySem.W.Fast.te10110043849684766642, PySem.W.Fast.te14364793385576792824, PySem.W.Fast.te11913375310210876947, PySem.W.Fast.te17359229931016689406]; kernel_rfl) (fun w => by rw [PySem.W.Fast.te10110043849684766642, PySem.W.Fast.te14364793385576792824, PySem.W.Fast.te11913375310210876947, PySem.W.Fast.te17359229931016689406]; kernel_rfl) w
theorem pc21b19 (w : World) (os : OsState) : Goes prog w 28 ann top env qE (5 + 6 * 17) (S21a19 w os).abs (merge21 135 154) (S21b19 w os).abs () :=
  goes_merge21 (es := (dl48 w.params)) (es' := (dl49 w.params)) (k := 323) (k' := 17) (by kernel_rfl) (by kernel_rfl) (by kernel_rfl) (by kernel_rfl) (by decide) (by decide) (by decide) (by kernel_rfl) (by kernel_rfl) (by kernel_rfl) (by kernel_rfl) (by kernel_rfl)
theorem pc21a20 (w : World) (os : OsState) : segRunT treeTable prog w 28 ann 1 224 (S21b19 w os) ⟨(holding [.ref 135] (subDict (ch21 20))).wrap atA deadEnd id id, cE, ⟨97, 16, 97, 8704⟩, [topFrame qE]⟩ = some (.ret (.ref 155), S21a20 w os, cE, ⟨97, 16, 97, 8704⟩) :=
  rowed (fun w => segRunT treeTable prog w 28 ann 1 224 (S21b19 w os) ⟨(holding [.ref 135] (subDict (ch21 20))).wrap atA deadEnd id id, cE, ⟨97, 16, 97, 8704⟩, [topFrame qE]⟩) (fun w => some (.ret (.ref 155), S21a20 w os, cE, ⟨97, 16, 97, 8704⟩)) (fun w => by rw [PySem.W.Fast.te10110043849684766642, PySem.W.Fast.te14364793385576792824, PySem.W.Fast.te11913375310210876947, PySem.W.Fast.te17359229931016689406]; kernel_rfl) (fun w => by rw [PySem.W.Fast.te10110043849684766642, PySem.W.Fast.te14364793385576792824, PySem.W.Fast.te11913375310210876947, PySem.W.Fast.te17359229931016689406]; kernel_rfl) w
theorem pc21b20 (w : World) (os : OsState) : Goes prog w 28 ann top env qE (5 + 6 * 17) (S21a20 w os).abs (merge21 135 155) (S21b20 w os).abs () :=
  goes_merge21 (es := (dl50 w.params)) (es' := (dl51 w.params)) (k := 340) (k' := 17) (by kernel_rfl) (by kernel_rfl) (by kernel_rfl) (by kernel_rfl) (by decide) (by decide) (by decide) (by kernel_rfl) (by kernel_rfl) (by kernel_rfl) (by kernel_rfl) (by kernel_rfl)
theorem pc21a21 (w : World) (os : OsState) : segRunT treeTable prog w 28 ann 1 224 (S21b20 w os) ⟨(holding [.ref 135] (subDict (ch21 21))).wrap atA deadEnd id id, cE, ⟨97, 16, 97, 8704⟩, [topFrame qE]⟩ = some (.ret (.ref 156), S21a21 w os, cE, ⟨97, 16, 97, 8704⟩) :=
  rowed (fun w => segRunT treeTable prog w 28 ann 1 224 (S21b20 w os) ⟨(holding [.ref 135] (subDict (ch21 21))).wrap atA deadEnd id id, cE, ⟨97, 16, 97, 8704⟩, [topFrame qE]⟩) (fun w => some (.ret (.ref 156), S21a21 w os, cE, ⟨97, 16, 97, 8704⟩)) (fun w => by rw [PySem.W.Fast.te10110043849684766642, PySem.W.Fast.te14364793385576792824, PySem.W.Fast.te11913375310210876947, PySem.W.Fast.te17359229931016689406]; kernel_rfl) (fun w => by rw [PySem.W.Fast.te10110043849684766642, PySem.W.Fast.te14364793385576792824, PySem.W.Fast.te11913375310210876947, PySem.W.Fast.te17359229931016689406]; kernel_rfl) w
theorem pc21b21 (w : World) (os : OsState) : Goes prog w 28 ann top env qE (5 + 6 * 17) (S21a21 w os).abs (merge21 135 156) (S21b21 w os).abs () :=
  goes_merge21 (es := (dl52 w.params)) (es' := (dl53 w.params)) (k := 357) (k' := 17) (by kernel_rfl) (by kernel_rfl) (by kernel_rfl) (by kernel_rfl) (by decide) (by decide) (by decide) (by kernel_rfl) (by kernel_rfl) (by kernel_rfl) (by kernel_rfl) (by kernel_rfl)
theorem pc21a22 (w : World) (os : OsState) : segRunT treeTable prog w 28 ann 1 224 (S21b21 w os) ⟨(holding [.ref 135] (subDict (ch21 22))).wrap atA deadEnd id id, cE, ⟨97, 16, 97, 8704⟩, [topFrame qE]⟩ = some (.ret (.ref 157), S21a22 w os, cE, ⟨97, 16, 97, 8704⟩) :=
  rowed (fun w => segRunT treeTable prog w 28 ann 1 224 (S21b21 w os) ⟨(holding [.ref 135] (subDict (ch21 22))).wrap atA deadEnd id id, cE, ⟨97, 16, 97, 8704⟩, [topFrame qE]⟩) (fun w => some (.ret (.ref 157), S21a22 w os, cE, ⟨97, 16, 97, 8704⟩)) (fun w => by rw [PySem.W.Fast.te10110043849684766642, PySem.W.Fast.te14364793385576792824, PySem.W.Fast.te11913375310210876947, PySem.W.Fast.te17359229931016689406]; kernel_rfl) (fun w => by rw [PySem.W.Fast.te10110043849684766642, PySem.W.Fast.te14364793385576792824, PySem.W.Fast.te11913375310210876947, PySem.W.Fast.te17359229931016689406]; kernel_rfl) w
theorem pc21b22 (w : World) (os : OsState) : Goes prog w 28 ann top env qE (5 + 6 * 17) (S21a22 w os).abs (merge21 135 157) (S21b22 w os).abs () :=
  goes_merge21 (es := (dl54 w.params)) (es' := (dl55 w.params)) (k := 374) (k' := 17) (by kernel_rfl) (by kernel_rfl) (by kernel_rfl) (by kernel_rfl) (by decide) (by decide) (by decide) (by kernel_rfl) (by kernel_rfl) (by kernel_rfl) (by kernel_rfl) (by kernel_rfl)
theorem pc21a23 (w : World) (os : OsState) : segRunT treeTable prog w 28 ann 1 224 (S21b22 w os) ⟨(holding [.ref 135] (subDict (ch21 23))).wrap atA deadEnd id id, cE, ⟨97, 16, 97, 8704⟩, [topFrame qE]⟩ = some (.ret (.ref 158), S21a23 w os, cE, ⟨97, 16, 97, 8704⟩) :=
  rowed (fun w => segRunT treeTable prog w 28 ann 1 224 (S21b22 w os) ⟨(holding [.ref 135] (subDict (ch21 23))).wrap atA deadEnd id id, cE, ⟨97, 16, 97, 8704⟩, [topFrame qE]⟩) (fun w => some (.ret (.ref 158), S21a23 w os, cE, ⟨97, 16, 97, 8704⟩)) (fun w => by rw [PySem.W.Fast.te10110043849684766642, PySem.W.Fast.te14364793385576792824, PySem.W.Fast.te11913375310210876947, PySem.W.Fast.te17359229931016689406]; kernel_rfl) (fun w => by rw [PySem.W.Fast.te10110043849684766642, PySem.W.Fast.te14364793385576792824, PySem.W.Fast.te11913375310210876947, PySem.W.Fast.te17359229931016689406]; kernel_rfl) w
theorem pc21b23 (w : World) (os : OsState) : Goes prog w 28 ann top env qE (5 + 6 * 17) (S21a23 w os).abs (merge21 135 158) (S21b23 w os).abs () :=
  goes_merge21 (es := (dl56 w.params)) (es' := (dl57 w.params)) (k := 391) (k' := 17) (by kernel_rfl) (by kernel_rfl) (by kernel_rfl) (by kernel_rfl) (by decide) (by decide) (by decide) (by kernel_rfl) (by kernel_rfl) (by kernel_rfl) (by kernel_rfl) (by kernel_rfl)
theorem pc21a24 (w : World) (os : OsState) : segRunT treeTable prog w 28 ann 1 224 (S21b23 w os) ⟨(holding [.ref 135] (subDict (ch21 24))).wrap atA deadEnd id id, cE, ⟨97, 16, 97, 8704⟩, [topFrame qE]⟩ = some (.ret (.ref 159), S21a24 w os, cE, ⟨97, 16, 97, 8704⟩) :=
  rowed (fun w => segRunT treeTable prog w 28 ann 1 224 (S21b23 w os) ⟨(holding [.ref 135] (subDict (ch21 24))).wrap atA deadEnd id id, cE, ⟨97, 16, 97, 8704⟩, [topFrame qE]⟩) (fun w => some (.ret (.ref 159), S21a24 w os, cE, ⟨97, 16, 97, 8704⟩)) (fun w => by rw [PySem.W.Fast.te10110043849684766642, PySem.W.Fast.te14364793385576792824, PySem.W.Fast.te11913375310210876947, PySem.W.Fast.te17359229931016689406]; kernel_rfl) (fun w => by rw [PySem.W.Fast.te10110043849684766642, PySem.W.Fast.te14364793385576792824, PySem.W.Fast.te11913375310210876947, PySem.W.Fast.te17359229931016689406]; kernel_rfl) w
theorem pc21b24 (w : World) (os : OsState) : Goes prog w 28 ann top env qE (5 + 6 * 17) (S21a24 w os).abs (merge21 135 159) (S21b24 w os).abs () :=
  goes_merge21 (es := (dl58 w.params)) (es' := (dl59 w.params)) (k := 408) (k' := 17) (by kernel_rfl) (by kernel_rfl) (by kernel_rfl) (by kernel_rfl) (by decide) (by decide) (by decide) (by kernel_rfl) (by kernel_rfl) (by kernel_rfl) (by kernel_rfl) (by kernel_rfl)
theorem pc21a25 (w : World) (os : OsState) : segRunT treeTable prog w 28 ann 1 224 (S21b24 w os) ⟨(holding [.ref 135] (subDict (ch21 25))).wrap atA deadEnd id id, cE, ⟨97, 16, 97, 8704⟩, [topFrame qE]⟩ = some (.ret (.ref 160), S21a25 w os, cE, ⟨97, 16, 97, 8704⟩) :=
  rowed (fun w => segRunT treeTable prog w 28 ann 1 224 (S21b24 w os) ⟨(holding [.ref 135] (subDict (ch21 25))).wrap atA deadEnd id id, cE, ⟨97, 16, 97, 8704⟩, [topFrame qE]⟩) (fun w => some (.ret (.ref 160), S21a25 w os, cE, ⟨97, 16, 97, 8704⟩)) (fun w => by rw [PySem.W.Fast.te10110043849684766642, PySem.W.Fast.te14364793385576792824, PySem.W.Fast.te11913375310210876947, PySem.W.Fast.te17359229931016689406]; kernel_rfl) (fun w => by rw [PySem.W.Fast.te10110043849684766642, PySem.W.Fast.te14364793385576792824, PySem.W.Fast.te11913375310210876947, PySem.W.Fast.te17359229931016689406]; kernel_rfl) w
theorem pc21b25 (w : World) (os : OsState) : Goes prog w 28 ann top env qE (5 + 6 * 17) (S21a25 w os).abs (merge21 135 160) (S21b25 w os).abs () :=
  goes_merge21 (es := (dl60 w.params)) (es' := (dl61 w.params)) (k := 425) (k' := 17) (by kernel_rfl) (by kernel_rfl) (by kernel_rfl) (by kernel_rfl) (by decide) (by decide) (by decide) (by kernel_rfl) (by kernel_rfl) (by kernel_rfl) (by kernel_rfl) (by kernel_rfl)
end Mine
end
section
open PySem PySem.W PyProof.Rows
namespace Mine
theorem pc21a26 (w : World) (os : OsState) : segRunT treeTable prog w 28 ann 1 224 (S21b25 w os) ⟨(holding [.ref 135] (subDict (ch21 26))).wrap atA deadEnd id id, cE, ⟨97, 16, 97, 8704⟩, [topFrame qE]⟩ = some (.ret (.ref 161), S21a26 w os, cE, ⟨97, 16, 97, 8704⟩) :=
  rowed (fun w => segRunT treeTable prog w 28 ann 1 224 (S21b25 w os) ⟨(holding [.ref 135] (subDict (ch21 26))).wrap atA deadEnd id id, cE, ⟨97, 16, 97, 8704⟩, [topFrame qE]⟩) (fun w => some (.ret (.ref 161), S21a26 w os, cE, ⟨97, 16, 97, 8704⟩)) (fun w => by rw [PySem.W.Fast.te10110043849684766642, PySem.W.Fast.te14364793385576792824, PySem.W.Fast.te11913375310210876947, PySem.W.Fast.te17359229931016689406]; kernel_rfl) (fun w => by rw [PySem.W.Fast.te10110043849684766642, PySem.W.Fast.te14364793385576792824, PySem.W.Fast.te11913375310210876947, PySem.W.Fast.te17359229931016689406]; kernel_rfl) w
theorem pc21b26 (w : World) (os : OsState) : Goes prog w 28 ann top env qE (5 + 6 * 17) (S21a26 w os).abs (merge21 135 161) (S21b26 w os).abs () :=
  goes_merge21 (es := (dl62 w.params)) (es' := (dl63 w.params)) (k := 442) (k' := 17) (by kernel_rfl) (by kernel_rfl) (by kernel_rfl) (by kernel_rfl) (by decide) (by decide) (by decide) (by kernel_rfl) (by kernel_rfl) (by kernel_rfl) (by kernel_rfl) (by kernel_rfl)
theorem pc21a27 (w : World) (os : OsState) : segRunT treeTable prog w 28 ann 1 224 (S21b26 w os) ⟨(holding [.ref 135] (subDict (ch21 27))).wrap atA deadEnd id id, cE, ⟨97, 16, 97, 8704⟩, [topFrame qE]⟩ = some (.ret (.ref 162), S21a27 w os, cE, ⟨97, 16, 97, 8704⟩) :=
  rowed (fun w => segRunT treeTable prog w 28 ann 1 224 (S21b26 w os) ⟨(holding [.ref 135] (subDict (ch21 27))).wrap atA deadEnd id id, cE, ⟨97, 16, 97, 8704⟩, [topFrame qE]⟩) (fun w => some (.ret (.ref 162), S21a27 w os, cE, ⟨97, 16, 97, 8704⟩)) (fun w => by rw [PySem.W.Fast.te10110043849684766642, PySem.W.Fast.te14364793385576792824, PySem.W.Fast.te11913375310210876947, PySem.W.Fast.te17359229931016689406]; kernel_rfl) (fun w => by rw [PySem.W.Fast.te10110043849684766642, PySem.W.Fast.te14364793385576792824, PySem.W.Fast.te11913375310210876947, PySem.W.Fast.te17359229931016689406]; kernel_rfl) w
theorem pc21b27 (w : World) (os : OsState) : Goes prog w 28 ann top env qE (5 + 6 * 17) (S21a27 w os).abs (merge21 135 162) (S21b27 w os).abs () :=
  goes_merge21 (es := (dl64 w.params)) (es' := (dl65 w.params)) (k := 459) (k' := 17) (by kernel_rfl) (by kernel_rfl) (by kernel_rfl) (by kernel_rfl) (by decide) (by decide) (by decide) (by kernel_rfl) (by kernel_rfl) (by kernel_rfl) (by kernel_rfl) (by kernel_rfl)
theorem pc21a28 (w : World) (os : OsState) : segRunT treeTable prog w 28 ann 1 224 (S21b27 w os) ⟨(holding [.ref 135] (subDict (ch21 28))).wrap atA deadEnd id id, cE, ⟨97, 16, 97, 8704⟩, [topFrame qE]⟩ = some (.ret (.ref 163), S21a28 w os, cE, ⟨97, 16, 97, 8704⟩) :=
  rowed (fun w => segRunT treeTable prog w 28 ann 1 224 (S21b27 w os) ⟨(holding [.ref 135] (subDict (ch21 28))).wrap atA deadEnd id id, cE, ⟨97, 16, 97, 8704⟩, [topFrame qE]⟩) (fun w => some (.ret (.ref 163), S21a28 w os, cE, ⟨97, 16, 97, 8704⟩)) (fun w => by rw [PySem.W.Fast.te10110043849684766642, PySem.W.Fast.te14364793385576792824, PySem.W.Fast.te11913375310210876947, PySem.W.Fast.te17359229931016689406]; kernel_rfl) (fun w => by rw [PySem.W.Fast.te10110043849684766642, PySem.W.Fast.te14364793385576792824, PySem.W.Fast.te11913375310210876947, PySem.W.Fast.te17359229931016689406]; kernel_rfl) w
theorem pc21b28 (w : World) (os : OsState) : Goes prog w 28 ann top env qE (5 + 6 * 17) (S21a28 w os).abs (merge21 135 163) (S21b28 w os).abs () :=
  goes_merge21 (es := (dl66 w.params)) (es' := (dl67 w.params)) (k := 476) (k' := 17) (by kernel_rfl) (by kernel_rfl) (by kernel_rfl) (by kernel_rfl) (by decide) (by decide) (by decide) (by kernel_rfl) (by kernel_rfl) (by kernel_rfl) (by kernel_rfl) (by kernel_rfl)
theorem pc21a29 (w : World) (os : OsState) : segRunT treeTable prog w 28 ann 1 224 (S21b28 w os) ⟨(holding [.ref 135] (subDict (ch21 29))).wrap atA deadEnd id id, cE, ⟨97, 16, 97, 8704⟩, [topFrame qE]⟩ = some (.ret (.ref 164), S21a29 w os, cE, ⟨97, 16, 97, 8704⟩) :=
  rowed (fun w => segRunT treeTable prog w 28 ann 1 224 (S21b28 w os) ⟨(holding [.ref 135] (subDict (ch21 29))).wrap atA deadEnd id id, cE, ⟨97, 16, 97, 8704⟩, [topFrame qE]⟩) (fun w => some (.ret (.ref 164), S21a29 w os, cE, ⟨97, 16, 97, 8704⟩)) (fun w => by rw [PySem.W.Fast.te10110043849684766642, PySem.W.Fast.te14364793385576792824, PySem.W.Fast.te11913375310210876947, PySem.W.Fast.te17359229931016689406]; kernel_rfl) (fun w => by rw [PySem.W.Fast.te10110043849684766642, PySem.W.Fast.te14364793385576792824, PySem.W.Fast.te11913375310210876947, PySem.W.Fast.te17359229931016689406]; kernel_rfl) w
theorem pc21b29 (w : World) (os : OsState) : Goes prog w 28 ann top env qE (5 + 6 * 17) (S21a29 w os).abs (merge21 135 164) (S21b29 w os).abs () :=
  goes_merge21 (es := (dl68 w.params)) (es' := (dl69 w.params)) (k := 493) (k' := 17) (by kernel_rfl) (by kernel_rfl) (by kernel_rfl) (by kernel_rfl) (by decide) (by decide) (by decide) (by kernel_rfl) (by kernel_rfl) (by kernel_rfl) (by kernel_rfl) (by kernel_rfl)
theorem pc21a30 (w : World) (os : OsState) : segRunT treeTable prog w 28 ann 1 224 (S21b29 w os) ⟨(holding [.ref 135] (subDict (ch21 30))).wrap atA deadEnd id id, cE, ⟨97, 16, 97, 8704⟩, [topFrame qE]⟩ = some (.ret (.ref 165), S21a30 w os, cE, ⟨97, 16, 97, 8704⟩) :=
  rowed (fun w => segRunT treeTable prog w 28 ann 1 224 (S21b29 w os) ⟨(holding [.ref 135] (subDict (ch21 30))).wrap atA deadEnd id id, cE, ⟨97, 16, 97, 8704⟩, [topFrame qE]⟩) (fun w => some (.ret (.ref 165), S21a30 w os, cE, ⟨97, 16, 97, 8704⟩)) (fun w => by rw [PySem.W.Fast.te10110043849684766642, PySem.W.Fast.te14364793385576792824, PySem.W.Fast.te11913375310210876947, PySem.W.Fast.te17359229931016689406]; kernel_rfl) (fun w => by rw [PySem.W.Fast.te10110043849684766642, PySem.W.Fast.te14364793385576792824, PySem.W.Fast.te11913375310210876947, PySem.W.Fast.te17359229931016689406]; kernel_rfl) w
theorem pc21b30 (w : World) (os : OsState) : Goes prog w 28 ann top env qE (5 + 6 * 17) (S21a30 w os).abs (merge21 135 165) (S21b30 w os).abs () :=
  goes_merge21 (es := (dl70 w.params)) (es' := (dl71 w.params)) (k := 510) (k' := 17) (by kernel_rfl) (by kernel_rfl) (by kernel_rfl) (by kernel_rfl) (by decide) (by decide) (by decide) (by kernel_rfl) (by kernel_rfl) (by kernel_rfl) (by kernel_rfl) (by kernel_rfl)
theorem pc21a31 (w : World) (os : OsState) : segRunT treeTable prog w 28 ann 1 224 (S21b30 w os) ⟨(holding [.ref 135] (subDict (ch21 31))).wrap atA deadEnd id id, cE, ⟨97, 16, 97, 8704⟩, [topFrame qE]⟩ = some (.ret (.ref 166), S21a31 w os, cE, ⟨97, 16, 97, 8704⟩) :=
  rowed (fun w => segRunT treeTable prog w 28 ann 1 224 (S21b30 w os) ⟨(holding [.ref 135] (subDict (ch21 31))).wrap atA deadEnd id id, cE, ⟨97, 16, 97, 8704⟩, [topFrame qE]⟩) (fun w => some (.ret (.ref 166), S21a31 w os, cE, ⟨97, 16, 97, 8704⟩)) (fun w => by rw [PySem.W.Fast.te10110043849684766642, PySem.W.Fast.te14364793385576792824, PySem.W.Fast.te11913375310210876947, PySem.W.Fast.te17359229931016689406]; kernel_rfl) (fun w => by rw [PySem.W.Fast.te10110043849684766642, PySem.W.Fast.te14364793385576792824, PySem.W.Fast.te11913375310210876947, PySem.W.Fast.te17359229931016689406]; kernel_rfl) w
theorem pc21b31 (w : World) (os : OsState) : Goes prog w 28 ann top env qE (5 + 6 * 17) (S21a31 w os).abs (merge21 135 166) (S21b31 w os).abs () :=
  goes_merge21 (es := (dl72 w.params)) (es' := (dl73 w.params)) (k := 527) (k' := 17) (by kernel_rfl) (by kernel_rfl) (by kernel_rfl) (by kernel_rfl) (by decide) (by decide) (by decide) (by kernel_rfl) (by kernel_rfl) (by kernel_rfl) (by kernel_rfl) (by kernel_rfl)
theorem pc21a32 (w : World) (os : OsState) : segRunT treeTable prog w 28 ann 1 224 (S21b31 w os) ⟨(holding [.ref 135] (subDict (ch21 32))).wrap atA deadEnd id id, cE, ⟨97, 16, 97, 8704⟩, [topFrame qE]⟩ = some (.ret (.ref 167), S21a32 w os, cE, ⟨97, 16, 97, 8704⟩) :=
  rowed (fun w => segRunT treeTable prog w 28 ann 1 224 (S21b31 w os) ⟨(holding [.ref 135] (subDict (ch21 32))).wrap atA deadEnd id id, cE, ⟨97, 16, 97, 8704⟩, [topFrame qE]⟩) (fun w => some (.ret (.ref 167), S21a32 w os, cE, ⟨97, 16, 97, 8704⟩)) (fun w => by rw [PySem.W.Fast.te10110043849684766642, PySem.W.Fast.te14364793385576792824, PySem.W.Fast.te11913375310210876947, PySem.W.Fast.te17359229931016689406]; kernel_rfl) (fun w => by rw [PySem.W.Fast.te10110043849684766642, PySem.W.Fast.te14364793385576792824, PySem.W.Fast.te11913375310210876947, PySem.W.Fast.te17359229931016689406]; kernel_rfl) w
theorem pc21b32 (w : World) (os : OsState) : Goes prog w 28 ann top env qE (5 + 6 * 17) (S21a32 w os).abs (merge21 135 167) (S21b32 w os).abs () :=
  goes_merge21 (es := (dl74 w.params)) (es' := (dl75 w.params)) (k := 544) (k' := 17) (by kernel_rfl) (by kernel_rfl) (by kernel_rfl) (by kernel_rfl) (by decide) (by decide) (by decide) (by kernel_rfl) (by kernel_rfl) (by kernel_rfl) (by kernel_rfl) (by kernel_rfl)
theorem pc21a33 (w : World) (os : OsState) : segRunT treeTable prog w 28 ann 1 224 (S21b32 w os) ⟨(holding [.ref 135] (subDict (ch21 33))).wrap atA deadEnd id id, cE, ⟨97, 16, 97, 8704⟩, [topFrame qE]⟩ = some (.ret (.ref 168), S21a33 w os, cE, ⟨97, 16, 97, 8704⟩) :=
  rowed (fun w => segRunT treeTable prog w 28 ann 1 224 (S21b32 w os) ⟨(holding [.ref 135] (subDict (ch21 33))).wrap atA deadEnd id id, cE, ⟨97, 16, 97, 8704⟩, [topFrame qE]⟩) (fun w => some (.ret (.ref 168), S21a33 w os, cE, ⟨97, 16, 97, 8704⟩)) (fun w => by rw [PySem.W.Fast.te10110043849684766642, PySem.W.Fast.te14364793385576792824, PySem.W.Fast.te11913375310210876947, PySem.W.Fast.te17359229931016689406]; kernel_rfl) (fun w => by rw [PySem.W.Fast.te10110043849684766642, PySem.W.Fast.te14364793385576792824, PySem.W.Fast.te11913375310210876947, PySem.W.Fast.te17359229931016689406]; kernel_rfl) w
theorem pc21b33 (w : World) (os : OsState) : Goes prog w 28 ann top env qE (5 + 6 * 17) (S21a33 w os).abs (merge21 135 168) (S21b33 w os).abs () :=
  goes_merge21 (es := (dl76 w.params)) (es' := (dl77 w.params)) (k := 561) (k' := 17) (by kernel_rfl) (by kernel_rfl) (by kernel_rfl) (by kernel_rfl) (by decide) (by decide) (by decide) (by kernel_rfl) (by kernel_rfl) (by kernel_rfl) (by kernel_rfl) (by kernel_rfl)
theorem pc21a34 (w : World) (os : OsState) : segRunT treeTable prog w 28 ann 1 224 (S21b33 w os) ⟨(holding [.ref 135] (subDict (ch21 34))).wrap atA deadEnd id id, cE, ⟨97, 16, 97, 8704⟩, [topFrame qE]⟩ = some (.ret (.ref 169), S21a34 w os, cE, ⟨97, 16, 97, 8704⟩) :=
  rowed (fun w => segRunT treeTable prog w 28 ann 1 224 (S21b33 w os) ⟨(holding [.ref 135] (subDict (ch21 34))).wrap atA deadEnd id id, cE, ⟨97, 16, 97, 8704⟩, [topFrame qE]⟩) (fun w => some (.ret (.ref 169), S21a34 w os, cE, ⟨97, 16, 97, 8704⟩)) (fun w => by rw [PySem.W.Fast.te10110043849684766642, PySem.W.Fast.te14364793385576792824, PySem.W.Fast.te11913375310210876947, PySem.W.Fast.te17359229931016689406]; kernel_rfl) (fun w => by rw [PySem.W.Fast.te10110043849684766642, PySem.W.Fast.te14364793385576792824, PySem.W.Fast.te11913375310210876947, PySem.W.Fast.te17359229931016689406]; kernel_rfl) w
theorem pc21b34 (w : World) (os : OsState) : Goes prog w 28 ann top env qE (5 + 6 * 17) (S21a34 w os).abs (merge21 135 169) (S21b34 w os).abs () :=
  goes_merge21 (es := (dl78 w.params)) (es' := (dl79 w.params)) (k := 578) (k' := 17) (by kernel_rfl) (by kernel_rfl) (by kernel_rfl) (by kernel_rfl) (by decide) (by decide) (by decide) (by kernel_rfl) (by kernel_rfl) (by kernel_rfl) (by kernel_rfl) (by kernel_rfl)
theorem pc21a35 (w : World) (os : OsState) : segRunT treeTable prog w 28 ann 1 224 (S21b34 w os) ⟨(holding [.ref 135] (subDict (ch21 35))).wrap atA deadEnd id id, cE, ⟨97, 16, 97, 8704⟩, [topFrame qE]⟩ = some (.ret (.ref 170), S21a35 w os, cE, ⟨97, 16, 97, 8704⟩) :=
  rowed (fun w => segRunT treeTable prog w 28 ann 1 224 (S21b34 w os) ⟨(holding [.ref 135] (subDict (ch21 35))).wrap atA deadEnd id id, cE, ⟨97, 16, 97, 8704⟩, [topFrame qE]⟩) (fun w => some (.ret (.ref 170), S21a35 w os, cE, ⟨97, 16, 97, 8704⟩)) (fun w => by rw [PySem.W.Fast.te10110043849684766642, PySem.W.Fast.te14364793385576792824, PySem.W.Fast.te11913375310210876947, PySem.W.Fast.te17359229931016689406]; kernel_rfl) (fun w => by rw [PySem.W.Fast.te10110043849684766642, PySem.W.Fast.te14364793385576792824, PySem.W.Fast.te11913375310210876947, PySem.W.Fast.te17359229931016689406]; kernel_rfl) w
theorem pc21b35 (w : World) (os : OsState) : Goes prog w 28 ann top env qE (5 + 6 * 17) (S21a35 w os).abs (merge21 135 170) (S21b35 w os).abs () :=
  goes_merge21 (es := (dl80 w.params)) (es' := (dl81 w.params)) (k := 595) (k' := 17) (by kernel_rfl) (by kernel_rfl) (by kernel_rfl) (by kernel_rfl) (by decide) (by decide) (by decide) (by kernel_rfl) (by kernel_rfl) (by kernel_rfl) (by kernel_rfl) (by kernel_rfl)
theorem pc21a36 (w : World) (os : OsState) : segRunT treeTable prog w 28 ann 1 224 (S21b35 w os) ⟨(holding [.ref 135] (subDict (ch21 36))).wrap atA deadEnd id id, cE, ⟨97, 16, 97, 8704⟩, [topFrame qE]⟩ = some (.ret (.ref 171), S21a36 w os, cE, ⟨97, 16, 97, 8704⟩) :=
  rowed (fun w => segRunT treeTable prog w 28 ann 1 224 (S21b35 w os) ⟨(holding [.ref 135] (subDict (ch21 36))).wrap atA deadEnd id id, cE, ⟨97, 16, 97, 8704⟩, [topFrame qE]⟩) (fun w => some (.ret (.ref 171), S21a36 w os, cE, ⟨97, 16, 97, 8704⟩)) (fun w => by rw [PySem.W.Fast.te10110043849684766642, PySem.W.Fast.te14364793385576792824, PySem.W.Fast.te11913375310210876947, PySem.W.Fast.te17359229931016689406]; kernel_rfl) (fun w => by rw [PySem.W.Fast.te10110043849684766642, PySem.W.Fast.te14364793385576792824, PySem.W.Fast.te11913375310210876947, PySem.W.Fast.te17359229931016689406]; kernel_rfl) w
theorem pc21b36 (w : World) (os : OsState) : Goes prog w 28 ann top env qE (5 + 6 * 17) (S21a36 w os).abs (merge21 135 171) (S21b36 w os).abs () :=
  goes_merge21 (es := (dl82 w.params)) (es' := (dl83 w.params)) (k := 612) (k' := 17) (by kernel_rfl) (by kernel_rfl) (by kernel_rfl) (by kernel_rfl) (by decide) (by decide) (by decide) (by kernel_rfl) (by kernel_rfl) (by kernel_rfl) (by kernel_rfl) (by kernel_rfl)
theorem pc21a37 (w : World) (os : OsState) : segRunT treeTable prog w 28 ann 1 224 (S21b36 w os) ⟨(holding [.ref 135] (subDict (ch21 37))).wrap atA deadEnd id id, cE, ⟨97, 16, 97, 8704⟩, [topFrame qE]⟩ = some (.ret (.ref 172), S21a37 w os, cE, ⟨97, 16, 97, 8704⟩) :=
  rowed (fun w => segRunT treeTable prog w 28 ann 1 224 (S21b36 w os) ⟨(holding [.ref 135] (subDict (ch21 37))).wrap atA deadEnd id id, cE, ⟨97, 16, 97, 8704⟩, [topFrame qE]⟩) (fun w => some (.ret (.ref 172), S21a37 w os, cE, ⟨97, 16, 97, 8704⟩)) (fun w => by rw [PySem.W.Fast.te10110043849684766642, PySem.W.Fast.te14364793385576792824, PySem.W.Fast.te11913375310210876947, PySem.W.Fast.te17359229931016689406]; kernel_rfl) (fun w => by rw [PySem.W.Fast.te10110043849684766642, PySem.W.Fast.te14364793385576792824, PySem.W.Fast.te11913375310210876947, PySem.W.Fast.te17359229931016689406]; kernel_rfl) w
theorem pc21b37 (w : World) (os : OsState) : Goes prog w 28 ann top env qE (5 + 6 * 17) (S21a37 w os).abs (merge21 135 172) (S21b37 w os).abs () :=
  goes_merge21 (es := (dl84 w.params)) (es' := (dl85 w.params)) (k := 629) (k' := 17) (by kernel_rfl) (by kernel_rfl) (by kernel_rfl) (by kernel_rfl) (by decide) (by decide) (by decide) (by kernel_rfl) (by kernel_rfl) (by kernel_rfl) (by kernel_rfl) (by kernel_rfl)
theorem pc21a38 (w : World) (os : OsState) : segRunT treeTable prog w 28 ann 1 54 (S21b37 w os) ⟨(holding [.ref 135] (subDict (ch21 38))).wrap atA deadEnd id id, cE, ⟨97, 16, 97, 8704⟩, [topFrame qE]⟩ = some (.ret (.ref 173), S21a38 w os, cE, ⟨97, 16, 97, 8704⟩) :=
  rowed (fun w => segRunT treeTable prog w 28 ann 1 54 (S21b37 w os) ⟨(holding [.ref 135] (subDict (ch21 38))).wrap atA deadEnd id id, cE, ⟨97, 16, 97, 8704⟩, [topFrame qE]⟩) (fun w => some (.ret (.ref 173), S21a38 w os, cE, ⟨97, 16, 97, 8704⟩)) (fun w => by rw [PySem.W.Fast.te10110043849684766642, PySem.W.Fast.te14364793385576792824, PySem.W.Fast.te11913375310210876947, PySem.W.Fast.te17359229931016689406]; kernel_rfl) (fun w => by rw [PySem.W.Fast.te10110043849684766642, PySem.W.Fast.te14364793385576792824, PySem.W.Fast.te11913375310210876947, PySem.W.Fast.te17359229931016689406]; kernel_rfl) w
theorem pc21b38 (w : World) (os : OsState) : Goes prog w 28 ann top env qE (5 + 6 * 4) (S21a38 w os).abs (merge21 135 173) (S21b38 w os).abs () :=
  goes_merge21 (es := (dl86 w.params)) (es' := ([⟨120742, (.int 120742 2423), (.str ⟨⟨[967]⟩⟩ 2424)⟩, ⟨120743, (.int 120743 2425), (.str ⟨⟨[968]⟩⟩ 2426)⟩, ⟨120744, (.int 120744 2427), (.str ⟨⟨[969]⟩⟩ 2428)⟩, ⟨120763, (.int 120763 2429), (.str ⟨⟨[963]⟩⟩ 2430)⟩])) (k := 646) (k' := 4) (by kernel_rfl) (by kernel_rfl) (by kernel_rfl) (by kernel_rfl) (by decide) (by decide) (by decide) (by kernel_rfl) (by kernel_rfl) (by kernel_rfl) (by kernel_rfl) (by kernel_rfl)
noncomputable def pre21 : Sem Unit := do standAt ⟨97, 0, 97, 8704⟩; standAt dpos21
theorem e21 : exec (stm 21) env = pre21 >>= fun _ => dictDisplay items21 >>= post21 := by kernel_rfl
noncomputable def chs21 : List (List Pr) := [ch21 1, ch21 2, ch21 3, ch21 4, ch21 5, ch21 6, ch21 7, ch21 8, ch21 9, ch21 10, ch21 11, ch21 12, ch21 13, ch21 14, ch21 15, ch21 16, ch21 17, ch21 18, ch21 19, ch21 20, ch21 21, ch21 22, ch21 23, ch21 24, ch21 25, ch21 26, ch21 27, ch21 28, ch21 29, ch21 30, ch21 31, ch21 32, ch21 33, ch21 34, ch21 35, ch21 36, ch21 37]
theorem items21_eq : items21 = (ch21 0 ++ (chs21.flatten ++ ch21 38)).map itemOf := by kernel_rfl
theorem d21 : dictDisplay items21 = subDict (ch21 0) >>= fun d => addChunks d [ch21 1, ch21 2, ch21 3, ch21 4, ch21 5, ch21 6, ch21 7, ch21 8, ch21 9, ch21 10, ch21 11, ch21 12, ch21 13, ch21 14, ch21 15, ch21 16, ch21 17, ch21 18, ch21 19, ch21 20, ch21 21, ch21 22, ch21 23, ch21 24, ch21 25, ch21 26, ch21 27, ch21 28, ch21 29, ch21 30, ch21 31, ch21 32, ch21 33, ch21 34, ch21 35, ch21 36, ch21 37, ch21 38] >>= fun _ => pure (.ref d) := by
  rw [items21_eq]
  exact display_eq (ch21 0) chs21 (ch21 38) (by kernel_rfl) (fun c hc => beq_iff_eq.mp (List.all_eq_true.mp (show chs21.all (fun c => c.length == 17) = true by kernel_rfl) c hc)) (by rw [show (ch21 38).length = 4 by kernel_rfl]; decide) (by kernel_rfl)
theorem pc21pre (w : World) (os : OsState) : segRun treeTable prog w 28 ann 1 3 (S21 w os).abs ⟨pre21.wrap (fun _ => .pure (.done .next)) deadEnd id id, cE, ⟨95, 0, 96, 30⟩, [topFrame qE]⟩ = some (.next, (S21 w os).abs, cE, ⟨97, 16, 97, 8704⟩) := by kernel_rfl
theorem pc21post (w : World) (os : OsState) : segRunT treeTable prog w 28 ann 1 8 (S21b38 w os) ⟨(post21 (.ref 135)).wrap (fun a => .pure (.done a)) deadEnd id id, cE, ⟨97, 16, 97, 8704⟩, [topFrame qE]⟩ = some (.next, S22 w os, cE, ⟨97, 0, 97, 13⟩) := by
  rw [PySem.W.Fast.te10110043849684766642, PySem.W.Fast.te14364793385576792824]; kernel_rfl
end Mine
end
section
open PySem PySem.W PyProof.Rows
namespace Mine
theorem pc22 (w : World) (os : OsState) : segRunT treeTable prog w 28 ann 1 90 (S22 w os) (piecesOf [stm 22, stm 23, stm 24] env cE ⟨97, 0, 97, 13⟩ [topFrame qE]) = some (.next, S25 w os, cE, ⟨105, 0, 111, 46⟩) := by rw [PySem.W.Fast.te10110043849684766642, PySem.W.Fast.te14364793385576792824]; kernel_rfl
theorem r25x0_eq (w : World) (os : OsState) : segGoT treeTable prog w 28 ann 1 40 (S25 w os) (piecesOf [stm 25] env cE ⟨105, 0, 111, 46⟩ [topFrame qE]) = r25x0 w os := by rw [PySem.W.Fast.te10295753902157049106, PySem.W.Fast.te14364793385576792824]; kernel_rfl
theorem pc25c0s (w : World) (os : OsState) : r25x0 w os = some (S25c0 (!w.params.followText "set-order") w os, ⟨PySem.W.Fast.tw11892475500146522536 PySem.W.Fast.tw14364793385576792824 (.builtin "set.__init__" ⟨[(.ref 196), (.ref 195)], []⟩), (.builtin "set.__init__" ⟨[(.ref 196), (.ref 195)], []⟩), ⟨112, 9, 112, 33⟩, stackOf (r25x0 w os)⟩) := by
  exact rowed (fun w => r25x0 w os) (fun w => some (S25c0 (!w.params.followText "set-order") w os, ⟨PySem.W.Fast.tw11892475500146522536 PySem.W.Fast.tw14364793385576792824 (.builtin "set.__init__" ⟨[(.ref 196), (.ref 195)], []⟩), (.builtin "set.__init__" ⟨[(.ref 196), (.ref 195)], []⟩), ⟨112, 9, 112, 33⟩, stackOf (r25x0 w os)⟩)) (fun w => by kernel_rfl) (fun w => by kernel_rfl) w
theorem pc25c0d (w : World) (os : OsState) : (((stackOf (r25x0 w os)).take 2).map dataOf, (stackOf (r25x0 w os)).drop 2) = ([some (none, false, [(.ref 196), (.ref 196), (.ref 195)], (.builtin "type.__call__" ⟨[(.type "set"), (.ref 195)], []⟩), ⟨112, 9, 112, 33⟩, [(.builtin "set.__init__"), (.ref 196), (.ref 195), (.builtin "set.__init__"), (.ref 196), (.ref 195)]), some (none, false, [], cE, ⟨112, 9, 112, 33⟩, [(.type "set"), (.ref 195)])], [topFrame qE]) := by
  exact rowed (fun w => (((stackOf (r25x0 w os)).take 2).map dataOf, (stackOf (r25x0 w os)).drop 2)) (fun w => ([some (none, false, [(.ref 196), (.ref 196), (.ref 195)], (.builtin "type.__call__" ⟨[(.type "set"), (.ref 195)], []⟩), ⟨112, 9, 112, 33⟩, [(.builtin "set.__init__"), (.ref 196), (.ref 195), (.builtin "set.__init__"), (.ref 196), (.ref 195)]), some (none, false, [], cE, ⟨112, 9, 112, 33⟩, [(.type "set"), (.ref 195)])], [topFrame qE])) (fun w => by kernel_rfl) (fun w => by kernel_rfl) w
theorem pc25c0 (w : World) (os : OsState) : segGoT treeTable prog w 28 ann 1 40 (S25 w os) (piecesOf [stm 25] env cE ⟨105, 0, 111, 46⟩ [topFrame qE]) = some (S25c0 (!w.params.followText "set-order") w os, (th25c0 w os)) := by
  rw [r25x0_eq]
  exact go_two (pc25c0s w os) (pc25c0d w os)
theorem pc25end (led : Bool) (w : World) (os : OsState) : segRunT treeTable prog w 28 ann 1 160 (S25c0 led w os) (th25c0 w os) = some (.next, S26L led w os, cE, ⟨112, 0, 112, 6⟩) := by
  cases led
  · exact rowed (fun w => segRunT treeTable prog w 28 ann 1 160 (S25c0 false w os) (th25c0 w os)) (fun w => some (.next, S26L false w os, cE, ⟨112, 0, 112, 6⟩)) (fun w => by rw [PySem.W.Fast.te10110043849684766642, PySem.W.Fast.te14364793385576792824]; kernel_rfl) (fun w => by rw [PySem.W.Fast.te10110043849684766642, PySem.W.Fast.te14364793385576792824]; kernel_rfl) w
  · exact rowed (fun w => segRunT treeTable prog w 28 ann 1 160 (S25c0 true w os) (th25c0 w os)) (fun w => some (.next, S26L true w os, cE, ⟨112, 0, 112, 6⟩)) (fun w => by rw [PySem.W.Fast.te10110043849684766642, PySem.W.Fast.te14364793385576792824]; kernel_rfl) (fun w => by rw [PySem.W.Fast.te10110043849684766642, PySem.W.Fast.te14364793385576792824]; kernel_rfl) w
theorem S26L_eq (w : World) (os : OsState) : S26L (!w.params.followText "set-order") w os = S26 w os := by kernel_rfl
theorem pc25 (w : World) (os : OsState) : segRun treeTable prog w 28 ann 1 200 (S25 w os).abs (piecesOf [stm 25] env cE ⟨105, 0, 111, 46⟩ [topFrame qE]) = some (.next, (S26 w os).abs, cE, ⟨112, 0, 112, 6⟩) := by
  rw [show 200 = 40 + (160) from rfl, ← S26L_eq]
  exact (seg_go (segGo_of (pc25c0 w os)) (segRun_of (pc25end (!w.params.followText "set-order") w os)))
theorem pc26 (w : World) (os : OsState) : segRunT treeTable prog w 28 ann 1 30 (S26 w os) (piecesOf [stm 26] env cE ⟨112, 0, 112, 6⟩ [topFrame qE]) = some (.next, S27 w os, cE, ⟨113, 0, 114, 30⟩) := by rw [PySem.W.Fast.te10110043849684766642, PySem.W.Fast.te14364793385576792824]; kernel_rfl
theorem r27x0_eq (w : World) (os : OsState) : segGoT treeTable prog w 28 ann 1 40 (S27 w os) (piecesOf [stm 27] env cE ⟨113, 0, 114, 30⟩ [topFrame qE]) = r27x0 w os := by rw [PySem.W.Fast.te10295753902157049106, PySem.W.Fast.te14364793385576792824]; kernel_rfl
theorem pc27c0s (w : World) (os : OsState) : r27x0 w os = some (S27c0 (!w.params.followText "set-order") w os, ⟨PySem.W.Fast.tw11892475500146522536 PySem.W.Fast.tw14364793385576792824 (.builtin "set.__init__" ⟨[(.ref 208), (.ref 207)], []⟩), (.builtin "set.__init__" ⟨[(.ref 208), (.ref 207)], []⟩), ⟨115, 9, 115, 33⟩, stackOf (r27x0 w os)⟩) := by
  exact rowed (fun w => r27x0 w os) (fun w => some (S27c0 (!w.params.followText "set-order") w os, ⟨PySem.W.Fast.tw11892475500146522536 PySem.W.Fast.tw14364793385576792824 (.builtin "set.__init__" ⟨[(.ref 208), (.ref 207)], []⟩), (.builtin "set.__init__" ⟨[(.ref 208), (.ref 207)], []⟩), ⟨115, 9, 115, 33⟩, stackOf (r27x0 w os)⟩)) (fun w => by kernel_rfl) (fun w => by kernel_rfl) w
theorem pc27c0d (w : World) (os : OsState) : (((stackOf (r27x0 w os)).take 2).map dataOf, (stackOf (r27x0 w os)).drop 2) = ([some (none, false, [(.ref 208), (.ref 208), (.ref 207)], (.builtin "type.__call__" ⟨[(.type "set"), (.ref 207)], []⟩), ⟨115, 9, 115, 33⟩, [(.builtin "set.__init__"), (.ref 208), (.ref 207), (.builtin "set.__init__"), (.ref 208), (.ref 207)]), some (none, false, [], cE, ⟨115, 9, 115, 33⟩, [(.type "set"), (.ref 207)])], [topFrame qE]) := by
  exact rowed (fun w => (((stackOf (r27x0 w os)).take 2).map dataOf, (stackOf (r27x0 w os)).drop 2)) (fun w => ([some (none, false, [(.ref 208), (.ref 208), (.ref 207)], (.builtin "type.__call__" ⟨[(.type "set"), (.ref 207)], []⟩), ⟨115, 9, 115, 33⟩, [(.builtin "set.__init__"), (.ref 208), (.ref 207), (.builtin "set.__init__"), (.ref 208), (.ref 207)]), some (none, false, [], cE, ⟨115, 9, 115, 33⟩, [(.type "set"), (.ref 207)])], [topFrame qE])) (fun w => by kernel_rfl) (fun w => by kernel_rfl) w
theorem pc27c0 (w : World) (os : OsState) : segGoT treeTable prog w 28 ann 1 40 (S27 w os) (piecesOf [stm 27] env cE ⟨113, 0, 114, 30⟩ [topFrame qE]) = some (S27c0 (!w.params.followText "set-order") w os, (th27c0 w os)) := by
  rw [r27x0_eq]
  exact go_two (pc27c0s w os) (pc27c0d w os)
theorem r27x1_eq (led : Bool) (w : World) (os : OsState) : segGoT treeTable prog w 28 ann 1 204 (S27c0 led w os) (th27c0 w os) = r27x1 led w os := by rw [PySem.W.Fast.te10295753902157049106, PySem.W.Fast.te14364793385576792824]; kernel_rfl
theorem pc27c1s (led : Bool) (w : World) (os : OsState) : r27x1 led w os = some (S27c1 led w os, ⟨PySem.W.Fast.tw11892475500146522536 PySem.W.Fast.tw14364793385576792824 (.builtin "set.update.loop" ⟨[(.ref 208), (.ref 209)], []⟩), (.builtin "set.update.loop" ⟨[(.ref 208), (.ref 209)], []⟩), ⟨115, 9, 115, 33⟩, stackOf (r27x1 led w os)⟩) := by
  cases led
  · exact rowed (fun w => r27x1 false w os) (fun w => some (S27c1 false w os, ⟨PySem.W.Fast.tw11892475500146522536 PySem.W.Fast.tw14364793385576792824 (.builtin "set.update.loop" ⟨[(.ref 208), (.ref 209)], []⟩), (.builtin "set.update.loop" ⟨[(.ref 208), (.ref 209)], []⟩), ⟨115, 9, 115, 33⟩, stackOf (r27x1 false w os)⟩)) (fun w => by kernel_rfl) (fun w => by kernel_rfl) w
  · exact rowed (fun w => r27x1 true w os) (fun w => some (S27c1 true w os, ⟨PySem.W.Fast.tw11892475500146522536 PySem.W.Fast.tw14364793385576792824 (.builtin "set.update.loop" ⟨[(.ref 208), (.ref 209)], []⟩), (.builtin "set.update.loop" ⟨[(.ref 208), (.ref 209)], []⟩), ⟨115, 9, 115, 33⟩, stackOf (r27x1 true w os)⟩)) (fun w => by kernel_rfl) (fun w => by kernel_rfl) w
theorem pc27c1d (led : Bool) (w : World) (os : OsState) : (((stackOf (r27x1 led w os)).take 3).map dataOf, (stackOf (r27x1 led w os)).drop 3) = ([some (none, false, [], (.builtin "set.__init__" ⟨[(.ref 208), (.ref 207)], []⟩), ⟨115, 9, 115, 33⟩, [(.ref 208), (.ref 209)]), some (none, false, [(.ref 208), (.ref 208), (.ref 207)], (.builtin "type.__call__" ⟨[(.type "set"), (.ref 207)], []⟩), ⟨115, 9, 115, 33⟩, [(.builtin "set.__init__"), (.ref 208), (.ref 207), (.builtin "set.__init__"), (.ref 208), (.ref 207)]), some (none, false, [], cE, ⟨115, 9, 115, 33⟩, [(.type "set"), (.ref 207)])], [topFrame qE]) := by
  cases led
  · exact rowed (fun w => (((stackOf (r27x1 false w os)).take 3).map dataOf, (stackOf (r27x1 false w os)).drop 3)) (fun w => ([some (none, false, [], (.builtin "set.__init__" ⟨[(.ref 208), (.ref 207)], []⟩), ⟨115, 9, 115, 33⟩, [(.ref 208), (.ref 209)]), some (none, false, [(.ref 208), (.ref 208), (.ref 207)], (.builtin "type.__call__" ⟨[(.type "set"), (.ref 207)], []⟩), ⟨115, 9, 115, 33⟩, [(.builtin "set.__init__"), (.ref 208), (.ref 207), (.builtin "set.__init__"), (.ref 208), (.ref 207)]), some (none, false, [], cE, ⟨115, 9, 115, 33⟩, [(.type "set"), (.ref 207)])], [topFrame qE])) (fun w => by kernel_rfl) (fun w => by kernel_rfl) w
  · exact rowed (fun w => (((stackOf (r27x1 true w os)).take 3).map dataOf, (stackOf (r27x1 true w os)).drop 3)) (fun w => ([some (none, false, [], (.builtin "set.__init__" ⟨[(.ref 208), (.ref 207)], []⟩), ⟨115, 9, 115, 33⟩, [(.ref 208), (.ref 209)]), some (none, false, [(.ref 208), (.ref 208), (.ref 207)], (.builtin "type.__call__" ⟨[(.type "set"), (.ref 207)], []⟩), ⟨115, 9, 115, 33⟩, [(.builtin "set.__init__"), (.ref 208), (.ref 207), (.builtin "set.__init__"), (.ref 208), (.ref 207)]), some (none, false, [], cE, ⟨115, 9, 115, 33⟩, [(.type "set"), (.ref 207)])], [topFrame qE])) (fun w => by kernel_rfl) (fun w => by kernel_rfl) w
theorem pc27c1 (led : Bool) (w : World) (os : OsState) : segGoT treeTable prog w 28 ann 1 204 (S27c0 led w os) (th27c0 w os) = some (S27c1 led w os, (th27c1 led w os)) := by
  rw [r27x1_eq]
  exact go_three (pc27c1s led w os) (pc27c1d led w os)
theorem pc27end (led : Bool) (w : World) (os : OsState) : segRunT treeTable prog w 28 ann 1 117 (S27c1 led w os) (th27c1 led w os) = some (.next, S28L led w os, cE, ⟨115, 0, 115, 6⟩) := by
  cases led
  · exact rowed (fun w => segRunT treeTable prog w 28 ann 1 117 (S27c1 false w os) (th27c1 false w os)) (fun w => some (.next, S28L false w os, cE, ⟨115, 0, 115, 6⟩)) (fun w => by rw [PySem.W.Fast.te10110043849684766642, PySem.W.Fast.te14364793385576792824]; kernel_rfl) (fun w => by rw [PySem.W.Fast.te10110043849684766642, PySem.W.Fast.te14364793385576792824]; kernel_rfl) w
  · exact rowed (fun w => segRunT treeTable prog w 28 ann 1 117 (S27c1 true w os) (th27c1 true w os)) (fun w => some (.next, S28L true w os, cE, ⟨115, 0, 115, 6⟩)) (fun w => by rw [PySem.W.Fast.te10110043849684766642, PySem.W.Fast.te14364793385576792824]; kernel_rfl) (fun w => by rw [PySem.W.Fast.te10110043849684766642, PySem.W.Fast.te14364793385576792824]; kernel_rfl) w
theorem S28L_eq (w : World) (os : OsState) : S28L (!w.params.followText "set-order") w os = S28 w os := by kernel_rfl
theorem pc27 (w : World) (os : OsState) : segRun treeTable prog w 28 ann 1 361 (S27 w os).abs (piecesOf [stm 27] env cE ⟨113, 0, 114, 30⟩ [topFrame qE]) = some (.next, (S28 w os).abs, cE, ⟨115, 0, 115, 6⟩) := by
  rw [show 361 = 40 + (204 + (117)) from rfl, ← S28L_eq]
  exact (seg_go (segGo_of (pc27c0 w os)) (seg_go (segGo_of (pc27c1 (!w.params.followText "set-order") w os)) (segRun_of (pc27end (!w.params.followText "set-order") w os))))
theorem pc28 (w : World) (os : OsState) : segRunT treeTable prog w 28 ann 1 30 (S28 w os) (piecesOf [stm 28] env cE ⟨115, 0, 115, 6⟩ [topFrame qE]) = some (.next, S29 w os, cE, ⟨116, 0, 117, 30⟩) := by rw [PySem.W.Fast.te10110043849684766642, PySem.W.Fast.te14364793385576792824]; kernel_rfl
theorem r29x0_eq (w : World) (os : OsState) : segGoT treeTable prog w 28 ann 1 431 (S29 w os) (piecesOf [stm 29] env cE ⟨116, 0, 117, 30⟩ [topFrame qE]) = r29x0 w os := by rw [PySem.W.Fast.te10295753902157049106, PySem.W.Fast.te14364793385576792824]; kernel_rfl
theorem pc29c0s (w : World) (os : OsState) : r29x0 w os = some (S29c0 (!w.params.followText "set-order") w os, ⟨PySem.W.Fast.tw11892475500146522536 PySem.W.Fast.tw14364793385576792824 (.builtin "set.__init__" ⟨[(.ref 232), (.ref 231)], []⟩), (.builtin "set.__init__" ⟨[(.ref 232), (.ref 231)], []⟩), ⟨118, 9, 118, 88⟩, stackOf (r29x0 w os)⟩) := by
  exact rowed (fun w => r29x0 w os) (fun w => some (S29c0 (!w.params.followText "set-order") w os, ⟨PySem.W.Fast.tw11892475500146522536 PySem.W.Fast.tw14364793385576792824 (.builtin "set.__init__" ⟨[(.ref 232), (.ref 231)], []⟩), (.builtin "set.__init__" ⟨[(.ref 232), (.ref 231)], []⟩), ⟨118, 9, 118, 88⟩, stackOf (r29x0 w os)⟩)) (fun w => by kernel_rfl) (fun w => by kernel_rfl) w
theorem pc29c0d (w : World) (os : OsState) : (((stackOf (r29x0 w os)).take 2).map dataOf, (stackOf (r29x0 w os)).drop 2) = ([some (none, false, [(.ref 232), (.ref 232), (.ref 231)], (.builtin "type.__call__" ⟨[(.type "set"), (.ref 231)], []⟩), ⟨118, 9, 118, 88⟩, [(.builtin "set.__init__"), (.ref 232), (.ref 231), (.builtin "set.__init__"), (.ref 232), (.ref 231)]), some (none, false, [], cE, ⟨118, 9, 118, 88⟩, [(.type "set"), (.ref 231)])], [topFrame qE]) := by
  exact rowed (fun w => (((stackOf (r29x0 w os)).take 2).map dataOf, (stackOf (r29x0 w os)).drop 2)) (fun w => ([some (none, false, [(.ref 232), (.ref 232), (.ref 231)], (.builtin "type.__call__" ⟨[(.type "set"), (.ref 231)], []⟩), ⟨118, 9, 118, 88⟩, [(.builtin "set.__init__"), (.ref 232), (.ref 231), (.builtin "set.__init__"), (.ref 232), (.ref 231)]), some (none, false, [], cE, ⟨118, 9, 118, 88⟩, [(.type "set"), (.ref 231)])], [topFrame qE])) (fun w => by kernel_rfl) (fun w => by kernel_rfl) w
theorem pc29c0 (w : World) (os : OsState) : segGoT treeTable prog w 28 ann 1 431 (S29 w os) (piecesOf [stm 29] env cE ⟨116, 0, 117, 30⟩ [topFrame qE]) = some (S29c0 (!w.params.followText "set-order") w os, (th29c0 w os)) := by
  rw [r29x0_eq]
  exact go_two (pc29c0s w os) (pc29c0d w os)
theorem r29x1_eq (led : Bool) (w : World) (os : OsState) : segGoT treeTable prog w 28 ann 1 197 (S29c0 led w os) (th29c0 w os) = r29x1 led w os := by rw [PySem.W.Fast.te10295753902157049106, PySem.W.Fast.te14364793385576792824]; kernel_rfl
theorem pc29c1s (led : Bool) (w : World) (os : OsState) : r29x1 led w os = some (S29c1 led w os, ⟨PySem.W.Fast.tw11892475500146522536 PySem.W.Fast.tw14364793385576792824 (.builtin "set.update.loop" ⟨[(.ref 232), (.ref 233)], []⟩), (.builtin "set.update.loop" ⟨[(.ref 232), (.ref 233)], []⟩), ⟨118, 9, 118, 88⟩, stackOf (r29x1 led w os)⟩) := by
  cases led
  · exact rowed (fun w => r29x1 false w os) (fun w => some (S29c1 false w os, ⟨PySem.W.Fast.tw11892475500146522536 PySem.W.Fast.tw14364793385576792824 (.builtin "set.update.loop" ⟨[(.ref 232), (.ref 233)], []⟩), (.builtin "set.update.loop" ⟨[(.ref 232), (.ref 233)], []⟩), ⟨118, 9, 118, 88⟩, stackOf (r29x1 false w os)⟩)) (fun w => by kernel_rfl) (fun w => by kernel_rfl) w
  · exact rowed (fun w => r29x1 true w os) (fun w => some (S29c1 true w os, ⟨PySem.W.Fast.tw11892475500146522536 PySem.W.Fast.tw14364793385576792824 (.builtin "set.update.loop" ⟨[(.ref 232), (.ref 233)], []⟩), (.builtin "set.update.loop" ⟨[(.ref 232), (.ref 233)], []⟩), ⟨118, 9, 118, 88⟩, stackOf (r29x1 true w os)⟩)) (fun w => by kernel_rfl) (fun w => by kernel_rfl) w
theorem pc29c1d (led : Bool) (w : World) (os : OsState) : (((stackOf (r29x1 led w os)).take 3).map dataOf, (stackOf (r29x1 led w os)).drop 3) = ([some (none, false, [], (.builtin "set.__init__" ⟨[(.ref 232), (.ref 231)], []⟩), ⟨118, 9, 118, 88⟩, [(.ref 232), (.ref 233)]), some (none, false, [(.ref 232), (.ref 232), (.ref 231)], (.builtin "type.__call__" ⟨[(.type "set"), (.ref 231)], []⟩), ⟨118, 9, 118, 88⟩, [(.builtin "set.__init__"), (.ref 232), (.ref 231), (.builtin "set.__init__"), (.ref 232), (.ref 231)]), some (none, false, [], cE, ⟨118, 9, 118, 88⟩, [(.type "set"), (.ref 231)])], [topFrame qE]) := by
  cases led
  · exact rowed (fun w => (((stackOf (r29x1 false w os)).take 3).map dataOf, (stackOf (r29x1 false w os)).drop 3)) (fun w => ([some (none, false, [], (.builtin "set.__init__" ⟨[(.ref 232), (.ref 231)], []⟩), ⟨118, 9, 118, 88⟩, [(.ref 232), (.ref 233)]), some (none, false, [(.ref 232), (.ref 232), (.ref 231)], (.builtin "type.__call__" ⟨[(.type "set"), (.ref 231)], []⟩), ⟨118, 9, 118, 88⟩, [(.builtin "set.__init__"), (.ref 232), (.ref 231), (.builtin "set.__init__"), (.ref 232), (.ref 231)]), some (none, false, [], cE, ⟨118, 9, 118, 88⟩, [(.type "set"), (.ref 231)])], [topFrame qE])) (fun w => by kernel_rfl) (fun w => by kernel_rfl) w
  · exact rowed (fun w => (((stackOf (r29x1 true w os)).take 3).map dataOf, (stackOf (r29x1 true w os)).drop 3)) (fun w => ([some (none, false, [], (.builtin "set.__init__" ⟨[(.ref 232), (.ref 231)], []⟩), ⟨118, 9, 118, 88⟩, [(.ref 232), (.ref 233)]), some (none, false, [(.ref 232), (.ref 232), (.ref 231)], (.builtin "type.__call__" ⟨[(.type "set"), (.ref 231)], []⟩), ⟨118, 9, 118, 88⟩, [(.builtin "set.__init__"), (.ref 232), (.ref 231), (.builtin "set.__init__"), (.ref 232), (.ref 231)]), some (none, false, [], cE, ⟨118, 9, 118, 88⟩, [(.type "set"), (.ref 231)])], [topFrame qE])) (fun w => by kernel_rfl) (fun w => by kernel_rfl) w
theorem pc29c1 (led : Bool) (w : World) (os : OsState) : segGoT treeTable prog w 28 ann 1 197 (S29c0 led w os) (th29c0 w os) = some (S29c1 led w os, (th29c1 led w os)) := by
  rw [r29x1_eq]
  exact go_three (pc29c1s led w os) (pc29c1d led w os)
theorem pc29endff (w : World) (os : OsState) : (fun w => segRunT treeTable prog w 28 ann 1 147 (S29c1 false w os) (th29c1 false w os)) (w.withFollow "special-get-raises" false) = (fun w => some (.next, S30L false w os, cE, ⟨118, 0, 118, 6⟩)) (w.withFollow "special-get-raises" false) := by rw [PySem.W.Fast.te10110043849684766642, PySem.W.Fast.te14364793385576792824]; kernel_rfl
theorem pc29endft (w : World) (os : OsState) : (fun w => segRunT treeTable prog w 28 ann 1 147 (S29c1 false w os) (th29c1 false w os)) (w.withFollow "special-get-raises" true) = (fun w => some (.next, S30L false w os, cE, ⟨118, 0, 118, 6⟩)) (w.withFollow "special-get-raises" true) := by rw [PySem.W.Fast.te10110043849684766642, PySem.W.Fast.te14364793385576792824]; kernel_rfl
theorem pc29endtf (w : World) (os : OsState) : (fun w => segRunT treeTable prog w 28 ann 1 147 (S29c1 true w os) (th29c1 true w os)) (w.withFollow "special-get-raises" false) = (fun w => some (.next, S30L true w os, cE, ⟨118, 0, 118, 6⟩)) (w.withFollow "special-get-raises" false) := by rw [PySem.W.Fast.te10110043849684766642, PySem.W.Fast.te14364793385576792824]; kernel_rfl
theorem pc29endtt (w : World) (os : OsState) : (fun w => segRunT treeTable prog w 28 ann 1 147 (S29c1 true w os) (th29c1 true w os)) (w.withFollow "special-get-raises" true) = (fun w => some (.next, S30L true w os, cE, ⟨118, 0, 118, 6⟩)) (w.withFollow "special-get-raises" true) := by rw [PySem.W.Fast.te10110043849684766642, PySem.W.Fast.te14364793385576792824]; kernel_rfl
theorem pc29end (led : Bool) (w : World) (os : OsState) : segRunT treeTable prog w 28 ann 1 147 (S29c1 led w os) (th29c1 led w os) = some (.next, S30L led w os, cE, ⟨118, 0, 118, 6⟩) := by
  cases led
  · exact rowed (fun w => segRunT treeTable prog w 28 ann 1 147 (S29c1 false w os) (th29c1 false w os)) (fun w => some (.next, S30L false w os, cE, ⟨118, 0, 118, 6⟩)) (fun w => pc29endff w os) (fun w => pc29endft w os) w
  · exact rowed (fun w => segRunT treeTable prog w 28 ann 1 147 (S29c1 true w os) (th29c1 true w os)) (fun w => some (.next, S30L true w os, cE, ⟨118, 0, 118, 6⟩)) (fun w => pc29endtf w os) (fun w => pc29endtt w os) w
theorem S30L_eq (w : World) (os : OsState) : S30L (!w.params.followText "set-order") w os = S30 w os := by kernel_rfl
theorem pc29 (w : World) (os : OsState) : segRun treeTable prog w 28 ann 1 775 (S29 w os).abs (piecesOf [stm 29] env cE ⟨116, 0, 117, 30⟩ [topFrame qE]) = some (.next, (S30 w os).abs, cE, ⟨118, 0, 118, 6⟩) := by
  rw [show 775 = 431 + (197 + (147)) from rfl, ← S30L_eq]
  exact (seg_go (segGo_of (pc29c0 w os)) (seg_go (segGo_of (pc29c1 (!w.params.followText "set-order") w os)) (segRun_of (pc29end (!w.params.followText "set-order") w os))))
theorem pc30 (w : World) (os : OsState) : segRunT treeTable prog w 28 ann 1 30 (S30 w os) (piecesOf [stm 30] env cE ⟨118, 0, 118, 6⟩ [topFrame qE]) = some (.next, S31 w os, cE, ⟨119, 0, 120, 30⟩) := by rw [PySem.W.Fast.te10110043849684766642, PySem.W.Fast.te14364793385576792824]; kernel_rfl
theorem r31x0_eq (w : World) (os : OsState) : segGoT treeTable prog w 28 ann 1 87 (S31 w os) (piecesOf [stm 31] env cE ⟨119, 0, 120, 30⟩ [topFrame qE]) = r31x0 w os := by rw [PySem.W.Fast.te10295753902157049106, PySem.W.Fast.te14364793385576792824]; kernel_rfl
theorem pc31c0s (w : World) (os : OsState) : r31x0 w os = some (S31c0 w os, ⟨PySem.W.Fast.tw11892475500146522536 PySem.W.Fast.tw14364793385576792824 (.builtin "list.extend.loop" ⟨[(.ref 245), (.ref 246), .none], []⟩), (.builtin "list.extend.loop" ⟨[(.ref 245), (.ref 246), .none], []⟩), ⟨121, 24, 121, 51⟩, stackOf (r31x0 w os)⟩) := by
  exact rowed (fun w => r31x0 w os) (fun w => some (S31c0 w os, ⟨PySem.W.Fast.tw11892475500146522536 PySem.W.Fast.tw14364793385576792824 (.builtin "list.extend.loop" ⟨[(.ref 245), (.ref 246), .none], []⟩), (.builtin "list.extend.loop" ⟨[(.ref 245), (.ref 246), .none], []⟩), ⟨121, 24, 121, 51⟩, stackOf (r31x0 w os)⟩)) (fun w => by kernel_rfl) (fun w => by kernel_rfl) w
theorem pc31c0d (w : World) (os : OsState) : (((stackOf (r31x0 w os)).take 2).map dataOf, (stackOf (r31x0 w os)).drop 2) = ([some (none, false, [(.ref 245), (.ref 245), (.ref 244)], (.builtin "type.__call__" ⟨[(.type "list"), (.ref 244)], []⟩), ⟨121, 24, 121, 51⟩, [(.builtin "list.__init__"), (.ref 245), (.ref 244), (.builtin "list.__init__"), (.ref 245), (.ref 244)]), some (none, false, [(.ref 243)], cE, ⟨121, 24, 121, 51⟩, [(.type "list"), (.ref 244)])], [topFrame qE]) := by
  exact rowed (fun w => (((stackOf (r31x0 w os)).take 2).map dataOf, (stackOf (r31x0 w os)).drop 2)) (fun w => ([some (none, false, [(.ref 245), (.ref 245), (.ref 244)], (.builtin "type.__call__" ⟨[(.type "list"), (.ref 244)], []⟩), ⟨121, 24, 121, 51⟩, [(.builtin "list.__init__"), (.ref 245), (.ref 244), (.builtin "list.__init__"), (.ref 245), (.ref 244)]), some (none, false, [(.ref 243)], cE, ⟨121, 24, 121, 51⟩, [(.type "list"), (.ref 244)])], [topFrame qE])) (fun w => by kernel_rfl) (fun w => by kernel_rfl) w
theorem pc31c0 (w : World) (os : OsState) : segGoT treeTable prog w 28 ann 1 87 (S31 w os) (piecesOf [stm 31] env cE ⟨119, 0, 120, 30⟩ [topFrame qE]) = some (S31c0 w os, (th31c0 w os)) := by
  rw [r31x0_eq]
  exact go_two (pc31c0s w os) (pc31c0d w os)
theorem pc31c1 (w : World) (os : OsState) : segGoT treeTable prog w 28 ann 1 510 (S31c0 w os) (th31c0 w os) = some (S31c1 w os, (th31c1 w os)) := by
  rw [PySem.W.Fast.te10295753902157049106, PySem.W.Fast.te14364793385576792824]; kernel_rfl
theorem pc31c2 (w : World) (os : OsState) : segGoT treeTable prog w 28 ann 1 510 (S31c1 w os) (th31c1 w os) = some (S31c2 w os, (th31c2 w os)) := by
  rw [PySem.W.Fast.te10295753902157049106, PySem.W.Fast.te14364793385576792824]; kernel_rfl
theorem pc31c3 (w : World) (os : OsState) : segGoT treeTable prog w 28 ann 1 510 (S31c2 w os) (th31c2 w os) = some (S31c3 w os, (th31c3 w os)) := by
  rw [PySem.W.Fast.te10295753902157049106, PySem.W.Fast.te14364793385576792824]; kernel_rfl
theorem r31x4_eq (w : World) (os : OsState) : segGoT treeTable prog w 28 ann 1 146 (S31c3 w os) (th31c3 w os) = r31x4 w os := by rw [PySem.W.Fast.te10295753902157049106, PySem.W.Fast.te14364793385576792824]; kernel_rfl
theorem pc31c4s (w : World) (os : OsState) : r31x4 w os = some (S31c4 (!w.params.followText "set-order") w os, ⟨PySem.W.Fast.tw11892475500146522536 PySem.W.Fast.tw14364793385576792824 (.builtin "set.__init__" ⟨[(.ref 250), (.ref 249)], []⟩), (.builtin "set.__init__" ⟨[(.ref 250), (.ref 249)], []⟩), ⟨121, 9, 121, 52⟩, stackOf (r31x4 w os)⟩) := by
  exact rowed (fun w => r31x4 w os) (fun w => some (S31c4 (!w.params.followText "set-order") w os, ⟨PySem.W.Fast.tw11892475500146522536 PySem.W.Fast.tw14364793385576792824 (.builtin "set.__init__" ⟨[(.ref 250), (.ref 249)], []⟩), (.builtin "set.__init__" ⟨[(.ref 250), (.ref 249)], []⟩), ⟨121, 9, 121, 52⟩, stackOf (r31x4 w os)⟩)) (fun w => by kernel_rfl) (fun w => by kernel_rfl) w
theorem pc31c4d (w : World) (os : OsState) : (((stackOf (r31x4 w os)).take 2).map dataOf, (stackOf (r31x4 w os)).drop 2) = ([some (none, false, [(.ref 250), (.ref 250), (.ref 249)], (.builtin "type.__call__" ⟨[(.type "set"), (.ref 249)], []⟩), ⟨121, 9, 121, 52⟩, [(.builtin "set.__init__"), (.ref 250), (.ref 249), (.builtin "set.__init__"), (.ref 250), (.ref 249)]), some (none, false, [], cE, ⟨121, 9, 121, 52⟩, [(.type "set"), (.ref 249)])], [topFrame qE]) := by
  exact rowed (fun w => (((stackOf (r31x4 w os)).take 2).map dataOf, (stackOf (r31x4 w os)).drop 2)) (fun w => ([some (none, false, [(.ref 250), (.ref 250), (.ref 249)], (.builtin "type.__call__" ⟨[(.type "set"), (.ref 249)], []⟩), ⟨121, 9, 121, 52⟩, [(.builtin "set.__init__"), (.ref 250), (.ref 249), (.builtin "set.__init__"), (.ref 250), (.ref 249)]), some (none, false, [], cE, ⟨121, 9, 121, 52⟩, [(.type "set"), (.ref 249)])], [topFrame qE])) (fun w => by kernel_rfl) (fun w => by kernel_rfl) w
theorem pc31c4 (w : World) (os : OsState) : segGoT treeTable prog w 28 ann 1 146 (S31c3 w os) (th31c3 w os) = some (S31c4 (!w.params.followText "set-order") w os, (th31c4 w os)) := by
  rw [r31x4_eq]
  exact go_two (pc31c4s w os) (pc31c4d w os)
theorem r31x5_eq (led : Bool) (w : World) (os : OsState) : segGoT treeTable prog w 28 ann 1 75 (S31c4 led w os) (th31c4 w os) = r31x5 led w os := by rw [PySem.W.Fast.te10295753902157049106, PySem.W.Fast.te14364793385576792824]; kernel_rfl
theorem pc31c5s (led : Bool) (w : World) (os : OsState) : r31x5 led w os = some (S31c5 led w os, ⟨PySem.W.Fast.tw11892475500146522536 PySem.W.Fast.tw14364793385576792824 (.builtin "set.update.loop" ⟨[(.ref 250), (.ref 251)], []⟩), (.builtin "set.update.loop" ⟨[(.ref 250), (.ref 251)], []⟩), ⟨121, 9, 121, 52⟩, stackOf (r31x5 led w os)⟩) := by
  cases led
  · exact rowed (fun w => r31x5 false w os) (fun w => some (S31c5 false w os, ⟨PySem.W.Fast.tw11892475500146522536 PySem.W.Fast.tw14364793385576792824 (.builtin "set.update.loop" ⟨[(.ref 250), (.ref 251)], []⟩), (.builtin "set.update.loop" ⟨[(.ref 250), (.ref 251)], []⟩), ⟨121, 9, 121, 52⟩, stackOf (r31x5 false w os)⟩)) (fun w => by kernel_rfl) (fun w => by kernel_rfl) w
  · exact rowed (fun w => r31x5 true w os) (fun w => some (S31c5 true w os, ⟨PySem.W.Fast.tw11892475500146522536 PySem.W.Fast.tw14364793385576792824 (.builtin "set.update.loop" ⟨[(.ref 250), (.ref 251)], []⟩), (.builtin "set.update.loop" ⟨[(.ref 250), (.ref 251)], []⟩), ⟨121, 9, 121, 52⟩, stackOf (r31x5 true w os)⟩)) (fun w => by kernel_rfl) (fun w => by kernel_rfl) w
theorem pc31c5d (led : Bool) (w : World) (os : OsState) : (((stackOf (r31x5 led w os)).take 3).map dataOf, (stackOf (r31x5 led w os)).drop 3) = ([some (none, false, [], (.builtin "set.__init__" ⟨[(.ref 250), (.ref 249)], []⟩), ⟨121, 9, 121, 52⟩, [(.ref 250), (.ref 251)]), some (none, false, [(.ref 250), (.ref 250), (.ref 249)], (.builtin "type.__call__" ⟨[(.type "set"), (.ref 249)], []⟩), ⟨121, 9, 121, 52⟩, [(.builtin "set.__init__"), (.ref 250), (.ref 249), (.builtin "set.__init__"), (.ref 250), (.ref 249)]), some (none, false, [], cE, ⟨121, 9, 121, 52⟩, [(.type "set"), (.ref 249)])], [topFrame qE]) := by
  cases led
  · exact rowed (fun w => (((stackOf (r31x5 false w os)).take 3).map dataOf, (stackOf (r31x5 false w os)).drop 3)) (fun w => ([some (none, false, [], (.builtin "set.__init__" ⟨[(.ref 250), (.ref 249)], []⟩), ⟨121, 9, 121, 52⟩, [(.ref 250), (.ref 251)]), some (none, false, [(.ref 250), (.ref 250), (.ref 249)], (.builtin "type.__call__" ⟨[(.type "set"), (.ref 249)], []⟩), ⟨121, 9, 121, 52⟩, [(.builtin "set.__init__"), (.ref 250), (.ref 249), (.builtin "set.__init__"), (.ref 250), (.ref 249)]), some (none, false, [], cE, ⟨121, 9, 121, 52⟩, [(.type "set"), (.ref 249)])], [topFrame qE])) (fun w => by kernel_rfl) (fun w => by kernel_rfl) w
  · exact rowed (fun w => (((stackOf (r31x5 true w os)).take 3).map dataOf, (stackOf (r31x5 true w os)).drop 3)) (fun w => ([some (none, false, [], (.builtin "set.__init__" ⟨[(.ref 250), (.ref 249)], []⟩), ⟨121, 9, 121, 52⟩, [(.ref 250), (.ref 251)]), some (none, false, [(.ref 250), (.ref 250), (.ref 249)], (.builtin "type.__call__" ⟨[(.type "set"), (.ref 249)], []⟩), ⟨121, 9, 121, 52⟩, [(.builtin "set.__init__"), (.ref 250), (.ref 249), (.builtin "set.__init__"), (.ref 250), (.ref 249)]), some (none, false, [], cE, ⟨121, 9, 121, 52⟩, [(.type "set"), (.ref 249)])], [topFrame qE])) (fun w => by kernel_rfl) (fun w => by kernel_rfl) w
theorem pc31c5 (led : Bool) (w : World) (os : OsState) : segGoT treeTable prog w 28 ann 1 75 (S31c4 led w os) (th31c4 w os) = some (S31c5 led w os, (th31c5 led w os)) := by
  rw [r31x5_eq]
  exact go_three (pc31c5s led w os) (pc31c5d led w os)
theorem pc31c6 (led : Bool) (w : World) (os : OsState) : segGoT treeTable prog w 28 ann 1 82 (S31c5 led w os) (th31c5 led w os) = some (S31c6 led w os, (th31c6 led w os)) := by
  cases led
  · exact rowed (fun w => segGoT treeTable prog w 28 ann 1 82 (S31c5 false w os) (th31c5 false w os)) (fun w => some (S31c6 false w os, (th31c6 false w os))) (fun w => by rw [PySem.W.Fast.te10295753902157049106, PySem.W.Fast.te14364793385576792824]; kernel_rfl) (fun w => by rw [PySem.W.Fast.te10295753902157049106, PySem.W.Fast.te14364793385576792824]; kernel_rfl) w
  · exact rowed (fun w => segGoT treeTable prog w 28 ann 1 82 (S31c5 true w os) (th31c5 true w os)) (fun w => some (S31c6 true w os, (th31c6 true w os))) (fun w => by rw [PySem.W.Fast.te10295753902157049106, PySem.W.Fast.te14364793385576792824]; kernel_rfl) (fun w => by rw [PySem.W.Fast.te10295753902157049106, PySem.W.Fast.te14364793385576792824]; kernel_rfl) w
theorem pc31c7 (led : Bool) (w : World) (os : OsState) : segGoT treeTable prog w 28 ann 1 80 (S31c6 led w os) (th31c6 led w os) = some (S31c7 led w os, (th31c7 led w os)) := by
  cases led
  · exact rowed (fun w => segGoT treeTable prog w 28 ann 1 80 (S31c6 false w os) (th31c6 false w os)) (fun w => some (S31c7 false w os, (th31c7 false w os))) (fun w => by rw [PySem.W.Fast.te10295753902157049106, PySem.W.Fast.te14364793385576792824]; kernel_rfl) (fun w => by rw [PySem.W.Fast.te10295753902157049106, PySem.W.Fast.te14364793385576792824]; kernel_rfl) w
  · exact rowed (fun w => segGoT treeTable prog w 28 ann 1 80 (S31c6 true w os) (th31c6 true w os)) (fun w => some (S31c7 true w os, (th31c7 true w os))) (fun w => by rw [PySem.W.Fast.te10295753902157049106, PySem.W.Fast.te14364793385576792824]; kernel_rfl) (fun w => by rw [PySem.W.Fast.te10295753902157049106, PySem.W.Fast.te14364793385576792824]; kernel_rfl) w
theorem pc31c8 (led : Bool) (w : World) (os : OsState) : segGoT treeTable prog w 28 ann 1 80 (S31c7 led w os) (th31c7 led w os) = some (S31c8 led w os, (th31c8 led w os)) := by
  cases led
  · exact rowed (fun w => segGoT treeTable prog w 28 ann 1 80 (S31c7 false w os) (th31c7 false w os)) (fun w => some (S31c8 false w os, (th31c8 false w os))) (fun w => by rw [PySem.W.Fast.te10295753902157049106, PySem.W.Fast.te14364793385576792824]; kernel_rfl) (fun w => by rw [PySem.W.Fast.te10295753902157049106, PySem.W.Fast.te14364793385576792824]; kernel_rfl) w
  · exact rowed (fun w => segGoT treeTable prog w 28 ann 1 80 (S31c7 true w os) (th31c7 true w os)) (fun w => some (S31c8 true w os, (th31c8 true w os))) (fun w => by rw [PySem.W.Fast.te10295753902157049106, PySem.W.Fast.te14364793385576792824]; kernel_rfl) (fun w => by rw [PySem.W.Fast.te10295753902157049106, PySem.W.Fast.te14364793385576792824]; kernel_rfl) w
theorem pc31c9 (led : Bool) (w : World) (os : OsState) : segGoT treeTable prog w 28 ann 1 82 (S31c8 led w os) (th31c8 led w os) = some (S31c9 led w os, (th31c9 led w os)) := by
  cases led
  · exact rowed (fun w => segGoT treeTable prog w 28 ann 1 82 (S31c8 false w os) (th31c8 false w os)) (fun w => some (S31c9 false w os, (th31c9 false w os))) (fun w => by rw [PySem.W.Fast.te10295753902157049106, PySem.W.Fast.te14364793385576792824]; kernel_rfl) (fun w => by rw [PySem.W.Fast.te10295753902157049106, PySem.W.Fast.te14364793385576792824]; kernel_rfl) w
  · exact rowed (fun w => segGoT treeTable prog w 28 ann 1 82 (S31c8 true w os) (th31c8 true w os)) (fun w => some (S31c9 true w os, (th31c9 true w os))) (fun w => by rw [PySem.W.Fast.te10295753902157049106, PySem.W.Fast.te14364793385576792824]; kernel_rfl) (fun w => by rw [PySem.W.Fast.te10295753902157049106, PySem.W.Fast.te14364793385576792824]; kernel_rfl) w
theorem pc31c10 (led : Bool) (w : World) (os : OsState) : segGoT treeTable prog w 28 ann 1 80 (S31c9 led w os) (th31c9 led w os) = some (S31c10 led w os, (th31c10 led w os)) := by
  cases led
  · exact rowed (fun w => segGoT treeTable prog w 28 ann 1 80 (S31c9 false w os) (th31c9 false w os)) (fun w => some (S31c10 false w os, (th31c10 false w os))) (fun w => by rw [PySem.W.Fast.te10295753902157049106, PySem.W.Fast.te14364793385576792824]; kernel_rfl) (fun w => by rw [PySem.W.Fast.te10295753902157049106, PySem.W.Fast.te14364793385576792824]; kernel_rfl) w
  · exact rowed (fun w => segGoT treeTable prog w 28 ann 1 80 (S31c9 true w os) (th31c9 true w os)) (fun w => some (S31c10 true w os, (th31c10 true w os))) (fun w => by rw [PySem.W.Fast.te10295753902157049106, PySem.W.Fast.te14364793385576792824]; kernel_rfl) (fun w => by rw [PySem.W.Fast.te10295753902157049106, PySem.W.Fast.te14364793385576792824]; kernel_rfl) w
theorem pc31c11 (led : Bool) (w : World) (os : OsState) : segGoT treeTable prog w 28 ann 1 80 (S31c10 led w os) (th31c10 led w os) = some (S31c11 led w os, (th31c11 led w os)) := by
  cases led
  · exact rowed (fun w => segGoT treeTable prog w 28 ann 1 80 (S31c10 false w os) (th31c10 false w os)) (fun w => some (S31c11 false w os, (th31c11 false w os))) (fun w => by rw [PySem.W.Fast.te10295753902157049106, PySem.W.Fast.te14364793385576792824]; kernel_rfl) (fun w => by rw [PySem.W.Fast.te10295753902157049106, PySem.W.Fast.te14364793385576792824]; kernel_rfl) w
  · exact rowed (fun w => segGoT treeTable prog w 28 ann 1 80 (S31c10 true w os) (th31c10 true w os)) (fun w => some (S31c11 true w os, (th31c11 true w os))) (fun w => by rw [PySem.W.Fast.te10295753902157049106, PySem.W.Fast.te14364793385576792824]; kernel_rfl) (fun w => by rw [PySem.W.Fast.te10295753902157049106, PySem.W.Fast.te14364793385576792824]; kernel_rfl) w
theorem pc31c12 (led : Bool) (w : World) (os : OsState) : segGoT treeTable prog w 28 ann 1 80 (S31c11 led w os) (th31c11 led w os) = some (S31c12 led w os, (th31c12 led w os)) := by
  cases led
  · exact rowed (fun w => segGoT treeTable prog w 28 ann 1 80 (S31c11 false w os) (th31c11 false w os)) (fun w => some (S31c12 false w os, (th31c12 false w os))) (fun w => by rw [PySem.W.Fast.te10295753902157049106, PySem.W.Fast.te14364793385576792824]; kernel_rfl) (fun w => by rw [PySem.W.Fast.te10295753902157049106, PySem.W.Fast.te14364793385576792824]; kernel_rfl) w
  · exact rowed (fun w => segGoT treeTable prog w 28 ann 1 80 (S31c11 true w os) (th31c11 true w os)) (fun w => some (S31c12 true w os, (th31c12 true w os))) (fun w => by rw [PySem.W.Fast.te10295753902157049106, PySem.W.Fast.te14364793385576792824]; kernel_rfl) (fun w => by rw [PySem.W.Fast.te10295753902157049106, PySem.W.Fast.te14364793385576792824]; kernel_rfl) w
theorem pc31c13 (led : Bool) (w : World) (os : OsState) : segGoT treeTable prog w 28 ann 1 80 (S31c12 led w os) (th31c12 led w os) = some (S31c13 led w os, (th31c13 led w os)) := by
  cases led
  · exact rowed (fun w => segGoT treeTable prog w 28 ann 1 80 (S31c12 false w os) (th31c12 false w os)) (fun w => some (S31c13 false w os, (th31c13 false w os))) (fun w => by rw [PySem.W.Fast.te10295753902157049106, PySem.W.Fast.te14364793385576792824]; kernel_rfl) (fun w => by rw [PySem.W.Fast.te10295753902157049106, PySem.W.Fast.te14364793385576792824]; kernel_rfl) w
  · exact rowed (fun w => segGoT treeTable prog w 28 ann 1 80 (S31c12 true w os) (th31c12 true w os)) (fun w => some (S31c13 true w os, (th31c13 true w os))) (fun w => by rw [PySem.W.Fast.te10295753902157049106, PySem.W.Fast.te14364793385576792824]; kernel_rfl) (fun w => by rw [PySem.W.Fast.te10295753902157049106, PySem.W.Fast.te14364793385576792824]; kernel_rfl) w
theorem pc31c14 (led : Bool) (w : World) (os : OsState) : segGoT treeTable prog w 28 ann 1 80 (S31c13 led w os) (th31c13 led w os) = some (S31c14 led w os, (th31c14 led w os)) := by
  cases led
  · exact rowed (fun w => segGoT treeTable prog w 28 ann 1 80 (S31c13 false w os) (th31c13 false w os)) (fun w => some (S31c14 false w os, (th31c14 false w os))) (fun w => by rw [PySem.W.Fast.te10295753902157049106, PySem.W.Fast.te14364793385576792824]; kernel_rfl) (fun w => by rw [PySem.W.Fast.te10295753902157049106, PySem.W.Fast.te14364793385576792824]; kernel_rfl) w
  · exact rowed (fun w => segGoT treeTable prog w 28 ann 1 80 (S31c13 true w os) (th31c13 true w os)) (fun w => some (S31c14 true w os, (th31c14 true w os))) (fun w => by rw [PySem.W.Fast.te10295753902157049106, PySem.W.Fast.te14364793385576792824]; kernel_rfl) (fun w => by rw [PySem.W.Fast.te10295753902157049106, PySem.W.Fast.te14364793385576792824]; kernel_rfl) w
theorem pc31c15 (led : Bool) (w : World) (os : OsState) : segGoT treeTable prog w 28 ann 1 80 (S31c14 led w os) (th31c14 led w os) = some (S31c15 led w os, (th31c15 led w os)) := by
  cases led
  · exact rowed (fun w => segGoT treeTable prog w 28 ann 1 80 (S31c14 false w os) (th31c14 false w os)) (fun w => some (S31c15 false w os, (th31c15 false w os))) (fun w => by rw [PySem.W.Fast.te10295753902157049106, PySem.W.Fast.te14364793385576792824]; kernel_rfl) (fun w => by rw [PySem.W.Fast.te10295753902157049106, PySem.W.Fast.te14364793385576792824]; kernel_rfl) w
  · exact rowed (fun w => segGoT treeTable prog w 28 ann 1 80 (S31c14 true w os) (th31c14 true w os)) (fun w => some (S31c15 true w os, (th31c15 true w os))) (fun w => by rw [PySem.W.Fast.te10295753902157049106, PySem.W.Fast.te14364793385576792824]; kernel_rfl) (fun w => by rw [PySem.W.Fast.te10295753902157049106, PySem.W.Fast.te14364793385576792824]; kernel_rfl) w
theorem pc31c16 (led : Bool) (w : World) (os : OsState) : segGoT treeTable prog w 28 ann 1 80 (S31c15 led w os) (th31c15 led w os) = some (S31c16 led w os, (th31c16 led w os)) := by
  cases led
  · exact rowed (fun w => segGoT treeTable prog w 28 ann 1 80 (S31c15 false w os) (th31c15 false w os)) (fun w => some (S31c16 false w os, (th31c16 false w os))) (fun w => by rw [PySem.W.Fast.te10295753902157049106, PySem.W.Fast.te14364793385576792824]; kernel_rfl) (fun w => by rw [PySem.W.Fast.te10295753902157049106, PySem.W.Fast.te14364793385576792824]; kernel_rfl) w
  · exact rowed (fun w => segGoT treeTable prog w 28 ann 1 80 (S31c15 true w os) (th31c15 true w os)) (fun w => some (S31c16 true w os, (th31c16 true w os))) (fun w => by rw [PySem.W.Fast.te10295753902157049106, PySem.W.Fast.te14364793385576792824]; kernel_rfl) (fun w => by rw [PySem.W.Fast.te10295753902157049106, PySem.W.Fast.te14364793385576792824]; kernel_rfl) w
theorem pc31c17 (led : Bool) (w : World) (os : OsState) : segGoT treeTable prog w 28 ann 1 80 (S31c16 led w os) (th31c16 led w os) = some (S31c17 led w os, (th31c17 led w os)) := by
  cases led
  · exact rowed (fun w => segGoT treeTable prog w 28 ann 1 80 (S31c16 false w os) (th31c16 false w os)) (fun w => some (S31c17 false w os, (th31c17 false w os))) (fun w => by rw [PySem.W.Fast.te10295753902157049106, PySem.W.Fast.te14364793385576792824]; kernel_rfl) (fun w => by rw [PySem.W.Fast.te10295753902157049106, PySem.W.Fast.te14364793385576792824]; kernel_rfl) w
  · exact rowed (fun w => segGoT treeTable prog w 28 ann 1 80 (S31c16 true w os) (th31c16 true w os)) (fun w => some (S31c17 true w os, (th31c17 true w os))) (fun w => by rw [PySem.W.Fast.te10295753902157049106, PySem.W.Fast.te14364793385576792824]; kernel_rfl) (fun w => by rw [PySem.W.Fast.te10295753902157049106, PySem.W.Fast.te14364793385576792824]; kernel_rfl) w
theorem pc31c18 (led : Bool) (w : World) (os : OsState) : segGoT treeTable prog w 28 ann 1 80 (S31c17 led w os) (th31c17 led w os) = some (S31c18 led w os, (th31c18 led w os)) := by
  cases led
  · exact rowed (fun w => segGoT treeTable prog w 28 ann 1 80 (S31c17 false w os) (th31c17 false w os)) (fun w => some (S31c18 false w os, (th31c18 false w os))) (fun w => by rw [PySem.W.Fast.te10295753902157049106, PySem.W.Fast.te14364793385576792824]; kernel_rfl) (fun w => by rw [PySem.W.Fast.te10295753902157049106, PySem.W.Fast.te14364793385576792824]; kernel_rfl) w
  · exact rowed (fun w => segGoT treeTable prog w 28 ann 1 80 (S31c17 true w os) (th31c17 true w os)) (fun w => some (S31c18 true w os, (th31c18 true w os))) (fun w => by rw [PySem.W.Fast.te10295753902157049106, PySem.W.Fast.te14364793385576792824]; kernel_rfl) (fun w => by rw [PySem.W.Fast.te10295753902157049106, PySem.W.Fast.te14364793385576792824]; kernel_rfl) w
theorem pc31c19 (led : Bool) (w : World) (os : OsState) : segGoT treeTable prog w 28 ann 1 80 (S31c18 led w os) (th31c18 led w os) = some (S31c19 led w os, (th31c19 led w os)) := by
  cases led
  · exact rowed (fun w => segGoT treeTable prog w 28 ann 1 80 (S31c18 false w os) (th31c18 false w os)) (fun w => some (S31c19 false w os, (th31c19 false w os))) (fun w => by rw [PySem.W.Fast.te10295753902157049106, PySem.W.Fast.te14364793385576792824]; kernel_rfl) (fun w => by rw [PySem.W.Fast.te10295753902157049106, PySem.W.Fast.te14364793385576792824]; kernel_rfl) w
  · exact rowed (fun w => segGoT treeTable prog w 28 ann 1 80 (S31c18 true w os) (th31c18 true w os)) (fun w => some (S31c19 true w os, (th31c19 true w os))) (fun w => by rw [PySem.W.Fast.te10295753902157049106, PySem.W.Fast.te14364793385576792824]; kernel_rfl) (fun w => by rw [PySem.W.Fast.te10295753902157049106, PySem.W.Fast.te14364793385576792824]; kernel_rfl) w
theorem pc31c20 (led : Bool) (w : World) (os : OsState) : segGoT treeTable prog w 28 ann 1 80 (S31c19 led w os) (th31c19 led w os) = some (S31c20 led w os, (th31c20 led w os)) := by
  cases led
  · exact rowed (fun w => segGoT treeTable prog w 28 ann 1 80 (S31c19 false w os) (th31c19 false w os)) (fun w => some (S31c20 false w os, (th31c20 false w os))) (fun w => by rw [PySem.W.Fast.te10295753902157049106, PySem.W.Fast.te14364793385576792824]; kernel_rfl) (fun w => by rw [PySem.W.Fast.te10295753902157049106, PySem.W.Fast.te14364793385576792824]; kernel_rfl) w
  · exact rowed (fun w => segGoT treeTable prog w 28 ann 1 80 (S31c19 true w os) (th31c19 true w os)) (fun w => some (S31c20 true w os, (th31c20 true w os))) (fun w => by rw [PySem.W.Fast.te10295753902157049106, PySem.W.Fast.te14364793385576792824]; kernel_rfl) (fun w => by rw [PySem.W.Fast.te10295753902157049106, PySem.W.Fast.te14364793385576792824]; kernel_rfl) w
theorem pc31c21 (led : Bool) (w : World) (os : OsState) : segGoT treeTable prog w 28 ann 1 80 (S31c20 led w os) (th31c20 led w os) = some (S31c21 led w os, (th31c21 led w os)) := by
  cases led
  · exact rowed (fun w => segGoT treeTable prog w 28 ann 1 80 (S31c20 false w os) (th31c20 false w os)) (fun w => some (S31c21 false w os, (th31c21 false w os))) (fun w => by rw [PySem.W.Fast.te10295753902157049106, PySem.W.Fast.te14364793385576792824]; kernel_rfl) (fun w => by rw [PySem.W.Fast.te10295753902157049106, PySem.W.Fast.te14364793385576792824]; kernel_rfl) w
  · exact rowed (fun w => segGoT treeTable prog w 28 ann 1 80 (S31c20 true w os) (th31c20 true w os)) (fun w => some (S31c21 true w os, (th31c21 true w os))) (fun w => by rw [PySem.W.Fast.te10295753902157049106, PySem.W.Fast.te14364793385576792824]; kernel_rfl) (fun w => by rw [PySem.W.Fast.te10295753902157049106, PySem.W.Fast.te14364793385576792824]; kernel_rfl) w
theorem pc31c22 (led : Bool) (w : World) (os : OsState) : segGoT treeTable prog w 28 ann 1 80 (S31c21 led w os) (th31c21 led w os) = some (S31c22 led w os, (th31c22 led w os)) := by
  cases led
  · exact rowed (fun w => segGoT treeTable prog w 28 ann 1 80 (S31c21 false w os) (th31c21 false w os)) (fun w => some (S31c22 false w os, (th31c22 false w os))) (fun w => by rw [PySem.W.Fast.te10295753902157049106, PySem.W.Fast.te14364793385576792824]; kernel_rfl) (fun w => by rw [PySem.W.Fast.te10295753902157049106, PySem.W.Fast.te14364793385576792824]; kernel_rfl) w
  · exact rowed (fun w => segGoT treeTable prog w 28 ann 1 80 (S31c21 true w os) (th31c21 true w os)) (fun w => some (S31c22 true w os, (th31c22 true w os))) (fun w => by rw [PySem.W.Fast.te10295753902157049106, PySem.W.Fast.te14364793385576792824]; kernel_rfl) (fun w => by rw [PySem.W.Fast.te10295753902157049106, PySem.W.Fast.te14364793385576792824]; kernel_rfl) w
theorem pc31c23 (led : Bool) (w : World) (os : OsState) : segGoT treeTable prog w 28 ann 1 80 (S31c22 led w os) (th31c22 led w os) = some (S31c23 led w os, (th31c23 led w os)) := by
  cases led
  · exact rowed (fun w => segGoT treeTable prog w 28 ann 1 80 (S31c22 false w os) (th31c22 false w os)) (fun w => some (S31c23 false w os, (th31c23 false w os))) (fun w => by rw [PySem.W.Fast.te10295753902157049106, PySem.W.Fast.te14364793385576792824]; kernel_rfl) (fun w => by rw [PySem.W.Fast.te10295753902157049106, PySem.W.Fast.te14364793385576792824]; kernel_rfl) w
  · exact rowed (fun w => segGoT treeTable prog w 28 ann 1 80 (S31c22 true w os) (th31c22 true w os)) (fun w => some (S31c23 true w os, (th31c23 true w os))) (fun w => by rw [PySem.W.Fast.te10295753902157049106, PySem.W.Fast.te14364793385576792824]; kernel_rfl) (fun w => by rw [PySem.W.Fast.te10295753902157049106, PySem.W.Fast.te14364793385576792824]; kernel_rfl) w
theorem pc31c24ff (w : World) (os : OsState) : (fun w => segGoT treeTable prog w 28 ann 1 82 (S31c23 false w os) (th31c23 false w os)) (w.withFollow "special-get-raises" false) = (fun w => some (S31c24 false w os, (th31c24 false w os))) (w.withFollow "special-get-raises" false) := by rw [PySem.W.Fast.te10295753902157049106, PySem.W.Fast.te14364793385576792824]; kernel_rfl
theorem pc31c24ft (w : World) (os : OsState) : (fun w => segGoT treeTable prog w 28 ann 1 82 (S31c23 false w os) (th31c23 false w os)) (w.withFollow "special-get-raises" true) = (fun w => some (S31c24 false w os, (th31c24 false w os))) (w.withFollow "special-get-raises" true) := by rw [PySem.W.Fast.te10295753902157049106, PySem.W.Fast.te14364793385576792824]; kernel_rfl
theorem pc31c24tf (w : World) (os : OsState) : (fun w => segGoT treeTable prog w 28 ann 1 82 (S31c23 true w os) (th31c23 true w os)) (w.withFollow "special-get-raises" false) = (fun w => some (S31c24 true w os, (th31c24 true w os))) (w.withFollow "special-get-raises" false) := by rw [PySem.W.Fast.te10295753902157049106, PySem.W.Fast.te14364793385576792824]; kernel_rfl
theorem pc31c24tt (w : World) (os : OsState) : (fun w => segGoT treeTable prog w 28 ann 1 82 (S31c23 true w os) (th31c23 true w os)) (w.withFollow "special-get-raises" true) = (fun w => some (S31c24 true w os, (th31c24 true w os))) (w.withFollow "special-get-raises" true) := by rw [PySem.W.Fast.te10295753902157049106, PySem.W.Fast.te14364793385576792824]; kernel_rfl
theorem pc31c24 (led : Bool) (w : World) (os : OsState) : segGoT treeTable prog w 28 ann 1 82 (S31c23 led w os) (th31c23 led w os) = some (S31c24 led w os, (th31c24 led w os)) := by
  cases led
  · exact rowed (fun w => segGoT treeTable prog w 28 ann 1 82 (S31c23 false w os) (th31c23 false w os)) (fun w => some (S31c24 false w os, (th31c24 false w os))) (fun w => pc31c24ff w os) (fun w => pc31c24ft w os) w
  · exact rowed (fun w => segGoT treeTable prog w 28 ann 1 82 (S31c23 true w os) (th31c23 true w os)) (fun w => some (S31c24 true w os, (th31c24 true w os))) (fun w => pc31c24tf w os) (fun w => pc31c24tt w os) w
theorem pc31c25 (led : Bool) (w : World) (os : OsState) : segGoT treeTable prog w 28 ann 1 80 (S31c24 led w os) (th31c24 led w os) = some (S31c25 led w os, (th31c25 led w os)) := by
  cases led
  · exact rowed (fun w => segGoT treeTable prog w 28 ann 1 80 (S31c24 false w os) (th31c24 false w os)) (fun w => some (S31c25 false w os, (th31c25 false w os))) (fun w => by rw [PySem.W.Fast.te10295753902157049106, PySem.W.Fast.te14364793385576792824]; kernel_rfl) (fun w => by rw [PySem.W.Fast.te10295753902157049106, PySem.W.Fast.te14364793385576792824]; kernel_rfl) w
  · exact rowed (fun w => segGoT treeTable prog w 28 ann 1 80 (S31c24 true w os) (th31c24 true w os)) (fun w => some (S31c25 true w os, (th31c25 true w os))) (fun w => by rw [PySem.W.Fast.te10295753902157049106, PySem.W.Fast.te14364793385576792824]; kernel_rfl) (fun w => by rw [PySem.W.Fast.te10295753902157049106, PySem.W.Fast.te14364793385576792824]; kernel_rfl) w
theorem pc31c26 (led : Bool) (w : World) (os : OsState) : segGoT treeTable prog w 28 ann 1 80 (S31c25 led w os) (th31c25 led w os) = some (S31c26 led w os, (th31c26 led w os)) := by
  cases led
  · exact rowed (fun w => segGoT treeTable prog w 28 ann 1 80 (S31c25 false w os) (th31c25 false w os)) (fun w => some (S31c26 false w os, (th31c26 false w os))) (fun w => by rw [PySem.W.Fast.te10295753902157049106, PySem.W.Fast.te14364793385576792824]; kernel_rfl) (fun w => by rw [PySem.W.Fast.te10295753902157049106, PySem.W.Fast.te14364793385576792824]; kernel_rfl) w
  · exact rowed (fun w => segGoT treeTable prog w 28 ann 1 80 (S31c25 true w os) (th31c25 true w os)) (fun w => some (S31c26 true w os, (th31c26 true w os))) (fun w => by rw [PySem.W.Fast.te10295753902157049106, PySem.W.Fast.te14364793385576792824]; kernel_rfl) (fun w => by rw [PySem.W.Fast.te10295753902157049106, PySem.W.Fast.te14364793385576792824]; kernel_rfl) w
theorem pc31c27 (led : Bool) (w : World) (os : OsState) : segGoT treeTable prog w 28 ann 1 80 (S31c26 led w os) (th31c26 led w os) = some (S31c27 led w os, (th31c27 led w os)) := by
  cases led
  · exact rowed (fun w => segGoT treeTable prog w 28 ann 1 80 (S31c26 false w os) (th31c26 false w os)) (fun w => some (S31c27 false w os, (th31c27 false w os))) (fun w => by rw [PySem.W.Fast.te10295753902157049106, PySem.W.Fast.te14364793385576792824]; kernel_rfl) (fun w => by rw [PySem.W.Fast.te10295753902157049106, PySem.W.Fast.te14364793385576792824]; kernel_rfl) w
  · exact rowed (fun w => segGoT treeTable prog w 28 ann 1 80 (S31c26 true w os) (th31c26 true w os)) (fun w => some (S31c27 true w os, (th31c27 true w os))) (fun w => by rw [PySem.W.Fast.te10295753902157049106, PySem.W.Fast.te14364793385576792824]; kernel_rfl) (fun w => by rw [PySem.W.Fast.te10295753902157049106, PySem.W.Fast.te14364793385576792824]; kernel_rfl) w
theorem pc31c28 (led : Bool) (w : World) (os : OsState) : segGoT treeTable prog w 28 ann 1 80 (S31c27 led w os) (th31c27 led w os) = some (S31c28 led w os, (th31c28 led w os)) := by
  cases led
  · exact rowed (fun w => segGoT treeTable prog w 28 ann 1 80 (S31c27 false w os) (th31c27 false w os)) (fun w => some (S31c28 false w os, (th31c28 false w os))) (fun w => by rw [PySem.W.Fast.te10295753902157049106, PySem.W.Fast.te14364793385576792824]; kernel_rfl) (fun w => by rw [PySem.W.Fast.te10295753902157049106, PySem.W.Fast.te14364793385576792824]; kernel_rfl) w
  · exact rowed (fun w => segGoT treeTable prog w 28 ann 1 80 (S31c27 true w os) (th31c27 true w os)) (fun w => some (S31c28 true w os, (th31c28 true w os))) (fun w => by rw [PySem.W.Fast.te10295753902157049106, PySem.W.Fast.te14364793385576792824]; kernel_rfl) (fun w => by rw [PySem.W.Fast.te10295753902157049106, PySem.W.Fast.te14364793385576792824]; kernel_rfl) w
theorem pc31end (led : Bool) (w : World) (os : OsState) : segRunT treeTable prog w 28 ann 1 67 (S31c28 led w os) (th31c28 led w os) = some (.next, S32L led w os, cE, ⟨121, 0, 121, 6⟩) := by
  cases led
  · exact rowed (fun w => segRunT treeTable prog w 28 ann 1 67 (S31c28 false w os) (th31c28 false w os)) (fun w => some (.next, S32L false w os, cE, ⟨121, 0, 121, 6⟩)) (fun w => by rw [PySem.W.Fast.te10110043849684766642, PySem.W.Fast.te14364793385576792824]; kernel_rfl) (fun w => by rw [PySem.W.Fast.te10110043849684766642, PySem.W.Fast.te14364793385576792824]; kernel_rfl) w
  · exact rowed (fun w => segRunT treeTable prog w 28 ann 1 67 (S31c28 true w os) (th31c28 true w os)) (fun w => some (.next, S32L true w os, cE, ⟨121, 0, 121, 6⟩)) (fun w => by rw [PySem.W.Fast.te10110043849684766642, PySem.W.Fast.te14364793385576792824]; kernel_rfl) (fun w => by rw [PySem.W.Fast.te10110043849684766642, PySem.W.Fast.te14364793385576792824]; kernel_rfl) w
theorem S32L_eq (w : World) (os : OsState) : S32L (!w.params.followText "set-order") w os = S32 w os := by kernel_rfl
theorem pc31 (w : World) (os : OsState) : segRun treeTable prog w 28 ann 1 3751 (S31 w os).abs (piecesOf [stm 31] env cE ⟨119, 0, 120, 30⟩ [topFrame qE]) = some (.next, (S32 w os).abs, cE, ⟨121, 0, 121, 6⟩) := by
  rw [show 3751 = 87 + (510 + (510 + (510 + (146 + (75 + (82 + (80 + (80 + (82 + (80 + (80 + (80 + (80 + (80 + (80 + (80 + (80 + (80 + (80 + (80 + (80 + (80 + (80 + (82 + (80 + (80 + (80 + (80 + (67))))))))))))))))))))))))))))) from rfl, ← S32L_eq]
  exact (seg_go (segGo_of (pc31c0 w os)) (seg_go (segGo_of (pc31c1 w os)) (seg_go (segGo_of (pc31c2 w os)) (seg_go (segGo_of (pc31c3 w os)) (seg_go (segGo_of (pc31c4 w os)) (seg_go (segGo_of (pc31c5 (!w.params.followText "set-order") w os)) (seg_go (segGo_of (pc31c6 (!w.params.followText "set-order") w os)) (seg_go (segGo_of (pc31c7 (!w.params.followText "set-order") w os)) (seg_go (segGo_of (pc31c8 (!w.params.followText "set-order") w os)) (seg_go (segGo_of (pc31c9 (!w.params.followText "set-order") w os)) (seg_go (segGo_of (pc31c10 (!w.params.followText "set-order") w os)) (seg_go (segGo_of (pc31c11 (!w.params.followText "set-order") w os)) (seg_go (segGo_of (pc31c12 (!w.params.followText "set-order") w os)) (seg_go (segGo_of (pc31c13 (!w.params.followText "set-order") w os)) (seg_go (segGo_of (pc31c14 (!w.params.followText "set-order") w os)) (seg_go (segGo_of (pc31c15 (!w.params.followText "set-order") w os)) (seg_go (segGo_of (pc31c16 (!w.params.followText "set-order") w os)) (seg_go (segGo_of (pc31c17 (!w.params.followText "set-order") w os)) (seg_go (segGo_of (pc31c18 (!w.params.followText "set-order") w os)) (seg_go (segGo_of (pc31c19 (!w.params.followText "set-order") w os)) (seg_go (segGo_of (pc31c20 (!w.params.followText "set-order") w os)) (seg_go (segGo_of (pc31c21 (!w.params.followText "set-order") w os)) (seg_go (segGo_of (pc31c22 (!w.params.followText "set-order") w os)) (seg_go (segGo_of (pc31c23 (!w.params.followText "set-order") w os)) (seg_go (segGo_of (pc31c24 (!w.params.followText "set-order") w os)) (seg_go (segGo_of (pc31c25 (!w.params.followText "set-order") w os)) (seg_go (segGo_of (pc31c26 (!w.params.followText "set-order") w os)) (seg_go (segGo_of (pc31c27 (!w.params.followText "set-order") w os)) (seg_go (segGo_of (pc31c28 (!w.params.followText "set-order") w os)) (segRun_of (pc31end (!w.params.followText "set-order") w os)))))))))))))))))))))))))))))))
theorem pc32 (w : World) (os : OsState) : segRunT treeTable prog w 28 ann 1 321 (S32 w os) (piecesOf [stm 32, stm 33, stm 34, stm 35, stm 36, stm 37, stm 38, stm 39, stm 40, stm 41, stm 42, stm 43] env cE ⟨121, 0, 121, 6⟩ [topFrame qE]) = some (.next, S44 w os, cE, ⟨172, 0, 187, 101⟩) := by rw [PySem.W.Fast.te10110043849684766642, PySem.W.Fast.te14364793385576792824]; kernel_rfl
end Mine
end
section
open PySem PySem.W PyProof.Rows
namespace Mine
theorem run21 (w : World) (os : OsState) (rest : List Stmt) (N : Nat) (r : Shared) (h : topRun treeTable prog w 28 ann N (S22 w os).abs (restOf rest env cE ⟨97, 0, 97, 13⟩ [topFrame qE]) = some r) :
    topRun treeTable prog w 28 ann (12565 + N) (S21 w os).abs (restOf (stm 21 :: rest) env cE ⟨95, 0, 96, 30⟩ [topFrame qE]) = some r := by
  rw [show 12565 + N = 3 + (224 + (224 + (5 + 6 * 17 + (224 + (5 + 6 * 17 + (224 + (5 + 6 * 17 + (224 + (5 + 6 * 17 + (224 + (5 + 6 * 17 + (224 + (5 + 6 * 17 + (224 + (5 + 6 * 17 + (224 + (5 + 6 * 17 + (224 + (5 + 6 * 17 + (224 + (5 + 6 * 17 + (224 + (5 + 6 * 17 + (224 + (5 + 6 * 17 + (224 + (5 + 6 * 17 + (224 + (5 + 6 * 17 + (224 + (5 + 6 * 17 + (224 + (5 + 6 * 17 + (224 + (5 + 6 * 17 + (224 + (5 + 6 * 17 + (224 + (5 + 6 * 17 + (224 + (5 + 6 * 17 + (224 + (5 + 6 * 17 + (224 + (5 + 6 * 17 + (224 + (5 + 6 * 17 + (224 + (5 + 6 * 17 + (224 + (5 + 6 * 17 + (224 + (5 + 6 * 17 + (224 + (5 + 6 * 17 + (224 + (5 + 6 * 17 + (224 + (5 + 6 * 17 + (224 + (5 + 6 * 17 + (224 + (5 + 6 * 17 + (224 + (5 + 6 * 17 + (224 + (5 + 6 * 17 + (224 + (5 + 6 * 17 + (224 + (5 + 6 * 17 + (224 + (5 + 6 * 17 + (224 + (5 + 6 * 17 + (54 + (5 + 6 * 4 + (8 + (N))))))))))))))))))))))))))))))))))))))))))))))))))))))))))))))))))))))))))))))) by omega]
  unfold restOf
  rw [execs_cons_wrap, e21]
  refine top_seg (a₀ := ()) (fun _ => .next) (pc21pre w os) (fun _ _ => rfl) ?_
  rw [d21, sem_assoc]
  refine top_seg (fun a => .ret (.ref a)) (segRun_of (pc21a0 w os)) (fun a e => by injection e with e; injection e) ?_
  rw [sem_assoc]
  refine top_chunk (segRun_of (pc21a1 w os)) (pc21b1 w os) ?_
  refine top_chunk (segRun_of (pc21a2 w os)) (pc21b2 w os) ?_
  refine top_chunk (segRun_of (pc21a3 w os)) (pc21b3 w os) ?_
  refine top_chunk (segRun_of (pc21a4 w os)) (pc21b4 w os) ?_
  refine top_chunk (segRun_of (pc21a5 w os)) (pc21b5 w os) ?_
  refine top_chunk (segRun_of (pc21a6 w os)) (pc21b6 w os) ?_
  refine top_chunk (segRun_of (pc21a7 w os)) (pc21b7 w os) ?_
  refine top_chunk (segRun_of (pc21a8 w os)) (pc21b8 w os) ?_
  refine top_chunk (segRun_of (pc21a9 w os)) (pc21b9 w os) ?_
  refine top_chunk (segRun_of (pc21a10 w os)) (pc21b10 w os) ?_
  refine top_chunk (segRun_of (pc21a11 w os)) (pc21b11 w os) ?_
  refine top_chunk (segRun_of (pc21a12 w os)) (pc21b12 w os) ?_
  refine top_chunk (segRun_of (pc21a13 w os)) (pc21b13 w os) ?_
  refine top_chunk (segRun_of (pc21a14 w os)) (pc21b14 w os) ?_
  refine top_chunk (segRun_of (pc21a15 w os)) (pc21b15 w os) ?_
  refine top_chunk (segRun_of (pc21a16 w os)) (pc21b16 w os) ?_
  refine top_chunk (segRun_of (pc21a17 w os)) (pc21b17 w os) ?_
  refine top_chunk (segRun_of (pc21a18 w os)) (pc21b18 w os) ?_
  refine top_chunk (segRun_of (pc21a19 w os)) (pc21b19 w os) ?_
  refine top_chunk (segRun_of (pc21a20 w os)) (pc21b20 w os) ?_
  refine top_chunk (segRun_of (pc21a21 w os)) (pc21b21 w os) ?_
  refine top_chunk (segRun_of (pc21a22 w os)) (pc21b22 w os) ?_
  refine top_chunk (segRun_of (pc21a23 w os)) (pc21b23 w os) ?_
  refine top_chunk (segRun_of (pc21a24 w os)) (pc21b24 w os) ?_
  refine top_chunk (segRun_of (pc21a25 w os)) (pc21b25 w os) ?_
  refine top_chunk (segRun_of (pc21a26 w os)) (pc21b26 w os) ?_
  refine top_chunk (segRun_of (pc21a27 w os)) (pc21b27 w os) ?_
  refine top_chunk (segRun_of (pc21a28 w os)) (pc21b28 w os) ?_
  refine top_chunk (segRun_of (pc21a29 w os)) (pc21b29 w os) ?_
  refine top_chunk (segRun_of (pc21a30 w os)) (pc21b30 w os) ?_
  refine top_chunk (segRun_of (pc21a31 w os)) (pc21b31 w os) ?_
  refine top_chunk (segRun_of (pc21a32 w os)) (pc21b32 w os) ?_
  refine top_chunk (segRun_of (pc21a33 w os)) (pc21b33 w os) ?_
  refine top_chunk (segRun_of (pc21a34 w os)) (pc21b34 w os) ?_
  refine top_chunk (segRun_of (pc21a35 w os)) (pc21b35 w os) ?_
  refine top_chunk (segRun_of (pc21a36 w os)) (pc21b36 w os) ?_
  refine top_chunk (segRun_of (pc21a37 w os)) (pc21b37 w os) ?_
  refine top_chunk (segRun_of (pc21a38 w os)) (pc21b38 w os) ?_
  show topRun _ _ _ _ _ _ _ ⟨(post21 (.ref 135)).wrap _ _ id id, _, _, _⟩ = _
  rw [← sem_bind_pure (post21 _)]
  exact top_seg (a₀ := .next) id (segRun_of (pc21post w os)) (fun _ e => e) h
end Mine
end
section
open PySem PySem.W PyProof.Rows
namespace Mine
theorem pcImp (w : World) : importEnds treeTable (opening prog) w 799 (start (opening prog)).1 (start (opening prog)).2 = some ⟨He w.params, ⟨[]⟩, ⟨0, 0, 0, 0⟩, 276, (start (opening prog)).1.os⟩ := by
  rw [PySem.W.Fast.te10274390034422433532, PySem.W.Fast.te14364793385576792824, PySem.W.Fast.te1435165496053646825]; kernel_rfl
theorem pcFence (w : World) : (fun os => (fenceModules? prog ⟨He w.params, ⟨[]⟩, ⟨0, 0, 0, 0⟩, 276, os⟩).map (fun s => (s.heap, s.gens, s.drawn, s.toks))) = fun _ => some (H0 w.params, ⟨[]⟩, ⟨0, 0, 0, 0⟩, 276) := by
  rw [PySem.W.Fast.te14289696077712309145]; kernel_rfl
theorem pcOpen (w : World) : (fencedOpening treeTable prog w 39670).map (fun s => (s.heap, s.gens, s.drawn, s.toks)) = some (H0 w.params, ⟨[]⟩, ⟨0, 0, 0, 0⟩, 276) :=
  open_cut (M := 799) pcImp (by decide) pcFence w
theorem pcSize (w : World) : ((H0 w.params).isNs mainGlobals && (⟨[]⟩ : Array GenState).size == 0, (H0 w.params).objs.size, (H0 w.params).nsMap mainGlobals "__annotations__") = (true, 28, ann) := by kernel_rfl
end Mine
end
section
open PySem PySem.W PyProof.Rows
namespace Mine
theorem topEq : top = [stm 0, stm 1, stm 2, stm 3, stm 4, stm 5] ++ ([stm 6, stm 7, stm 8, stm 9, stm 10, stm 11] ++ ([stm 12, stm 13, stm 14, stm 15, stm 16, stm 17, stm 18] ++ ([stm 19] ++ ([stm 20] ++ ([stm 21] ++ ([stm 22, stm 23, stm 24] ++ ([stm 25] ++ ([stm 26] ++ ([stm 27] ++ ([stm 28] ++ ([stm 29] ++ ([stm 30] ++ ([stm 31] ++ ([stm 32, stm 33, stm 34, stm 35, stm 36, stm 37, stm 38, stm 39, stm 40, stm 41, stm 42, stm 43] ++ [])))))))))))))) := by kernel_rfl
theorem runAll (w : World) (os : OsState) : topRun treeTable prog w 28 ann 19835 ⟨H0 w.params, ⟨[]⟩, ⟨0, 0, 0, 0⟩, 276, os⟩ (topStub prog) = some ⟨H1 w.params, ⟨[]⟩, ⟨0, 0, 0, 0⟩, 2844, os⟩ := by
  rw [show 19835 = 12 + (1 + (166 + (319 + (153 + (999 + (30 + (12565 + (90 + (200 + (30 + (361 + (30 + (775 + (30 + (3751 + (321 + (2))))))))))))))))) from rfl]
  refine go_top (pcPre w os) ?_
  refine piece_block (b := top) (pcBlock w os) ?_
  rw [show restOf top env cE ⟨0, 0, 0, 0⟩ [topFrame qE] = restOf ([stm 0, stm 1, stm 2, stm 3, stm 4, stm 5] ++ ([stm 6, stm 7, stm 8, stm 9, stm 10, stm 11] ++ ([stm 12, stm 13, stm 14, stm 15, stm 16, stm 17, stm 18] ++ ([stm 19] ++ ([stm 20] ++ ([stm 21] ++ ([stm 22, stm 23, stm 24] ++ ([stm 25] ++ ([stm 26] ++ ([stm 27] ++ ([stm 28] ++ ([stm 29] ++ ([stm 30] ++ ([stm 31] ++ ([stm 32, stm 33, stm 34, stm 35, stm 36, stm 37, stm 38, stm 39, stm 40, stm 41, stm 42, stm 43] ++ []))))))))))))))) env cE ⟨0, 0, 0, 0⟩ [topFrame qE] from congrArg (fun l => restOf l env cE ⟨0, 0, 0, 0⟩ [topFrame qE]) topEq]
  refine piece_app (l := [stm 0, stm 1, stm 2, stm 3, stm 4, stm 5]) (segRun_of (pc0 w os)) ?_
  refine piece_app (l := [stm 6, stm 7, stm 8, stm 9, stm 10, stm 11]) (segRun_of (pc6 w os)) ?_
  refine piece_app (l := [stm 12, stm 13, stm 14, stm 15, stm 16, stm 17, stm 18]) (segRun_of (pc12 w os)) ?_
  refine piece_app (l := [stm 19]) (pc19 w os) ?_
  refine piece_app (l := [stm 20]) (segRun_of (pc20 w os)) ?_
  refine run21 w os _ _ _ ?_
  refine piece_app (l := [stm 22, stm 23, stm 24]) (segRun_of (pc22 w os)) ?_
  refine piece_app (l := [stm 25]) (pc25 w os) ?_
  refine piece_app (l := [stm 26]) (segRun_of (pc26 w os)) ?_
  refine piece_app (l := [stm 27]) (pc27 w os) ?_
  refine piece_app (l := [stm 28]) (segRun_of (pc28 w os)) ?_
  refine piece_app (l := [stm 29]) (pc29 w os) ?_
  refine piece_app (l := [stm 30]) (segRun_of (pc30 w os)) ?_
  refine piece_app (l := [stm 31]) (pc31 w os) ?_
  refine piece_app (l := [stm 32, stm 33, stm 34, stm 35, stm 36, stm 37, stm 38, stm 39, stm 40, stm 41, stm 42, stm 43]) (segRun_of (pc32 w os)) ?_
  exact piece_nil (pcFin w os)
end Mine
end
section
open PySem PySem.W PyProof.Rows
namespace Mine
noncomputable def qv : Program := { prog with main := { prog.main with body := [prog.main.body.headD default, stm 43] } }
def loose : List Str := (["_wall", "_twin_re_1", "bytes_types", "_bytes_from_decode_data", "Error", "_ascii_buffer", "_buffer", "_NO_SEP", "b2a_hex", "hexlify", "_hex_value", "a2b_hex", "unhexlify", "b16encode", "b16decode", "b1_set", "in_table_b1", "b3_exceptions", "map_table_b3", "in_table_c11", "in_table_c4", "c6_set", "in_table_c6", "c7_set", "in_table_c7", "c8_set", "in_table_c8", "c9_set", "in_table_c9", "_law_ends", "_law_code", "_law_lies", "_law_held", "_law_shielded", "_law_figures", "_law_fold", "_law_prepared", "_law_back"] : List String).map Str.ofString
def Xt : Shared → Bool := fun _ => true
def Yf : Shared → Heap := fun s => s.heap
noncomputable def Ya : World → Heap := fun w => H1 w.params
theorem looks1 (w : World) (os : OsState) : (staticsOk (importedModules prog.main.body) (H0 w.params) (H1 w.params) && namesBound prog (H1 w.params) && gensDone ⟨H1 w.params, ⟨[]⟩, ⟨0, 0, 0, 0⟩, 2844, os⟩ && laidKept (H0 w.params) (H1 w.params)) = true := by kernel_rfl
theorem looks2 (w : World) (os : OsState) : openSeen qv loose (importedModules prog.main.body) Xt true ⟨H1 w.params, ⟨[]⟩, ⟨0, 0, 0, 0⟩, 2844, os⟩ = openGood qv loose := by
  rw [PySem.W.Fast.te4187177175401517315]; kernel_rfl
end Mine
end
section
open PySem PySem.W PyProof.Rows
namespace Mine
theorem left : LeftO prog qv loose Xt Yf Ya 39670 :=
  LeftO.of_pieces (H₀ := H0) (H₁ := H1) (gs₀ := ⟨[]⟩) (gs₁ := ⟨[]⟩) (d₀ := ⟨0, 0, 0, 0⟩) (d₁ := ⟨0, 0, 0, 0⟩) (k₀ := 276) (k₁ := 2844) (m₀ := 28) (ann := ann) (M := 19835) pcOpen pcSize runAll (by decide)
    (fun w => funext fun os => by rw [looks1 w os, looks2 w os]; rfl)
end Mine
end
section
open PySem PySem.W PyProof.Rows
namespace Mine
theorem at0 (P : Params) : (H1 P).get? 0 = some (o0 P) := by kernel_rfl
theorem at2 (P : Params) : (H1 P).get? 2 = some (o2 P) := by kernel_rfl
theorem at3 (P : Params) : (H1 P).get? 3 = some (o320 P) := by kernel_rfl
theorem at4 (P : Params) : (H1 P).get? 4 = some (o4 P) := by kernel_rfl
theorem at37 (P : Params) : (H1 P).get? 37 = some (o33 P) := by kernel_rfl
theorem at38 (P : Params) : (H1 P).get? 38 = some (o34 P) := by kernel_rfl
theorem at42 (P : Params) : (H1 P).get? 42 = some (o37 P) := by kernel_rfl
theorem at43 (P : Params) : (H1 P).get? 43 = some (o38 P) := by kernel_rfl
theorem at44 (P : Params) : (H1 P).get? 44 = some (o39 P) := by kernel_rfl
theorem at50 (P : Params) : (H1 P).get? 50 = some (o42 P) := by kernel_rfl
theorem at51 (P : Params) : (H1 P).get? 51 = some (o43 P) := by kernel_rfl
theorem at61 (P : Params) : (H1 P).get? 61 = some (o52 P) := by kernel_rfl
theorem at70 (P : Params) : (H1 P).get? 70 = some (o58 P) := by kernel_rfl
theorem at71 (P : Params) : (H1 P).get? 71 = some (o59 P) := by kernel_rfl
theorem at77 (P : Params) : (H1 P).get? 77 = some (o62 P) := by kernel_rfl
theorem at78 (P : Params) : (H1 P).get? 78 = some (o63 P) := by kernel_rfl
theorem at79 (P : Params) : (H1 P).get? 79 = some (o64 P) := by kernel_rfl
theorem at80 (P : Params) : (H1 P).get? 80 = some (o65 P) := by kernel_rfl
theorem at86 (P : Params) : (H1 P).get? 86 = some (o68 P) := by kernel_rfl
theorem at87 (P : Params) : (H1 P).get? 87 = some (o69 P) := by kernel_rfl
theorem at93 (P : Params) : (H1 P).get? 93 = some (o74 P) := by kernel_rfl
theorem at94 (P : Params) : (H1 P).get? 94 = some (o75 P) := by kernel_rfl
theorem at100 (P : Params) : (H1 P).get? 100 = some (o78 P) := by kernel_rfl
theorem at101 (P : Params) : (H1 P).get? 101 = some (o79 P) := by kernel_rfl
theorem at107 (P : Params) : (H1 P).get? 107 = some (o82 P) := by kernel_rfl
theorem at108 (P : Params) : (H1 P).get? 108 = some (o83 P) := by kernel_rfl
theorem at109 (P : Params) : (H1 P).get? 109 = some (o84 P) := by kernel_rfl
theorem at115 (P : Params) : (H1 P).get? 115 = some (o87 P) := by kernel_rfl
theorem at116 (P : Params) : (H1 P).get? 116 = some (o88 P) := by kernel_rfl
theorem at124 (P : Params) : (H1 P).get? 124 = some (o104 P) := by kernel_rfl
theorem at133 (P : Params) : (H1 P).get? 133 = some (o109 P) := by kernel_rfl
theorem at134 (P : Params) : (H1 P).get? 134 = some (o110 P) := by kernel_rfl
theorem at135 (P : Params) : (H1 P).get? 135 = some (o187 P) := by kernel_rfl
theorem at179 (P : Params) : (H1 P).get? 179 = some (o193 P) := by kernel_rfl
theorem at180 (P : Params) : (H1 P).get? 180 = some (o194 P) := by kernel_rfl
theorem at186 (P : Params) : (H1 P).get? 186 = some (o197 P) := by kernel_rfl
theorem at187 (P : Params) : (H1 P).get? 187 = some (o198 P) := by kernel_rfl
theorem at193 (P : Params) : (H1 P).get? 193 = some (o201 P) := by kernel_rfl
theorem at194 (P : Params) : (H1 P).get? 194 = some (o202 P) := by kernel_rfl
theorem at196 (P : Params) : (H1 P).get? 196 = some (o208 P) := by kernel_rfl
theorem at205 (P : Params) : (H1 P).get? 205 = some (o213 P) := by kernel_rfl
theorem at206 (P : Params) : (H1 P).get? 206 = some (o214 P) := by kernel_rfl
theorem at208 (P : Params) : (H1 P).get? 208 = some (o222 P) := by kernel_rfl
theorem at217 (P : Params) : (H1 P).get? 217 = some (o227 P) := by kernel_rfl
theorem at218 (P : Params) : (H1 P).get? 218 = some (o228 P) := by kernel_rfl
theorem at232 (P : Params) : (H1 P).get? 232 = some (o246 P) := by kernel_rfl
theorem at241 (P : Params) : (H1 P).get? 241 = some (o251 P) := by kernel_rfl
theorem at242 (P : Params) : (H1 P).get? 242 = some (o252 P) := by kernel_rfl
theorem at250 (P : Params) : (H1 P).get? 250 = some (o319 P) := by kernel_rfl
theorem at259 (P : Params) : (H1 P).get? 259 = some (o324 P) := by kernel_rfl
theorem at260 (P : Params) : (H1 P).get? 260 = some (o325 P) := by kernel_rfl
theorem at266 (P : Params) : (H1 P).get? 266 = some (o327 P) := by kernel_rfl
theorem at267 (P : Params) : (H1 P).get? 267 = some (o328 P) := by kernel_rfl
theorem at273 (P : Params) : (H1 P).get? 273 = some (o331 P) := by kernel_rfl
theorem at274 (P : Params) : (H1 P).get? 274 = some (o332 P) := by kernel_rfl
theorem at278 (P : Params) : (H1 P).get? 278 = some (o334 P) := by kernel_rfl
theorem at279 (P : Params) : (H1 P).get? 279 = some (o335 P) := by kernel_rfl
theorem at285 (P : Params) : (H1 P).get? 285 = some (o338 P) := by kernel_rfl
theorem at286 (P : Params) : (H1 P).get? 286 = some (o339 P) := by kernel_rfl
theorem at290 (P : Params) : (H1 P).get? 290 = some (o341 P) := by kernel_rfl
theorem at291 (P : Params) : (H1 P).get? 291 = some (o342 P) := by kernel_rfl
theorem at295 (P : Params) : (H1 P).get? 295 = some (o344 P) := by kernel_rfl
theorem at296 (P : Params) : (H1 P).get? 296 = some (o345 P) := by kernel_rfl
theorem at302 (P : Params) : (H1 P).get? 302 = some (o348 P) := by kernel_rfl
theorem at303 (P : Params) : (H1 P).get? 303 = some (o349 P) := by kernel_rfl
theorem at307 (P : Params) : (H1 P).get? 307 = some (o351 P) := by kernel_rfl
theorem at308 (P : Params) : (H1 P).get? 308 = some (o352 P) := by kernel_rfl
theorem at314 (P : Params) : (H1 P).get? 314 = some (o355 P) := by kernel_rfl
theorem at315 (P : Params) : (H1 P).get? 315 = some (o356 P) := by kernel_rfl
theorem at319 (P : Params) : (H1 P).get? 319 = some (o358 P) := by kernel_rfl
theorem at320 (P : Params) : (H1 P).get? 320 = some (o359 P) := by kernel_rfl
end Mine
end
section
open PySem PySem.W PyProof.Rows
namespace Mine
/-- the top's heap stands in h -/
def Md (w : World) (h : Heap) : Prop := ∀ b o, (H1 w.params).get? b = some o → h.get? b = some o
def Ext (h h' : Heap) : Prop := ∀ b o, h.get? b = some o → h'.get? b = some o
theorem Ext.refl (h : Heap) : Ext h h := fun _ _ e => e
theorem Ext.trans {a b c : Heap} (x : Ext a b) (y : Ext b c) : Ext a c := fun _ _ e => y _ _ (x _ _ e)
theorem Md.ext {w : World} {h h' : Heap} (m : Md w h) (x : Ext h h') : Md w h' := fun _ _ e => x _ _ (m _ _ e)
theorem Md.nolimit {w : World} {h : Heap} (m : Md w h) : h.NoLimit :=
  ⟨_, (Heap.Ns.of_isNs (h := H1 w.params) (a := cStatics) (by kernel_rfl)).keeps m, by kernel_rfl⟩
theorem Md.codeRec {w : World} {h : Heap} (m : Md w h) {c : Addr} {o : Obj} {vs : Array Value} {q : Str} {t : Tok} (e : (H1 w.params).get? c = some o) (e1 : o.data = .fields vs) (e2 : vs[1]? = some (.str q t)) : h.CodeRec (.ref c) q :=
  ⟨c, o, vs, t, rfl, m _ _ e, e1, e2⟩
def hexv (c : Int) : Int := if 48 ≤ c ∧ c ≤ 57 then c - 48 else if 65 ≤ c ∧ c ≤ 70 then c - 55 else if 97 ≤ c ∧ c ≤ 102 then c - 87 else 16
def Ret (s : Shared) (R : Result → Shared → Prop) (V : Value → Prop) : Prop := ∀ v h' tk, V v → Ext s.heap h' → R (.ok (.ret v)) { s with heap := h', toks := tk }
theorem ret_int {s : Shared} {R : Result → Shared → Prop} {x y : Int} {h' : Heap} {t : Tok} {tk : Nat} (hR : Ret s R (fun v => ∃ t', v = .int x t')) (e : y = x) (k : Ext s.heap h') : R (.ok (.ret (.int y t))) { s with heap := h', toks := tk } :=
  hR _ _ _ ⟨t, by rw [e]⟩ k
theorem ret_bool {s : Shared} {R : Result → Shared → Prop} {x y : Bool} {h' : Heap} {tk : Nat} (hR : Ret s R (fun v => v = .bool x)) (e : y = x) (k : Ext s.heap h') : R (.ok (.ret (.bool y))) { s with heap := h', toks := tk } :=
  hR _ _ _ (by rw [e]) k
theorem ret_str {s : Shared} {R : Result → Shared → Prop} {x y : Str} {h' : Heap} {t : Tok} {tk : Nat} (hR : Ret s R (fun v => ∃ t', v = .str x t')) (e : y = x) (k : Ext s.heap h') : R (.ok (.ret (.str y t))) { s with heap := h', toks := tk } :=
  hR _ _ _ ⟨t, by rw [e]⟩ k
theorem hex_value {w : World} {A : Around} {R : Result → Shared → Prop} {s : Shared} (m : Md w s.heap) (hd : A.depth < recursionLimit) (c : Int) (t : Tok)
    (hR : Ret s R (fun v => ∃ t', v = .int (hexv c) t')) : codeAny (model prog w) A (.call (.ref 94) ⟨[.int c t], []⟩) R s := by
  refine call_plain (binds := [("c", .int c t)]) hd (m _ _ (at94 _)) (by rfl) m.nolimit (m.codeRec (at93 _) (by rfl) (by rfl)) (by rfl) (locs (by rfl)) ?_
  intro h₁ F
  have N : News s.heap s.heap.objs.size h₁ [] := News.nil
  repeat' (first | walk1 | (dsimp only; walk1))
  all_goals (dsimp only; refine ret_int hR ?_ F.keep)
  all_goals (unfold hexv; (repeat' split) <;> omega)
end Mine
end
section
open PySem PySem.W PyProof.Rows
namespace Mine
@[irreducible] noncomputable def mgl (w : World) : Str → Option Value := (H1 w.params).nsMap mainGlobals
@[irreducible] noncomputable def mbl (w : World) : Str → Option Value := (H1 w.params).nsMap builtinsNs
theorem Md.g {w : World} {h : Heap} (m : Md w h) : h.Ns mainGlobals (mgl w) := by
  have := (Heap.Ns.of_isNs (h := H1 w.params) (a := mainGlobals) (by kernel_rfl)).keeps m
  unfold mgl; exact this
theorem Md.b {w : World} {h : Heap} (m : Md w h) : h.Ns builtinsNs (mbl w) := by
  have := (Heap.Ns.of_isNs (h := H1 w.params) (a := builtinsNs) (by kernel_rfl)).keeps m
  unfold mbl; exact this
/-- a set of ints, written out -/
def okElem (e : Int × Value) : Bool := match e.2 with
  | .int v _ => e.1 == hashInt v
  | _ => false
def setEs (o : Obj) : List (Int × Value) := match o.data with
  | .set es _ _ => es.toList
  | _ => []
def setOk (o : Obj) : Bool := o.cls == .type "set" && o.dict == none && o.slots.size == 0 && match o.data with
  | .set es _ t => es.toList.all okElem && Nat.blt es.toList.length 4096 && t.fits es.toList.length
  | _ => false
theorem setOf_lit {w : World} {h : Heap} {a : Addr} {o : Obj} (ho : h.get? a = some o) (hk : setOk o = true) : h.SetOf (intKind prog w) a (fun k => (setEs o).any fun e => Value.isInt k e.2) (setEs o).length := by
  obtain ⟨c, d, dt, sl⟩ := o
  unfold setOk at hk
  simp only [Bool.and_eq_true, beq_iff_eq] at hk
  obtain ⟨⟨⟨h1, h2⟩, h3⟩, h4⟩ := hk
  cases dt with
  | set es ep t =>
    simp only [Bool.and_eq_true] at h4
    obtain ⟨⟨h4, h5⟩, h6⟩ := h4
    refine ⟨_, es, ep, t, ho, ⟨h1, h2, Array.eq_empty_of_size_eq_zero h3⟩, rfl, fun e he => ?_, fun k => ?_, ?_, h6, rfl⟩
    · have := List.all_eq_true.mp h4 e he
      obtain ⟨x, v⟩ := e
      cases v <;> simp only [okElem, Bool.false_eq_true] at this
      rename_i i tk
      exact ⟨⟨i, by simp [intKind, Value.isInt], show x = hashInt i by simpa using this⟩, rfl⟩
    · show ((setEs _).any _ = true) ↔ _
      rw [List.any_eq_true]
      exact Iff.rfl
    · exact Nat.le_of_ble_eq_true h5
  | _ => cases h4
theorem n_ord (w : World) : mgl w "ord" = none := by kernel_rfl
theorem b_ord (w : World) : mbl w "ord" = some (.builtin "ord") := by kernel_rfl
theorem g_b1 (w : World) : mgl w "b1_set" = some (.ref 124) := by kernel_rfl
@[irreducible] noncomputable def b1S (P : Params) (k : Int) : Bool := (setEs (o104 P)).any fun e => Value.isInt k e.2
theorem set_b1 {w : World} {h : Heap} (m : Md w h) : h.SetOf (intKind prog w) 124 (b1S w.params) (setEs (o104 w.params)).length := by
  have := setOf_lit (w := w) (m _ _ (at124 _)) (by kernel_rfl)
  unfold b1S; exact this
theorem g_c6 (w : World) : mgl w "c6_set" = some (.ref 196) := by kernel_rfl
@[irreducible] noncomputable def c6S (P : Params) (k : Int) : Bool := (setEs (o208 P)).any fun e => Value.isInt k e.2
theorem set_c6 {w : World} {h : Heap} (m : Md w h) : h.SetOf (intKind prog w) 196 (c6S w.params) (setEs (o208 w.params)).length := by
  have := setOf_lit (w := w) (m _ _ (at196 _)) (by kernel_rfl)
  unfold c6S; exact this
theorem g_c7 (w : World) : mgl w "c7_set" = some (.ref 208) := by kernel_rfl
@[irreducible] noncomputable def c7S (P : Params) (k : Int) : Bool := (setEs (o222 P)).any fun e => Value.isInt k e.2
theorem set_c7 {w : World} {h : Heap} (m : Md w h) : h.SetOf (intKind prog w) 208 (c7S w.params) (setEs (o222 w.params)).length := by
  have := setOf_lit (w := w) (m _ _ (at208 _)) (by kernel_rfl)
  unfold c7S; exact this
theorem g_c8 (w : World) : mgl w "c8_set" = some (.ref 232) := by kernel_rfl
@[irreducible] noncomputable def c8S (P : Params) (k : Int) : Bool := (setEs (o246 P)).any fun e => Value.isInt k e.2
theorem set_c8 {w : World} {h : Heap} (m : Md w h) : h.SetOf (intKind prog w) 232 (c8S w.params) (setEs (o246 w.params)).length := by
  have := setOf_lit (w := w) (m _ _ (at232 _)) (by kernel_rfl)
  unfold c8S; exact this
theorem g_c9 (w : World) : mgl w "c9_set" = some (.ref 250) := by kernel_rfl
@[irreducible] noncomputable def c9S (P : Params) (k : Int) : Bool := (setEs (o319 P)).any fun e => Value.isInt k e.2
theorem set_c9 {w : World} {h : Heap} (m : Md w h) : h.SetOf (intKind prog w) 250 (c9S w.params) (setEs (o319 w.params)).length := by
  have := setOf_lit (w := w) (m _ _ (at250 _)) (by kernel_rfl)
  unfold c9S; exact this
local macro_rules | `(tactic| walk_at "eval Name") => `(tactic| ((with_reducible show wpAny _ _ (eval (Expr.Name _ _) (envOf _ _ _ _ _)) _ _ _); first
  | (refine ld_global_at (by assumption) (Md.g (by assumption)) (by with_reducible first | exact g_b1 _ | exact g_c6 _ | exact g_c7 _ | exact g_c8 _ | exact g_c9 _) ?_)
  | (refine ld_builtin_at (by assumption) (Md.g (by assumption)) (by with_reducible first | exact n_ord _) (Md.b (by assumption)) (by with_reducible first | exact b_ord _) ?_)))
theorem in_table_b1 {w : World} {A : Around} {R : Result → Shared → Prop} {s : Shared} (m : Md w s.heap) (hd : A.depth < recursionLimit) (n : Nat) (t : Tok)
    (hR : Ret s R (fun v => v = .bool (b1S w.params n))) : codeAny (model prog w) A (.call (.ref 134) ⟨[.str ⟨#[n]⟩ t], []⟩) R s := by
  refine call_plain (binds := [("code", .str ⟨#[n]⟩ t)]) hd (m _ _ (at134 _)) (by rfl) m.nolimit (m.codeRec (at133 _) (by rfl) (by rfl)) (by rfl) (locs (by rfl)) ?_
  intro h₁ F
  have N : News s.heap s.heap.objs.size h₁ [] := News.nil
  repeat' (first | walk1 | (dsimp only; walk1))
  refine wpAny_inSet_of (knd := intKind prog w) (k := (n : Int)) (intKind_is _ _ _ _) rfl (set_b1 (m.ext F.keep)) ?_
  dsimp only
  exact ret_bool hR rfl F.keep
theorem in_table_c6 {w : World} {A : Around} {R : Result → Shared → Prop} {s : Shared} (m : Md w s.heap) (hd : A.depth < recursionLimit) (n : Nat) (t : Tok)
    (hR : Ret s R (fun v => v = .bool (c6S w.params n))) : codeAny (model prog w) A (.call (.ref 206) ⟨[.str ⟨#[n]⟩ t], []⟩) R s := by
  refine call_plain (binds := [("code", .str ⟨#[n]⟩ t)]) hd (m _ _ (at206 _)) (by rfl) m.nolimit (m.codeRec (at205 _) (by rfl) (by rfl)) (by rfl) (locs (by rfl)) ?_
  intro h₁ F
  have N : News s.heap s.heap.objs.size h₁ [] := News.nil
  repeat' (first | walk1 | (dsimp only; walk1))
  refine wpAny_inSet_of (knd := intKind prog w) (k := (n : Int)) (intKind_is _ _ _ _) rfl (set_c6 (m.ext F.keep)) ?_
  dsimp only
  exact ret_bool hR rfl F.keep
theorem in_table_c7 {w : World} {A : Around} {R : Result → Shared → Prop} {s : Shared} (m : Md w s.heap) (hd : A.depth < recursionLimit) (n : Nat) (t : Tok)
    (hR : Ret s R (fun v => v = .bool (c7S w.params n))) : codeAny (model prog w) A (.call (.ref 218) ⟨[.str ⟨#[n]⟩ t], []⟩) R s := by
  refine call_plain (binds := [("code", .str ⟨#[n]⟩ t)]) hd (m _ _ (at218 _)) (by rfl) m.nolimit (m.codeRec (at217 _) (by rfl) (by rfl)) (by rfl) (locs (by rfl)) ?_
  intro h₁ F
  have N : News s.heap s.heap.objs.size h₁ [] := News.nil
  repeat' (first | walk1 | (dsimp only; walk1))
  refine wpAny_inSet_of (knd := intKind prog w) (k := (n : Int)) (intKind_is _ _ _ _) rfl (set_c7 (m.ext F.keep)) ?_
  dsimp only
  exact ret_bool hR rfl F.keep
theorem in_table_c8 {w : World} {A : Around} {R : Result → Shared → Prop} {s : Shared} (m : Md w s.heap) (hd : A.depth < recursionLimit) (n : Nat) (t : Tok)
    (hR : Ret s R (fun v => v = .bool (c8S w.params n))) : codeAny (model prog w) A (.call (.ref 242) ⟨[.str ⟨#[n]⟩ t], []⟩) R s := by
  refine call_plain (binds := [("code", .str ⟨#[n]⟩ t)]) hd (m _ _ (at242 _)) (by rfl) m.nolimit (m.codeRec (at241 _) (by rfl) (by rfl)) (by rfl) (locs (by rfl)) ?_
  intro h₁ F
  have N : News s.heap s.heap.objs.size h₁ [] := News.nil
  repeat' (first | walk1 | (dsimp only; walk1))
  refine wpAny_inSet_of (knd := intKind prog w) (k := (n : Int)) (intKind_is _ _ _ _) rfl (set_c8 (m.ext F.keep)) ?_
  dsimp only
  exact ret_bool hR rfl F.keep
theorem in_table_c9 {w : World} {A : Around} {R : Result → Shared → Prop} {s : Shared} (m : Md w s.heap) (hd : A.depth < recursionLimit) (n : Nat) (t : Tok)
    (hR : Ret s R (fun v => v = .bool (c9S w.params n))) : codeAny (model prog w) A (.call (.ref 260) ⟨[.str ⟨#[n]⟩ t], []⟩) R s := by
  refine call_plain (binds := [("code", .str ⟨#[n]⟩ t)]) hd (m _ _ (at260 _)) (by rfl) m.nolimit (m.codeRec (at259 _) (by rfl) (by rfl)) (by rfl) (locs (by rfl)) ?_
  intro h₁ F
  have N : News s.heap s.heap.objs.size h₁ [] := News.nil
  repeat' (first | walk1 | (dsimp only; walk1))
  refine wpAny_inSet_of (knd := intKind prog w) (k := (n : Int)) (intKind_is _ _ _ _) rfl (set_c9 (m.ext F.keep)) ?_
  dsimp only
  exact ret_bool hR rfl F.keep
end Mine
end
section
open PySem PySem.W PyProof.Rows
namespace Mine
local macro_rules | `(tactic| walk_at "x") => `(tactic| skip)
local macro_rules | `(tactic| walk_at "eval Name") => `(tactic| ((with_reducible show wpAny _ _ (eval (Expr.Name _ _) (envOf _ _ _ _ _)) _ _ _); first
  | (refine ld_builtin_at (by assumption) (Md.g (by assumption)) (by with_reducible first | exact n_ord _) (Md.b (by assumption)) (by with_reducible first | exact b_ord _) ?_)))
theorem in_table_c11 {w : World} {A : Around} {R : Result → Shared → Prop} {s : Shared} (m : Md w s.heap) (hd : A.depth < recursionLimit) (n : Nat) (t : Tok)
    (hR : Ret s R (fun v => v = .bool (n == 32))) : codeAny (model prog w) A (.call (.ref 187) ⟨[.str ⟨#[n]⟩ t], []⟩) R s := by
  refine call_plain (binds := [("code", .str ⟨#[n]⟩ t)]) hd (m _ _ (at187 _)) (by rfl) m.nolimit (m.codeRec (at186 _) (by rfl) (by rfl)) (by rfl) (locs (by rfl)) ?_
  intro h₁ F
  have N : News s.heap s.heap.objs.size h₁ [] := News.nil
  repeat' (first | walk1 | (dsimp only; walk1))
  dsimp only
  refine ret_bool hR ?_ F.keep
  by_cases h : n = 32
  · subst h; decide
  · rw [show (n == 32) = false by simpa using h]
    rw [beq_eq_false_iff_ne]
    intro e
    have : (Str.mk #[n]).cps = (Str.ofString " ").cps := by rw [e]
    rw [show (Str.ofString " ").cps = #[32] by decide +kernel] at this
    simp at this
    exact h this
theorem in_table_c4 {w : World} {A : Around} {R : Result → Shared → Prop} {s : Shared} (m : Md w s.heap) (hd : A.depth < recursionLimit) (n : Nat) (t : Tok)
    (hR : Ret s R (fun v => v = .bool (!decide (n < 64976) && (decide (n < 65008) || decide (65533 < n % 65536))))) : codeAny (model prog w) A (.call (.ref 194) ⟨[.str ⟨#[n]⟩ t], []⟩) R s := by
  refine call_plain (binds := [("code", .str ⟨#[n]⟩ t)]) hd (m _ _ (at194 _)) (by rfl) m.nolimit (m.codeRec (at193 _) (by rfl) (by rfl)) (by rfl) (locs (by rfl)) ?_
  intro h₁ F
  have N : News s.heap s.heap.objs.size h₁ [] := News.nil
  repeat' (first | walk1 | (dsimp only; walk1))
  all_goals try (dsimp only; refine ret_bool hR ?_ (Fr.keep (by assumption)))
  · rw [show decide (n < 64976) = true by simp; omega]; rfl
  · rw [show decide (n < 64976) = false by simp; omega, show decide (n < 65008) = true by simp; omega]; rfl
  · rw [show decide (n < 64976) = false by simp; omega, show decide (n < 65008) = false by simp; omega, PyProof.Rows.bitAnd_pp (by omega) (by omega)]
    rw [show (Int.toNat (n : Int) &&& Int.toNat 65535) = n % 65536 from Nat.and_two_pow_sub_one_eq_mod n 16]
    by_cases h1 : 65533 < n % 65536
    · rcases (show n % 65536 = 65534 ∨ n % 65536 = 65535 by omega) with h | h <;> rw [h] <;> decide
    · rw [show decide (65533 < n % 65536) = false by simpa using h1]
      simp
      omega
abbrev Ar (d : Nat) (fr : Option (List Env)) (gd : Option (List Code)) (u : Nat) : Around := { handled := none, depth := d, frames := fr, guards := gd, units := u }
theorem fr_ext {h₀ h h' : Heap} {L : Addr} {m : Str → Option Value} (F : Fr h₀ L h m) (k : Ext h h') : Fr h₀ L h' m := ⟨F.ns.keeps k, fun b o e => k _ _ (F.keep b o e), F.above⟩
theorem news_ext {h₀ h h' : Heap} {L : Addr} {news : List (Addr × Obj)} (N : News h₀ L h news) (k : Ext h h') : News h₀ L h' news := fun p hp => ⟨k _ _ (N p hp).1, (N p hp).2.1, (N p hp).2.2⟩
def endsL : List Int := [32, 32, 173, 173, 832, 833, 847, 847, 6150, 6150, 6155, 6157, 8203, 8205, 8206, 8207, 8234, 8238, 8288, 8288, 8298, 8303, 12272, 12283, 64976, 65007, 65024, 65039, 65279, 65279, 65529, 65533, 917505, 917505, 917536, 917631]
theorem law_ends {w : World} {A : Around} {R : Result → Shared → Prop} {s : Shared} (m : Md w s.heap) (hd : A.depth < recursionLimit)
    (hR : ∀ l h' tk (vs : List Value), h'.IsList l vs.toArray → IntsAre vs endsL → s.heap.get? l = none → Ext s.heap h' → R (.ok (.ret (.ref l))) { s with heap := h', toks := tk }) : codeAny (model prog w) A (.call (.ref 267) ⟨[], []⟩) R s := by
  refine call_plain (binds := []) hd (m _ _ (at267 _)) (by rfl) m.nolimit (m.codeRec (at266 _) (by rfl) (by rfl)) (by rfl) (locs (by rfl)) ?_
  intro h₁ F
  have N : News s.heap s.heap.objs.size h₁ [] := News.nil
  repeat' (first | walk1 | (dsimp only; walk1))
  rename News _ _ _ _ => N1
  rename Fr _ _ _ _ => F1
  obtain ⟨g1, g2, g3⟩ := N1 _ (List.Mem.head _)
  exact hR _ _ _ _ ⟨_, g1, rfl, _, rfl⟩ (by repeat' (first | exact IntsAre.nil | apply IntsAre.cons)) g3 F1.keep
def FnAt (w : World) (f : Addr) : Prop := ∃ o fd, (H1 w.params).get? f = some o ∧ o.data = .func fd
def isFnO (o : Obj) : Bool := match o.data with
  | .func _ => true
  | _ => false
theorem fnAt_of {w : World} {f : Addr} {o : Obj} (h : (H1 w.params).get? f = some o) (hf : isFnO o = true) : FnAt w f := by
  unfold isFnO at hf
  split at hf
  · rename_i fd e; exact ⟨o, fd, h, e⟩
  · cases hf
theorem callWith_md {w : World} {A : Around} {E : Value → Shared → Prop} {s : Shared} {env : Env} {pos : Pos} {f : Addr} {e : PySem.Expr} {rest : List PySem.Expr} {Q : Value → Shared → Prop} (hf : FnAt w f)
    (h : wpAny (model prog w) A (spliced (backTo pos (starEach (e :: rest) env))) (fun vs s₁ => Md w s₁.heap ∧ wpAny (model prog w) A (call (.ref f) vs) Q E s₁) E s)
    (he : starEach (e :: rest) env = (false, eval e env) :: starEach rest env := by rfl) :
    wpAny (model prog w) A (callWith pos (.ref f) [] (backTo pos (starEach (e :: rest) env)) []) Q E s := by
  obtain ⟨o, fd, h1, h2⟩ := hf
  exact callWith_def h2 (wpAny_mono h (fun vs s₁ x => ⟨x.1 _ _ h1, x.2⟩) fun _ _ x => x) he
theorem callWith_md0 {w : World} {A : Around} {E : Value → Shared → Prop} {s : Shared} {env : Env} {pos : Pos} {f : Addr} {Q : Value → Shared → Prop} (hf : FnAt w f) (m : Md w s.heap)
    (h : wpAny (model prog w) A (call (.ref f) []) Q E s) :
    wpAny (model prog w) A (callWith pos (.ref f) [] (backTo pos (starEach [] env)) []) Q E s := by
  obtain ⟨o, fd, h1, h2⟩ := hf
  exact Calls.callWith_function (o := o) (fd := fd) (evalArgs_nil3 ⟨⟨m _ _ h1, h2⟩, h⟩)
theorem fn_ends (w : World) : FnAt w 267 := fnAt_of (at267 _) (by kernel_rfl)
def codeOf (x : Int) : Int :=
  if x.fmod 4 = 0 then (if (x.fdiv 4).fmod 1112064 < 55296 then (x.fdiv 4).fmod 1112064 else (x.fdiv 4).fmod 1112064 + 2048)
  else if x.fmod 4 = 1 then endsL.getD ((x.fdiv 4).fmod 36).toNat 0 + (if ((x.fdiv 4).fdiv 36).fmod 3 = 0 then 0 else if ((x.fdiv 4).fdiv 36).fmod 3 = 1 then 1 else -1)
  else if x.fmod 4 = 2 then 65536 * (x.fdiv 4).fmod 17 + 65532 + ((x.fdiv 4).fdiv 17).fmod 4
  else (x.fdiv 4).fmod 128
theorem g_ends (w : World) : mgl w "_law_ends" = some (.ref 267) := by kernel_rfl
local macro_rules | `(tactic| walk_at "eval Name") => `(tactic| ((with_reducible show wpAny _ _ (eval (Expr.Name _ _) (envOf _ _ _ _ _)) _ _ _); first
  | (refine ld_global_at (by assumption) (Md.g (by assumption)) (by with_reducible first | exact g_ends _) ?_)))
theorem law_code {w : World} {d u : Nat} {fr : Option (List Env)} {gd : Option (List Code)} {R : Result → Shared → Prop} {s : Shared} (m : Md w s.heap) (hd : d + 1 < recursionLimit) (x : Int) (t : Tok)
    (hR : Ret s R (fun v => ∃ t', v = .int (codeOf x) t')) : codeAny (model prog w) (Ar d fr gd u) (.call (.ref 274) ⟨[.int x t], []⟩) R s := by
  refine call_plain (binds := [("number", .int x t)]) (show d < recursionLimit by omega) (m _ _ (at274 _)) (by rfl) m.nolimit (m.codeRec (at273 _) (by rfl) (by rfl)) (by rfl) (locs (by rfl)) ?_
  intro h₁ F
  have N : News s.heap s.heap.objs.size h₁ [] := News.nil
  repeat' (first | walk1 | (dsimp only; walk1))
  all_goals try (dsimp only; refine ret_int hR ?_ (Fr.keep (by assumption)))
  rotate_left 2
  · rename Fr _ _ _ _ => F1
    rename News _ _ _ _ => N1
    refine callWith_md0 (fn_ends w) (m.ext F1.keep) (wpAny_call (law_ends (m.ext F1.keep) (show d + 1 < recursionLimit from hd) ?_))
    intro l h2 tk vs hl hi hf hk
    have F2 := fr_ext F1 hk
    have N2 := news_ext N1 hk
    clear F1 N1
    dsimp only
    repeat' (first | walk1 | (dsimp only; walk1))
    have e36 := fdiv_fmod_facts (x.fdiv 4) 36
    refine item_list_intsT hl hi (by omega) (show (x.fdiv 4).fmod 36 < 36 by omega) (by omega) fun t1 => ?_
    dsimp only
    repeat' (first | walk1 | (dsimp only; walk1))
    have e3 := fdiv_fmod_facts ((x.fdiv 4).fdiv 36) 3
    rcases (show ((x.fdiv 4).fdiv 36).fmod 3 = 0 ∨ ((x.fdiv 4).fdiv 36).fmod 3 = 1 ∨ ((x.fdiv 4).fdiv 36).fmod 3 = 2 by omega) with q | q | q
    all_goals (rw [q]; rename News _ _ _ _ => N3)
    · refine item_tupleT (j := 0) (News.isTup N3 (.head _)) (by decide) (by decide) rfl rfl ?_
      repeat' (first | walk1 | (dsimp only; walk1))
      dsimp only; refine ret_int hR ?_ (Fr.keep (by assumption))
      unfold codeOf; rw [q]; simp_all
    · refine item_tupleT (j := 1) (News.isTup N3 (.head _)) (by decide) (by decide) rfl rfl ?_
      repeat' (first | walk1 | (dsimp only; walk1))
      dsimp only; refine ret_int hR ?_ (Fr.keep (by assumption))
      unfold codeOf; rw [q]; simp_all
    · refine item_tupleT (j := 2) (News.isTup N3 (.head _)) (by decide) (by decide) rfl rfl ?_
      repeat' (first | walk1 | (dsimp only; walk1))
      dsimp only; refine ret_int hR ?_ (Fr.keep (by assumption))
      unfold codeOf; rw [q]; simp_all
  all_goals (unfold codeOf; simp_all; try omega)
end Mine
end
section
open PySem PySem.W PyProof.Rows
namespace Mine
/-! the dict of the exceptions -/
def dictEs (o : Obj) : List DictEntry := match o.data with
  | .dict es _ => es.toList
  | _ => []
def okEntry (e : DictEntry) : Bool := match e.key, e.val with
  | .int k _, .str _ _ => e.hash == hashInt k
  | _, _ => false
def dictOk (o : Obj) : Bool := o.cls == .type "dict" && o.dict == none && o.slots.size == 0 && match o.data with
  | .dict es _ => es.toList.all okEntry
  | _ => false
theorem mapOf_lit {w : World} {h : Heap} {a : Addr} {o : Obj} (ho : h.get? a = some o) (hk : dictOk o = true) : h.MapOf (intKind prog w) a (fun k => ((dictEs o).find? fun e => Value.isInt k e.key).map (·.val)) := by
  obtain ⟨c, d, dt, sl⟩ := o
  unfold dictOk at hk
  simp only [Bool.and_eq_true, beq_iff_eq] at hk
  obtain ⟨⟨⟨h1, h2⟩, h3⟩, h4⟩ := hk
  cases dt with
  | dict es ep =>
    refine ⟨_, es, ep, ho, ⟨h1, h2, Array.eq_empty_of_size_eq_zero h3⟩, rfl, fun e he => ?_, fun k => ?_⟩
    · have := List.all_eq_true.mp h4 e (Array.mem_toList_iff.mpr he)
      obtain ⟨x, k, v⟩ := e
      cases k <;> cases v <;> simp only [okEntry, Bool.false_eq_true] at this
      rename_i i tk _ _
      exact ⟨i, by simp [intKind, Value.isInt], show x = hashInt i by simpa using this⟩
    · unfold findBy dictEs
      rw [← Array.find?_toList]
      rfl
  | _ => cases h4
/-- what the exceptions hold for a code -/
def strOf : Value → Str
  | .str s _ => s
  | _ => ⟨#[]⟩
@[irreducible] noncomputable def b3V (P : Params) (k : Int) : Option Value := ((dictEs (o187 P)).find? fun e => Value.isInt k e.key).map (·.val)
theorem map_b3 {w : World} {h : Heap} (m : Md w h) : h.MapOf (intKind prog w) 135 (b3V w.params) := by
  have := mapOf_lit (w := w) (m _ _ (at135 _)) (by kernel_rfl)
  unfold b3V; exact this
theorem b3_strs (P : Params) (k : Int) : b3V P k = none ∨ ∃ x t, b3V P k = some (.str x t) := by
  unfold b3V
  have hk : (dictEs (o187 P)).all okEntry = true := by kernel_rfl
  cases h : (dictEs (o187 P)).find? fun e => Value.isInt k e.key with
  | none => left; rfl
  | some e =>
    right
    have := List.all_eq_true.mp hk e (List.mem_of_find?_eq_some h)
    obtain ⟨x, k, v⟩ := e
    cases k <;> cases v <;> simp only [okEntry, Bool.false_eq_true] at this
    exact ⟨_, _, rfl⟩
theorem mapOf_noDict {w : World} {h : Heap} {a : Addr} {f : Int → Option Value} (hm : h.MapOf (intKind prog w) a f) : ∀ b, Value.ref a = .ref b → ∃ ob, h.get? b = some ob ∧ ob.dict = none :=
  fun b e => by injection e with e; subst e; exact let ⟨o, _, _, ho, hc, _⟩ := hm; ⟨o, ho, hc.2.1⟩
theorem g_b3 (w : World) : mgl w "b3_exceptions" = some (.ref 135) := by kernel_rfl
local macro_rules | `(tactic| walk_at "eval Name") => `(tactic| ((with_reducible show wpAny _ _ (eval (Expr.Name _ _) (envOf _ _ _ _ _)) _ _ _); first
  | (refine ld_global_at (by assumption) (Md.g (by assumption)) (by with_reducible first | exact g_b3 _) ?_)
  | (refine ld_builtin_at (by assumption) (Md.g (by assumption)) (by with_reducible first | exact n_ord _) (Md.b (by assumption)) (by with_reducible first | exact b_ord _) ?_)))
noncomputable def foldS (P : Params) (n : Nat) : Str := match b3V P n with
  | some v => strOf v
  | none => Txt.lower ⟨#[n]⟩
theorem map_table_b3 {w : World} {d u : Nat} {fr : Option (List Env)} {gd : Option (List Code)} {R : Result → Shared → Prop} {s : Shared} (m : Md w s.heap) (hd : d < recursionLimit) (n : Nat) (t : Tok)
    (hR : Ret s R (fun v => ∃ t', v = .str (foldS w.params n) t')) : codeAny (model prog w) (Ar d fr gd u) (.call (.ref 180) ⟨[.str ⟨#[n]⟩ t], []⟩) R s := by
  refine call_plain (binds := [("code", .str ⟨#[n]⟩ t)]) (show d < recursionLimit by omega) (m _ _ (at180 _)) (by rfl) m.nolimit (m.codeRec (at179 _) (by rfl) (by rfl)) (by rfl) (locs (by rfl)) ?_
  intro h₁ F
  have N : News s.heap s.heap.objs.size h₁ [] := News.nil
  repeat' (first | walk1 | (dsimp only; walk1))
  have M1 := map_b3 (m.ext F.keep)
  refine getMethod_builtin (T := "dict") M1.typeIs PySem.F.plainAttrs_dict PySem.F.slot_dict_get PySem.F.type_dict_get (mapOf_noDict M1) ?_
  dsimp only
  repeat' (first | walk1 | (dsimp only; walk1))
  refine call_meetsIn PySem.F.slot_dict_get M1.typeIs PySem.F.entry_dict_get (PySem.F.args_dict_get_2 _ _) (meets_dict_get (intKind prog w) 135 (intKind_is prog w n _) (by decide)) ⟨_, M1, ?_⟩
  rcases b3_strs w.params n with q | ⟨y, t1, q⟩
  · rw [q]
    dsimp only [Option.getD]
    repeat' (first | walk1 | (dsimp only; walk1))
    refine SCL.lower (show (1 : Nat) ≤ 5592405 by decide) fun _ => ?_
    dsimp only
    exact ret_str hR (by unfold foldS; rw [q]) (Fr.keep (by assumption))
  · rw [q]
    dsimp only [Option.getD]
    repeat' (first | walk1 | (dsimp only; walk1))
    dsimp only
    exact ret_str hR (by unfold foldS; rw [q]; rfl) (Fr.keep (by assumption))
end Mine
end
section
open PySem PySem.W PyProof.Rows
namespace Mine
theorem g_f1 (w : World) : mgl w "in_table_b1" = some (.ref 134) := by kernel_rfl
theorem g_f2 (w : World) : mgl w "in_table_c11" = some (.ref 187) := by kernel_rfl
theorem g_f3 (w : World) : mgl w "in_table_c4" = some (.ref 194) := by kernel_rfl
theorem g_f4 (w : World) : mgl w "in_table_c6" = some (.ref 206) := by kernel_rfl
theorem g_f5 (w : World) : mgl w "in_table_c7" = some (.ref 218) := by kernel_rfl
theorem g_f6 (w : World) : mgl w "in_table_c8" = some (.ref 242) := by kernel_rfl
theorem g_f7 (w : World) : mgl w "in_table_c9" = some (.ref 260) := by kernel_rfl
theorem fn134 (w : World) : FnAt w 134 := fnAt_of (at134 _) (by kernel_rfl)
theorem fn187 (w : World) : FnAt w 187 := fnAt_of (at187 _) (by kernel_rfl)
theorem fn194 (w : World) : FnAt w 194 := fnAt_of (at194 _) (by kernel_rfl)
theorem fn206 (w : World) : FnAt w 206 := fnAt_of (at206 _) (by kernel_rfl)
theorem fn218 (w : World) : FnAt w 218 := fnAt_of (at218 _) (by kernel_rfl)
theorem fn242 (w : World) : FnAt w 242 := fnAt_of (at242 _) (by kernel_rfl)
theorem fn260 (w : World) : FnAt w 260 := fnAt_of (at260 _) (by kernel_rfl)
local macro_rules | `(tactic| walk_at "eval Name") => `(tactic| ((with_reducible show wpAny _ _ (eval (Expr.Name _ _) (envOf _ _ _ _ _)) _ _ _); first
  | (refine ld_global_at (by assumption) (Md.g (by assumption)) (by with_reducible first | exact g_f1 _ | exact g_f2 _ | exact g_f3 _ | exact g_f4 _ | exact g_f5 _ | exact g_f6 _ | exact g_f7 _) ?_)))
local macro_rules | `(tactic| walk_at "callWith ref") => `(tactic| ((with_reducible show wpAny _ _ (callWith _ (Value.ref _) [] (backTo _ (starEach (_ :: _) _)) _) _ _ _); refine callWith_md (by with_reducible first | exact fn134 _ | exact fn187 _ | exact fn194 _ | exact fn206 _ | exact fn218 _ | exact fn242 _ | exact fn260 _) ?_))
noncomputable def heldB (P : Params) (n : Nat) : Bool := b1S P n || (n == 32) || (!decide (n < 64976) && (decide (n < 65008) || decide (65533 < n % 65536))) || c6S P n || c7S P n || c8S P n || c9S P n
theorem law_held {w : World} {d u : Nat} {fr : Option (List Env)} {gd : Option (List Code)} {R : Result → Shared → Prop} {s : Shared} (m : Md w s.heap) (hd : d + 1 < recursionLimit) (n : Nat) (t : Tok)
    (hR : Ret s R (fun v => v = .bool (heldB w.params n))) : codeAny (model prog w) (Ar d fr gd u) (.call (.ref 286) ⟨[.str ⟨#[n]⟩ t], []⟩) R s := by
  refine call_plain (binds := [("sign", .str ⟨#[n]⟩ t)]) (show d < recursionLimit by omega) (m _ _ (at286 _)) (by rfl) m.nolimit (m.codeRec (at285 _) (by rfl) (by rfl)) (by rfl) (locs (by rfl)) ?_
  intro h₁ F
  have N : News s.heap s.heap.objs.size h₁ [] := News.nil
  repeat' (first
    | walk1
    | (dsimp only; walk1)
    | exact Md.ext m (Fr.keep (by assumption))
    | (refine wpAny_call (in_table_b1 (Md.ext m (Fr.keep (by assumption))) (show d + 1 < recursionLimit from hd) _ _ ?_); intro v h' tk hv hk; subst hv; (have F' := fr_ext (by assumption) hk); (have N' := news_ext (by assumption) hk); dsimp only)
    | (refine wpAny_call (in_table_c11 (Md.ext m (Fr.keep (by assumption))) (show d + 1 < recursionLimit from hd) _ _ ?_); intro v h' tk hv hk; subst hv; (have F' := fr_ext (by assumption) hk); (have N' := news_ext (by assumption) hk); dsimp only)
    | (refine wpAny_call (in_table_c4 (Md.ext m (Fr.keep (by assumption))) (show d + 1 < recursionLimit from hd) _ _ ?_); intro v h' tk hv hk; subst hv; (have F' := fr_ext (by assumption) hk); (have N' := news_ext (by assumption) hk); dsimp only)
    | (refine wpAny_call (in_table_c6 (Md.ext m (Fr.keep (by assumption))) (show d + 1 < recursionLimit from hd) _ _ ?_); intro v h' tk hv hk; subst hv; (have F' := fr_ext (by assumption) hk); (have N' := news_ext (by assumption) hk); dsimp only)
    | (refine wpAny_call (in_table_c7 (Md.ext m (Fr.keep (by assumption))) (show d + 1 < recursionLimit from hd) _ _ ?_); intro v h' tk hv hk; subst hv; (have F' := fr_ext (by assumption) hk); (have N' := news_ext (by assumption) hk); dsimp only)
    | (refine wpAny_call (in_table_c8 (Md.ext m (Fr.keep (by assumption))) (show d + 1 < recursionLimit from hd) _ _ ?_); intro v h' tk hv hk; subst hv; (have F' := fr_ext (by assumption) hk); (have N' := news_ext (by assumption) hk); dsimp only)
    | (refine wpAny_call (in_table_c9 (Md.ext m (Fr.keep (by assumption))) (show d + 1 < recursionLimit from hd) _ _ ?_); intro v h' tk hv hk; subst hv; (have F' := fr_ext (by assumption) hk); (have N' := news_ext (by assumption) hk); dsimp only))
  all_goals (try dsimp only)
  all_goals refine ret_bool hR ?_ (Fr.keep (by assumption))
  all_goals clear hR
  all_goals unfold heldB
  all_goals simp_all
  all_goals omega
end Mine
end
section
open PySem PySem.W PyProof.Rows
namespace Mine
theorem n_range (w : World) : mgl w "range" = none := by kernel_rfl
theorem b_range (w : World) : mbl w "range" = some (.type "range") := by kernel_rfl
section
variable {w : World} {A : Around} {E : Value → Shared → Prop} {s : Shared} {env : Env}
theorem ldg {x : Str} {pos : Pos} {v : Value} {Q : Value → Shared → Prop} (m : Md w s.heap) (hv : mgl w x = some v) (h : Q v s)
    (hk : env.scope.kind = .function := by rfl) (hx : env.kindOf x = some .globalImplicit := by rfl) (hG : env.globals = mainGlobals := by rfl) (hd : (x == ("__debug__" : Str)) = false := by decide) :
    wpAny (model prog w) A (eval (.Name x pos) env) Q E s := Calls.Name_function_global hk hx (Calls.loadGlobal_global (env := env) (by rw [hG]; exact m.g) hv h) hd
theorem ldb {x : Str} {pos : Pos} {v : Value} {Q : Value → Shared → Prop} (m : Md w s.heap) (hn : mgl w x = none) (hv : mbl w x = some v) (h : Q v s)
    (hk : env.scope.kind = .function := by rfl) (hx : env.kindOf x = some .globalImplicit := by rfl) (hG : env.globals = mainGlobals := by rfl) (hB : env.builtins = builtinsNs := by rfl) (hd : (x == ("__debug__" : Str)) = false := by decide) :
    wpAny (model prog w) A (eval (.Name x pos) env) Q E s := Calls.Name_function_global hk hx (Calls.loadGlobal_builtin (env := env) (by rw [hG]; exact m.g) hn (by rw [hB]; exact m.b) hv h) hd
end
local macro_rules | `(tactic| walk_at "eval Name") => `(tactic| ((with_reducible show wpAny _ _ (eval (Expr.Name _ _) _) _ _ _); first
  | (refine ldg (by (first | assumption | exact Md.ext (by assumption) (Fr.keep (by assumption)))) (by with_reducible first | exact g_ends _) ?_)
  | (refine ldb (by (first | assumption | exact Md.ext (by assumption) (Fr.keep (by assumption)))) (by with_reducible first | exact n_range _) (by with_reducible first | exact b_range _) ?_)))
theorem news_list {h₀ h h' : Heap} {L l : Addr} {m : Str → Option Value} {news : List (Addr × Obj)} {vs : List Value} (F : Fr h₀ L h m) (N : News h₀ L h' news) (hl : h'.IsList l vs.toArray) (hf : h.get? l = none) :
    ∃ dc n sl, News h₀ L h' ((l, { cls := .type "list", dict := dc, data := .seq vs.toArray n, slots := sl }) :: news) := by
  obtain ⟨⟨cls, dc, dat, sl⟩, ho, hc, n, hd⟩ := hl
  cases hc; cases hd
  refine ⟨dc, n, sl, fun p hp => ?_⟩
  rcases List.mem_cons.mp hp with rfl | hp
  · refine ⟨ho, ?_, ?_⟩
    · rintro rfl
      obtain ⟨o, _, _, h1, _⟩ := F.ns
      rw [hf] at h1; cases h1
    · cases e : h₀.get? l with
      | none => rfl
      | some o => rw [F.keep _ _ e] at hf; cases hf
  · exact N p hp
abbrev mOf {h₀ h : Heap} {L : Addr} {m : Str → Option Value} (_ : Fr h₀ L h m) : Str → Option Value := m
def liesB (c : Int) : Bool := c == 37 || decide (65533 < c.fmod 65536) || (rangeInts 0 2 18).any fun a => decide (endsL.getD a.toNat 0 ≤ c) && decide (c ≤ endsL.getD (a + 1).toNat 0)
theorem any_of (f : Int → Bool) : ∀ l : List Int, (!decide (List.map (fun a => a) (List.filter f l) = [])) = l.any f
  | [] => rfl
  | a :: l => by
    have ih := any_of f l
    cases h : f a with
    | true => simp [List.filter_cons, h]
    | false => rw [List.filter_cons, h, List.any_cons, h, ← ih]; rfl
theorem law_lies {w : World} {d u : Nat} {fr : Option (List Env)} {gd : Option (List Code)} {R : Result → Shared → Prop} {s : Shared} (m : Md w s.heap) (hd : d + 1 < recursionLimit) (hu : u + 100 < cLine) (c : Int) (t : Tok)
    (hR : Ret s R (fun v => v = .bool (liesB c))) : codeAny (model prog w) (Ar d fr gd u) (.call (.ref 279) ⟨[.int c t], []⟩) R s := by
  refine call_cellsN_ret (binds := [("code", .int c t)]) (show d < recursionLimit by omega) (m _ _ (at279 _)) (by rfl) m.nolimit (m.codeRec (at278 _) (by rfl) (by rfl)) (by rfl) (kinds_of (by kinds_ok)) (by decide) fun h₁ tk₁ cells F N0 X0 => ?_
  cells_open X0
  repeat' ((fail_if_success (with_reducible show wpAny _ _ (eval (Expr.ListComp _ _ _ _) _) _ _ _)); first
    | walk1
    | (dsimp only; walk1)
    | refine callWith_md0 (fn_ends _) (by (first | assumption | exact Md.ext (by assumption) (Fr.keep (by assumption)))) ?_
    | (refine wpAny_call (law_ends (by (first | assumption | exact Md.ext (by assumption) (Fr.keep (by assumption)))) (show d + 1 < recursionLimit from hd) ?_); intro l h2 tk2 vs hl hi hf hk; (have F2 := fr_ext (by assumption) hk); (have N2 := news_ext (by assumption) hk); (obtain ⟨dc, nn, sl, N3⟩ := news_list (by assumption) N2 hl hf); dsimp only))
  all_goals try (dsimp only; refine ret_bool hR ?_ (Fr.keep (by assumption)))
  · clear hR; simp_all [liesB]
  · clear hR; simp_all [liesB]
  clear F hk
  rename Fr _ _ _ _ => F9
  (with_reducible apply ListComp_DCr (h₀ := s.heap) (L := s.heap.objs.size) (m := mOf F9) (pz := fun a => decide (endsL.getD a.toNat 0 ≤ c) && decide (c ≤ endsL.getD (a + 1).toNat 0)) (d := fun a => .int a)); (case hh => with_unfolding_all rfl); (case hclos => with_unfolding_all rfl); (case hcell => decide); (case hkind => with_unfolding_all rfl); (case hnames => decide); (case hx => with_unfolding_all rfl); (case hs => intro _; with_unfolding_all rfl)
  case' h => with_reducible refine wpAny_rangePack ?_
  repeat' ((fail_if_success (with_reducible show RangePack _)); first | walk1 | (dsimp only; walk1))
  rename IsRange _ _ _ _ _ _ _ _ => R'; rename Fr _ _ _ (bindL _ _ _) => F'; rename News _ _ _ _ => N'
  refine RangePack.intro ⟨_, _, _, _, _, _, _, _, 18, rfl, R', by decide, by decide, by decide, F', N', ?_, ?_, ?_⟩
  have Fk := F'.keep
  · intro C a v s₂ m₂ E' hC ha hv hn hm hk
    obtain ⟨tv, rfl⟩ := hv
    have hl2 : s₂.heap.IsList l vs.toArray := lstInComp (by is_list) hk
    have hra : 0 ≤ a ∧ a < 35 := (show ∀ x ∈ rangeInts 0 2 18, 0 ≤ x ∧ x < 35 by decide) a ha
    repeat' (first | walk1 | (dsimp only; walk1) | refine item_list_intsT hl2 hi (by omega) (show _ < (36 : Int) by omega) (by omega) fun t1 => ?_)
    all_goals first | exact ⟨_, _, rfl, fun _ _ e => e⟩ | (rename_i q; revert q; generalize endsL.getD _ 0 = y; generalize endsL.getD _ 0 = z; intro q; (try simp at q); simp; omega)
  · intro C a v s₂ m₂ E' hC ha hv hp hn hm hk
    obtain ⟨tv, rfl⟩ := hv
    repeat' (first | exact Carried.int _ _ | exact ⟨_, _, rfl, fun _ _ e => e⟩ | walk1 | (dsimp only; walk1))
  · intro D ys h' tk F3 N3 hD hl3 hp3 hc3
    repeat' (first | walk1 | (dsimp only; walk1))
    refine' ne_intsK ?k1 ?k2 ?k3 ?k4 (by show u + _ + 64 < cLine; omega) ?_
    case k1 => is_list
    case k2 => l_intsC
    case k3 => is_list
    case k4 => first | exact IntsAre.nil | l_intsC
    dsimp only
    refine ret_bool hR ?_ (Fr.keep (by assumption))
    rw [any_of]; clear hR; unfold liesB; simp_all
    intro q; exfalso; omega
end Mine
end
section
open PySem PySem.W PyProof.Rows PySem.Builtin
namespace Mine
def hexC (b : List UInt8) : List Nat := b.flatMap fun c => [Bytes.hexDigit (c.toNat / 16), Bytes.hexDigit (c.toNat % 16)]
theorem hex_tree (x y z : UInt8) (t : Tok) : «bytes.hex» ⟨[.bytes #[x, y, z] t], []⟩ = retStr ⟨(hexC [x, y, z]).toArray⟩ := by rfl
theorem upper_tree (b : List UInt8) (t : Tok) : «bytes.upper» ⟨[.bytes b.toArray t], []⟩ = (mkBytes (b.map Bytes.toUpper).toArray >>= fun v => ret v) := by rfl
theorem encode_tree (x : Str) (t u : Tok) : «str.encode» ⟨[.str x t, .str "ascii" u], []⟩ = ((_codecs.encodeNarrow "str.encode" _codecs.asciiCodec none (.str x t) x >>= fun b => mkBytes b) >>= fun v => ret v) := by kernel_rfl
end Mine
end
section
open PySem PySem.W PyProof.Rows PySem.Builtin
namespace Mine
theorem loop2 {S : Type} {g : Nat → S → Sem (ForInStep S)} {l : List Nat} {s0 s1 s2 : S} (h0 : g 0 s0 = pure (.yield s1)) (h1 : g 1 s1 = pure (.done s2)) : forIn (0 :: 1 :: l) s0 g = (pure s2 : Sem S) := by
  rw [List.forIn_cons, h0]
  show (forIn (1 :: l) s1 g : Sem S) = _
  rw [List.forIn_cons, h1]
  rfl
open Builtin._codecs in
theorem enc6 (self : Value) (a b c d e f : Nat) (ha : a < 128) (hb : b < 128) (hc : c < 128) (hd : d < 128) (he : e < 128) (hf : f < 128) :
    encodeNarrow "str.encode" asciiCodec none self ⟨#[a, b, c, d, e, f]⟩ = pure #[a.toUInt8, b.toUInt8, c.toUInt8, d.toUInt8, e.toUInt8, f.toUInt8] := by
  have ha' : asciiCodec.bad a = false := by simp [asciiCodec]; omega
  have hb' : asciiCodec.bad b = false := by simp [asciiCodec]; omega
  have hc' : asciiCodec.bad c = false := by simp [asciiCodec]; omega
  have hd' : asciiCodec.bad d = false := by simp [asciiCodec]; omega
  have he' : asciiCodec.bad e = false := by simp [asciiCodec]; omega
  have hf' : asciiCodec.bad f = false := by simp [asciiCodec]; omega
  have hx : (Array.extract #[a, b, c, d, e, f] 0 6) = #[a, b, c, d, e, f] := by rfl
  have hi : (#[a, b, c, d, e, f] : Array Nat).findIdx? asciiCodec.bad = none := by
    rw [Array.findIdx?_eq_none_iff]; intro x hx; simp at hx; rcases hx with rfl | rfl | rfl | rfl | rfl | rfl <;> assumption
  unfold encodeNarrow
  show (forIn (m := Sem) [0:6] _ _ >>= _) = _
  rw [Std.Legacy.Range.forIn_eq_forIn_range']
  rw [show List.range' [:6].start [:6].size [:6].step = 0 :: 1 :: [2, 3, 4, 5] from rfl]
  rw [loop2 (s1 := (6, #[a.toUInt8, b.toUInt8, c.toUInt8, d.toUInt8, e.toUInt8, f.toUInt8], {})) (s2 := (6, #[a.toUInt8, b.toUInt8, c.toUInt8, d.toUInt8, e.toUInt8, f.toUInt8], {}))]
  · rfl
  · dsimp only
    rw [if_neg (by decide)]
    show (if (!asciiCodec.bad a) = true then _ else _) = _
    rw [ha', if_pos (show (!false) = true from rfl)]
    rw [show (#[a, b, c, d, e, f] : Array Nat).extract = #[a, b, c, d, e, f] from rfl, hi]
    rfl
  · dsimp only
    rw [if_neg (by show ¬ (6 > sizeLine); decide)]
    rfl
end Mine
end
section
open PySem PySem.W PyProof.Rows PySem.Builtin
namespace Mine
theorem n_type (w : World) : mgl w "type" = none := by kernel_rfl
theorem b_type (w : World) : mbl w "type" = some (.type "type") := by kernel_rfl
theorem n_bytes (w : World) : mgl w "bytes" = none := by kernel_rfl
theorem b_bytes (w : World) : mbl w "bytes" = some (.type "bytes") := by kernel_rfl
theorem n_int (w : World) : mgl w "int" = none := by kernel_rfl
theorem b_int (w : World) : mbl w "int" = some (.type "int") := by kernel_rfl
theorem fn78 (w : World) : FnAt w 78 := fnAt_of (at78 _) (by kernel_rfl)
theorem fn87 (w : World) : FnAt w 87 := fnAt_of (at87 _) (by kernel_rfl)
theorem g_buffer (w : World) : mgl w "_buffer" = some (.ref 78) := by kernel_rfl
theorem g_nosep (w : World) : mgl w "_NO_SEP" = some (.ref 79) := by kernel_rfl
theorem g_hexlify (w : World) : mgl w "hexlify" = some (.ref 87) := by kernel_rfl
local macro_rules | `(tactic| walk_at "eval Name") => `(tactic| ((with_reducible show wpAny _ _ (eval (Expr.Name _ _) _) _ _ _); first
  | (refine ldg (by (first | assumption | exact Md.ext (by assumption) (Fr.keep (by assumption)))) (by with_reducible first | exact g_buffer _ | exact g_nosep _ | exact g_hexlify _) ?_)
  | (refine ldb (by (first | assumption | exact Md.ext (by assumption) (Fr.keep (by assumption)))) (by with_reducible first | exact n_type _ | exact n_bytes _ | exact n_int _) (by with_reducible first | exact b_type _ | exact b_bytes _ | exact b_int _) ?_)))
local macro_rules | `(tactic| walk_at "call type:type") => `(tactic| ((with_reducible show wpAny _ _ (call (Value.type "type") [_]) _ _ _); first | refine call_type_of (Tx := "bytes") rfl (by decide +kernel) ?_ | refine call_type_of (Tx := "int") rfl (by decide +kernel) ?_ | refine call_type_of (Tx := "str") rfl (by decide +kernel) ?_))
local macro_rules | `(tactic| walk_at "compareOp Is") => `(tactic| ((with_reducible show wpAny _ _ (compareOp CmpOp.Is (Value.type _) (Value.type _)) _ _ _); first | with_reducible refine is_type ?_ | refine wpAny_is_other (by rfl) (by intro z; exact absurd (Value.type.inj z) (by decide)) ?_))
local macro_rules | `(tactic| walk_at "compareOp IsNot") => `(tactic| ((with_reducible show wpAny _ _ (compareOp CmpOp.IsNot (Value.type _) (Value.type _)) _ _ _); first | with_reducible refine isNot_type ?_ | refine wpAny_isNot_other (by rfl) (by intro z; exact absurd (Value.type.inj z) (by decide)) ?_))
local macro_rules | `(tactic| walk_at "callWith ref") => `(tactic| ((with_reducible show wpAny _ _ (callWith _ (Value.ref _) [] (backTo _ (starEach (_ :: _) _)) _) _ _ _); refine callWith_md (by with_reducible first | exact fn78 _ | exact fn87 _) ?_))
theorem slot_bytes_upper : Slot "bytes" "upper" "bytes.upper" :=
  .of (owner := "bytes") (n := "upper") (by rw [typeLookup_type, builtinLookup_eq_fast]; kernel_rfl) (by decide +kernel) (by decide +kernel) (by decide +kernel)
    (by first | exact .inl (by decide +kernel) | exact .inr (by decide +kernel)) (by rw [isSubtype_type]; kernel_rfl)
theorem type_bytes_upper : typeOf (.builtin "bytes.upper") = pure (.type "method_descriptor") := by show builtinType _ = _; rw [builtinType_eq_fast]; kernel_rfl
theorem entry_bytes_upper : entryFor table "bytes.upper" = some Builtin.«bytes.upper» := entryFor_of_tree (by kernel_rfl)
theorem args_bytes_upper_1 (a : Value) : argsOk "bytes.upper" ⟨[a], []⟩ := by
  unfold argsOk; rw [signature?_of (id := "bytes.upper") (n := ['r', 'e', 'p', 'p', 'u']) (o := ['s', 'e', 't', 'y', 'b']) (by kernel_rfl) FB.owner_bytes]; kernel_rfl
theorem hexDigit_lt (n : Nat) (h : n < 16) : Bytes.hexDigit n < 128 := by unfold Bytes.hexDigit; split <;> omega
theorem hexC_lt (x y z : UInt8) : ∀ c ∈ hexC [x, y, z], c < 128 := by
  intro c hc
  simp only [hexC, List.flatMap_cons, List.flatMap_nil, List.cons_append, List.nil_append, List.mem_cons, List.not_mem_nil, or_false] at hc
  have h1 := x.toNat_lt; have h2 := y.toNat_lt; have h3 := z.toNat_lt
  rcases hc with rfl | rfl | rfl | rfl | rfl | rfl <;> exact hexDigit_lt _ (by omega)
theorem gives_hex (x y z : UInt8) (t : Tok) : Gives («bytes.hex» ⟨[.bytes #[x, y, z] t], []⟩) (.str ⟨(hexC [x, y, z]).toArray⟩) := .of_eq (hex_tree x y z t)
theorem gives_upper (b : List UInt8) (t : Tok) : Gives («bytes.upper» ⟨[.bytes b.toArray t], []⟩) (.bytes (b.map Bytes.toUpper).toArray) := .of_eq (upper_tree b t)
theorem gives_encode {a b c d e f : Nat} (t v : Tok) (h : ∀ x ∈ [a, b, c, d, e, f], x < 128) :
    Gives («str.encode» ⟨[.str ⟨#[a, b, c, d, e, f]⟩ t, .str "ascii" v], []⟩) (.bytes ([a, b, c, d, e, f].map (·.toUInt8)).toArray) := by
  rw [encode_tree, enc6 _ a b c d e f (h _ (by simp)) (h _ (by simp)) (h _ (by simp)) (h _ (by simp)) (h _ (by simp)) (h _ (by simp))]
  exact .of_eq rfl
section
variable {w : World} {A : Around} {E : Value → Shared → Prop} {s : Shared}
theorem gm_hex {b : Array UInt8} {t : Tok} {pl : Sem Bool} {Q : Value × List Value → Shared → Prop} (h : Q (.builtin "bytes.hex", [.bytes b t]) s) : wpAny (model prog w) A (getMethod (.bytes b t) (Str.ofString "hex") pl) Q E s := by
  have a1 : s.TypeIs (.bytes b t) "bytes" := rfl
  have a2 : ∀ a, (.bytes b t : Value) = .ref a → ∃ o, s.heap.get? a = some o ∧ o.dict = none := fun _ q => nomatch q
  with_reducible exact getMethod_builtin a1 FB.plainAttrs_bytes FB.slot_bytes_hex FB.type_bytes_hex a2 h
theorem gm_upper {b : Array UInt8} {t : Tok} {pl : Sem Bool} {Q : Value × List Value → Shared → Prop} (h : Q (.builtin "bytes.upper", [.bytes b t]) s) : wpAny (model prog w) A (getMethod (.bytes b t) (Str.ofString "upper") pl) Q E s := by
  have a1 : s.TypeIs (.bytes b t) "bytes" := rfl
  have a2 : ∀ a, (.bytes b t : Value) = .ref a → ∃ o, s.heap.get? a = some o ∧ o.dict = none := fun _ q => nomatch q
  with_reducible exact getMethod_builtin a1 FB.plainAttrs_bytes slot_bytes_upper type_bytes_upper a2 h
theorem gm_encode {x : Str} {t : Tok} {pl : Sem Bool} {Q : Value × List Value → Shared → Prop} (h : Q (.builtin "str.encode", [.str x t]) s) : wpAny (model prog w) A (getMethod (.str x t) (Str.ofString "encode") pl) Q E s := by
  have a1 : s.TypeIs (.str x t) "str" := rfl
  have a2 : ∀ a, (.str x t : Value) = .ref a → ∃ o, s.heap.get? a = some o ∧ o.dict = none := fun _ q => nomatch q
  with_reducible exact getMethod_builtin a1 PySem.F.plainAttrs_str PySem.F.slot_str_encode PySem.F.type_str_encode a2 h
end
local macro_rules | `(tactic| walk_at "getMethod bytes") => `(tactic| first | with_reducible refine gm_hex ?_ | with_reducible refine gm_upper ?_)
local macro_rules | `(tactic| walk_at "getMethod str") => `(tactic| with_reducible refine gm_encode ?_)
theorem buffer_ {w : World} {d u : Nat} {fr : Option (List Env)} {gd : Option (List Code)} {R : Result → Shared → Prop} {s : Shared} (m : Md w s.heap) (hd : d < recursionLimit) (b : Array UInt8) (t : Tok)
    (hR : Ret s R (fun v => v = .bytes b t)) : codeAny (model prog w) (Ar d fr gd u) (.call (.ref 78) ⟨[.bytes b t], []⟩) R s := by
  refine call_plain (binds := [("data", .bytes b t)]) (show d < recursionLimit by omega) (m _ _ (at78 _)) (by rfl) m.nolimit (m.codeRec (at77 _) (by rfl) (by rfl)) (by rfl) (locs (by rfl)) ?_
  intro h₁ F
  have N : News s.heap s.heap.objs.size h₁ [] := News.nil
  repeat' (first | walk1 | (dsimp only; walk1))
  all_goals (dsimp only; exact hR _ _ _ rfl (Fr.keep (by assumption)))
section
variable {prog : Program} {w : World} {A : Around} {E : Value → Shared → Prop} {s : Shared}
theorem call_dflt {R : Result → Shared → Prop} {name : Str} {params : Arguments} {body : List Stmt} {scope : Scope}
    {pm cd doc dV : Value} {a : Addr} {o : Obj} {args : List Value} {binds : List (Str × Value)}
    (hroom : A.depth < recursionLimit) (ho : s.heap.get? a = some o) (hdata : o.data = .func { Calls.docDef name params body scope pm cd doc with defaults := dV }) (hlim : s.heap.NoLimit) (hcd : s.heap.CodeRec cd name)
    (hbind : wpAny (model prog w) A.in1 (bindArgs { Calls.docDef name params body scope pm cd doc with defaults := dV } ⟨args, []⟩) (fun b s₁ => b = binds ∧ s₁ = s) (fun e s' => R (.error e) s') s)
    (hloc : ∀ x ∈ binds, scope.names.lookup x.1 = some .local)
    (h : ∀ h₁, Fr s.heap s.heap.objs.size h₁ (fun x => binds.reverse.lookup x) →
      wpAny (model prog w) (A.deeper (envOf name scope s.heap.objs.size a cd)) (execs body (envOf name scope s.heap.objs.size a cd))
        (fun f s' => R (.ok (.ret (match f with | .ret v => v | _ => .none))) s')
        (fun e s' => wpAny (model prog w) (A.deeper (envOf name scope s.heap.objs.size a cd)) (leaving (envOf name scope s.heap.objs.size a cd) e)
          (fun _ s'' => R (.error e) s'') (fun e' s'' => R (.error e') s'') s')
        { s with heap := h₁, toks := s.toks + binds.length })
    (hco : scope.isCoroutine = false := by rfl) (hgen : scope.isGenerator = false := by rfl) (hk : scope.kind = .function := by rfl)
    (hcell : ∀ x ∈ scope.names, x.2 ≠ .cell := by decide) :
    codeAny (model prog w) A (.call (.ref a) ⟨args, []⟩) R s := by
  refine codeAny_call_function hroom ho hdata hco hgen rfl hcd ?_
  refine wpAny_mono hbind (fun b s₁ hb => ?_) fun _ _ e => e
  obtain ⟨rfl, rfl⟩ := hb
  refine wpAny_newFunctionEnv hcell hloc (fun h₁ hns hsb => ⟨hlim.fresh _ hsb, ?_⟩) hk
  show codeAny _ _ (.func body (envOf name scope s₁.heap.objs.size a cd)) _ _
  exact codeAny_func (h h₁ ⟨hns, fun b o e => hsb.extBut b o (Nat.ne_of_lt (Heap.lt_size e)) (Heap.get?_push_of_some _ e), Nat.le_refl _⟩)
end
theorem b2a_hex {w : World} {d u : Nat} {fr : Option (List Env)} {gd : Option (List Code)} {R : Result → Shared → Prop} {s : Shared} (m : Md w s.heap) (hd : d + 1 < recursionLimit) (x y z : UInt8) (t : Tok)
    (hR : Ret s R (fun v => ∃ t', v = .bytes ((hexC [x, y, z]).map (·.toUInt8)).toArray t')) : codeAny (model prog w) (Ar d fr gd u) (.call (.ref 87) ⟨[.bytes #[x, y, z] t], []⟩) R s := by
  refine call_dflt (binds := [("data", .bytes #[x, y, z] t), ("sep", .ref 79), ("bytes_per_sep", .int 1 366)]) (dV := .ref 80) (show d < recursionLimit by omega) (m _ _ (at87 _)) (by rfl) m.nolimit (m.codeRec (at86 _) (by rfl) (by rfl)) ?_ (locs (by rfl)) ?_
  · refine wpAny_bind (wpAny_pure ?_)
    refine wpAny_bind (wpAny_seqItems (m _ _ (at80 _)) rfl ?_)
    exact wpAny_pure ⟨rfl, rfl⟩
  intro h₁ F
  have N : News s.heap s.heap.objs.size h₁ [] := News.nil
  repeat' (first
    | walk1
    | (dsimp only; walk1)
    | exact Md.ext m (Fr.keep (by assumption))
    | ((with_reducible show wpAny _ _ (call (Value.builtin "bytes.hex") _) _ _ _); refine call_gives FB.slot_bytes_hex rfl FB.entry_bytes_hex (FB.args_bytes_hex_1 _) (gives_hex _ _ _ _) ⟨by show (hexC _).toArray.size ≤ sizeLine; show 6 ≤ sizeLine; decide, ?_⟩)
    | ((with_reducible show wpAny _ _ (call (Value.builtin "str.encode") _) _ _ _); refine call_gives PySem.F.slot_str_encode rfl PySem.F.entry_str_encode (PySem.F.args_str_encode_2 _ _) (gives_encode _ _ (hexC_lt _ _ _)) ⟨by show 6 ≤ sizeLine; decide, ?_⟩)
    | ((with_reducible show wpAny _ _ (call (Value.ref 78) _) _ _ _); refine wpAny_call (buffer_ (Md.ext m (Fr.keep (by assumption))) (show d + 1 < recursionLimit from hd) _ _ ?_); intro v h' tk hv hk; subst hv; (have F' := fr_ext (by assumption) hk); (have N' := news_ext (by assumption) hk); dsimp only))
  all_goals (dsimp only; exact hR _ _ _ ⟨_, rfl⟩ (Fr.keep (by assumption)))
theorem b16encode {w : World} {d u : Nat} {fr : Option (List Env)} {gd : Option (List Code)} {R : Result → Shared → Prop} {s : Shared} (m : Md w s.heap) (hd : d + 2 < recursionLimit) (x y z : UInt8) (t : Tok)
    (hR : Ret s R (fun v => ∃ t', v = .bytes (((hexC [x, y, z]).map (·.toUInt8)).map Bytes.toUpper).toArray t')) : codeAny (model prog w) (Ar d fr gd u) (.call (.ref 108) ⟨[.bytes #[x, y, z] t], []⟩) R s := by
  refine call_plain (binds := [("s", .bytes #[x, y, z] t)]) (show d < recursionLimit by omega) (m _ _ (at108 _)) (by rfl) m.nolimit (m.codeRec (at107 _) (by rfl) (by rfl)) (by rfl) (locs (by rfl)) ?_
  intro h₁ F
  have N : News s.heap s.heap.objs.size h₁ [] := News.nil
  repeat' (first
    | walk1
    | (dsimp only; walk1)
    | exact Md.ext m (Fr.keep (by assumption))
    | ((with_reducible show wpAny _ _ (call (Value.builtin "bytes.upper") _) _ _ _); refine call_gives slot_bytes_upper rfl entry_bytes_upper (args_bytes_upper_1 _) (gives_upper _ _) ⟨by show 6 ≤ sizeLine; decide, ?_⟩)
    | ((with_reducible show wpAny _ _ (call (Value.ref 87) _) _ _ _); refine wpAny_call (b2a_hex (Md.ext m (Fr.keep (by assumption))) (show (d + 1) + 1 < recursionLimit by omega) _ _ _ _ ?_); rintro v h' tk ⟨t', hv⟩ hk; subst hv; (have F' := fr_ext (by assumption) hk); (have N' := news_ext (by assumption) hk); dsimp only))
  all_goals (dsimp only; exact hR _ _ _ ⟨_, rfl⟩ (Fr.keep (by assumption)))
end Mine
end
section
open PySem PySem.W PyProof.Rows PySem.Builtin
namespace Mine
/-! a comprehension over any source, its element free to call -/
def IntV (x : Int) (v : Value) : Prop := ∃ t, v = .int x t
def StrV (x : List Nat) (v : Value) : Prop := ∃ t, v = .str ⟨x.toArray⟩ t
def SignV (n : Nat) (v : Value) : Prop := ∃ t, v = .str ⟨#[n]⟩ t
def BoolV (b : Bool) (v : Value) : Prop := v = .bool b
section
variable {w : World} {A : Around} {E : Value → Shared → Prop} {s : Shared} {env : Env} {h₀ : Heap} {L : Addr} {m : Str → Option Value} {α : Type}
def SrcAs (w : World) (A : Around) (E : Value → Shared → Prop) (xv : Value) (s₁ : Shared) (as : List α) (rel : α → Value → Prop) : Prop :=
  ∀ Q : Value → Shared → Prop, (∀ I fp wr (P : Nat → Value → Prop) St h', Walks prog w A I fp wr as.length P St → (∀ i v, P i v → ∃ a, as[i]? = some a ∧ rel a v) → St 0 h' → (∀ b ∈ fp, b < h'.objs.size) →
    (∀ b ∈ wr, s₁.heap.get? b = none) → Ext s₁.heap h' → Q (.ref I) { s₁ with heap := h' }) → wpAny (model prog w) A (pyIter xv) Q E s₁
theorem get_size (h : Heap) : h.get? h.objs.size = none := by
  cases e : h.get? h.objs.size with
  | none => rfl
  | some o => exact absurd (Heap.lt_size e) (Nat.lt_irrefl _)
theorem mem_one {b I : Addr} (h : b ∈ [I]) : b = I := List.mem_singleton.mp h
theorem src_str (hh : A.handled = none) {x : List Nat} {t : Tok} : SrcAs w A E (.str ⟨x.toArray⟩ t) s x SignV := fun Q hQ => by
  refine wpAny_pyIter_str fun o St W hst => ?_
  refine hQ _ _ _ _ _ _ (W A hh) (fun i v hv => ?_) hst (fun b hb => ?_) (fun b hb => ?_) fun b o' e => Heap.get?_push_of_some _ e
  · obtain ⟨c, u, hc, rfl⟩ := hv
    exact ⟨c, by simpa using hc, u, rfl⟩
  · rw [mem_one hb]; show _ < (s.heap.push o).objs.size; rw [Heap.size_push]; exact Nat.lt_succ_self _
  · rw [mem_one hb]; exact get_size _
theorem src_bytes (hh : A.handled = none) {x : List UInt8} {t : Tok} : SrcAs w A E (.bytes x.toArray t) s x (fun c v => IntV (c.toNat : Int) v) := fun Q hQ => by
  refine KBw.pyIter_bytes ?_
  refine hQ _ _ _ _ _ _ (KBw.walks hh s.heap.objs.size x.toArray t) (fun i v hv => ?_) ⟨_, Heap.get?_push_size _ rfl, rfl, rfl⟩ (fun b hb => ?_) (fun b hb => ?_) fun b o' e => Heap.get?_push_of_some _ e
  · obtain ⟨c, u, hc, rfl⟩ := hv
    exact ⟨c, by simpa using hc, u, rfl⟩
  · rw [mem_one hb]; show _ < (s.heap.push _).objs.size; rw [Heap.size_push]; exact Nat.lt_succ_self _
  · rw [mem_one hb]; exact get_size _
theorem paired_get {rel : α → Value → Prop} : ∀ {as : List α} {vs : List Value}, Paired rel as vs → ∀ (i : Nat) (v : Value), vs[i]? = some v → ∃ a, as[i]? = some a ∧ rel a v
  | _, _, .nil, i, v, h => by simp at h
  | _, _, .cons h r, 0, v, e => by
    simp only [List.getElem?_cons_zero, Option.some.injEq] at e
    subst e; exact ⟨_, rfl, h⟩
  | _, _, .cons h r, i + 1, v, e => by
    simp only [List.getElem?_cons_succ] at e ⊢
    exact paired_get r i v e
theorem paired_of {rel : α → Value → Prop} : ∀ {as : List α} {vs : List Value}, vs.length = as.length → (∀ (i : Nat) (v : Value), vs[i]? = some v → ∃ a, as[i]? = some a ∧ rel a v) → Paired rel as vs
  | [], [], _, _ => .nil
  | a :: as, v :: vs, hl, h => by
    obtain ⟨a', e, ha⟩ := h 0 v rfl
    cases e
    exact .cons ha (paired_of (Nat.succ.inj hl) fun i u hu => h (i + 1) u hu)
  | [], _ :: _, hl, _ => nomatch hl
  | _ :: _, [], hl, _ => nomatch hl
theorem src_list (hh : A.handled = none) {l : Addr} {vs : List Value} {as : List α} {rel : α → Value → Prop} (hl : s.heap.IsList l vs.toArray) (hp : Paired rel as vs) : SrcAs w A E (.ref l) s as rel := fun Q hQ => by
  have hlt : l < s.heap.objs.size := by obtain ⟨_, e, _⟩ := hl; exact Heap.lt_size e
  refine wpAny_pyIter_list hl ?_
  have W := Walks.list (prog := prog) (w := w) hh s.heap.objs.size l (Nat.ne_of_lt hlt) vs.toArray
  rw [show vs.toArray.size = as.length from hp.length.symm] at W
  refine hQ _ _ _ _ _ _ W (fun i v hv => ?_) ⟨⟨_, Heap.get?_push_size _ rfl, rfl, rfl⟩, hl.push _⟩ (fun b hb => ?_) (fun b hb => ?_) fun b o' e => Heap.get?_push_of_some _ e
  · exact paired_get hp i v (by simpa using hv)
  · show _ < (s.heap.push _).objs.size
    rw [Heap.size_push]
    rcases List.mem_cons.mp hb with rfl | hb
    · exact Nat.lt_succ_self _
    · rw [mem_one hb]; exact Nat.lt_succ_of_lt hlt
  · rw [mem_one hb]; exact get_size _
theorem src_range (hh : A.handled = none) {r : Addr} {n : Nat} {t u v : Tok} (hr : IsRange s.heap r 0 (n : Int) 1 t u v) (hs : Builtin.Range.small 0 (n : Int) 1 = true) (hz : Builtin.Range.rangeSize 0 (n : Int) 1 = (n : Int)) :
    SrcAs w A E (.ref r) s (List.range n) (fun k v => IntV (k : Int) v) := fun Q hQ => by
  refine wpAny_pyIter_range hr hs ?_
  have W := (LCg.range_walks (prog := prog) (w := w) (I := s.heap.objs.size) hh 0 n).bound
  rw [show n = (List.range n).length by simp] at W
  refine hQ _ _ _ _ _ _ W (fun i v hv => ?_) (by rw [hz]; simpa using Heap.get?_push_size _ rfl) (fun b hb => ?_) (fun b hb => ?_) fun b o' e => Heap.get?_push_of_some _ e
  · obtain ⟨hi, t, rfl⟩ := hv
    simp only [List.length_range] at hi
    exact ⟨i, by simp [hi], t, by rw [Int.zero_add]⟩
  · rw [mem_one hb]; show _ < (s.heap.push _).objs.size; rw [Heap.size_push]; exact Nat.lt_succ_self _
  · rw [mem_one hb]; exact get_size _
open Classical in
noncomputable def liftP (rel : α → Value → Prop) (pz : α → Bool) (v : Value) : Bool := if h : ∃ a, rel a v then pz h.choose else false
theorem liftP_is {rel : α → Value → Prop} {pz : α → Bool} (hf : ∀ a b v, rel a v → rel b v → a = b) {a : α} {v : Value} (h : rel a v) : liftP rel pz v = pz a := by
  have hx : ∃ a, rel a v := ⟨a, h⟩
  unfold liftP
  rw [dif_pos hx, hf _ _ _ hx.choose_spec h]
theorem paired_filter {rel out : α → Value → Prop} {pz : α → Bool} (hf : ∀ a b v, rel a v → rel b v → a = b) : ∀ {as : List α} {vs ys : List Value}, Paired rel as vs → Paired (fun v y => ∃ a, rel a v ∧ out a y) (vs.filter (liftP rel pz)) ys →
    Paired out (as.filter pz) ys
  | _, _, _, .nil, h => by simp only [List.filter_nil] at h ⊢; cases h; exact .nil
  | _, _, ys, .cons (a := a) (b := v) h r, hy => by
    rw [List.filter_cons, liftP_is hf h] at hy
    rw [List.filter_cons]
    cases hp : pz a with
    | false => rw [hp] at hy; simp only [Bool.false_eq_true, if_false] at hy ⊢; exact paired_filter hf r hy
    | true =>
      rw [hp] at hy
      simp only [if_true] at hy ⊢
      cases hy with
      | cons h1 h2 =>
        obtain ⟨a', e1, e2⟩ := h1
        rw [hf _ _ _ e1 h] at e2
        exact .cons e2 (paired_filter hf r h2)
/-- what a comprehension asks of its tests and its element -/
def Tests (w : World) (A : Around) (s₁ : Shared) (ifs : List PySem.Expr) (scope : Scope) (cl : List (Str × Addr)) (env : Env) (x : Str) (as : List α) (rel : α → Value → Prop) (pz : α → Bool) : Prop :=
  ∀ C a v s₂ m₂ (E' : Value → Shared → Prop), a ∈ as → rel a v → s₂.heap.Ns (compEnvC scope cl C env).locals m₂ → m₂ x = some v → Ext s₁.heap s₂.heap →
    wpAny (model prog w) A (forIn ifs true fun c r => if r = true then do let ok ← isTrue c (compEnvC scope cl C env) (eval c (compEnvC scope cl C env)); pure (ForInStep.yield ok) else pure (ForInStep.yield r))
      (fun ok s₃ => ok = pz a ∧ Keeps s₂ s₃) E' s₂
def Elts (w : World) (A : Around) (s₁ : Shared) (elt : PySem.Expr) (scope : Scope) (cl : List (Str × Addr)) (env : Env) (x : Str) (as : List α) (rel : α → Value → Prop) (pz : α → Bool) (out : α → Value → Prop) : Prop :=
  ∀ C a v s₂ m₂ (E' : Value → Shared → Prop), a ∈ as → rel a v → pz a = true → s₂.heap.Ns (compEnvC scope cl C env).locals m₂ → m₂ x = some v → Ext s₁.heap s₂.heap →
    wpAny (model prog w) A (eval elt (compEnvC scope cl C env)) (fun y s₃ => out a y ∧ Keeps s₂ s₃) E' s₂
theorem LC {elt iter : PySem.Expr} {x : Str} {px : Pos} {ifs : List PySem.Expr} {scope : Scope} {cl : List (Str × Addr)} {pos : Pos} {Q : Value → Shared → Prop} {as : List α} {rel out : α → Value → Prop} {pz : α → Bool}
    (hf : ∀ a b v, rel a v → rel b v → a = b) (hlen : as.length ≤ sizeLine)
    (hclos : closureFor scope env = pure cl) (hcell : ∀ y ∈ scope.names, y.2 ≠ .cell) (hkind : scope.kind = .function)
    (hnames : ∀ y ∈ scope.names, y.2 = .local → scope.names.lookup y.1 = some .local) (hx : scope.names.lookup x = some .local)
    (h : wpAny (model prog w) A (eval iter env) (fun xv s₁ => SrcAs w A E xv s₁ as rel ∧ Tests w A s₁ ifs scope cl env x as rel pz ∧ Elts w A s₁ elt scope cl env x as rel pz out ∧
      (∀ D (ys : List Value) h' tk, Ext s₁.heap h' → s₁.heap.get? D = none → h'.PlainList D ys.toArray → Paired out (as.filter pz) ys → Q (.ref D) { s₁ with heap := h', toks := tk })) E s)
    (hs : ∀ x, foldedSetIterable iter env x = pure x) :
    wpAny (model prog w) A (eval (.ListComp elt [⟨.Name x px, iter, ifs, 0⟩] scope pos) env) Q E s := by
  refine wpAny_ListComp_free (liftP rel pz) (fun v y => ∃ a, rel a v ∧ out a y) hclos hcell hkind hnames hx (wpAny_mono h (fun xv s₁ h₁ => ?_) fun _ _ e => e) hs
  obtain ⟨S, T, El, hQ⟩ := h₁
  refine S _ fun I fp wr P St h' W hP hst hfp hwr hk => ?_
  have up : ∀ (u : Heap), (∀ b o, b ∉ wr → h'.get? b = some o → u.get? b = some o) → Ext s₁.heap u := fun u k b o e => k b o (fun hb => by rw [hwr b hb] at e; cases e) (hk b o e)
  refine ⟨I, fp, wr, as.length, P, St, rfl, W, hlen, hst, hfp, ⟨?_, ?_⟩, ?_⟩
  · intro C i v s₃ m₃ E' hC hv hn hm hk' _
    obtain ⟨a, ea, ra⟩ := hP i v hv
    rw [liftP_is hf ra]
    exact T C a v s₃ m₃ E' (List.mem_of_getElem? ea) ra hn hm (up _ hk')
  · intro C i v s₃ m₃ E' hC hv hp hn hm hk' _
    obtain ⟨a, ea, ra⟩ := hP i v hv
    rw [liftP_is hf ra] at hp
    exact wpAny_mono (El C a v s₃ m₃ E' (List.mem_of_getElem? ea) ra hp hn hm (up _ hk')) (fun y s₄ h₄ => ⟨⟨a, ra, h₄.1⟩, h₄.2⟩) fun _ _ e => e
  · intro D h'' tk ys vs hD hl hpl hlen' hPv hF hk'
    refine hQ D ys.toList h'' tk (up _ hk') ?_ (by rw [Array.toArray_toList]; exact hpl) (paired_filter hf (paired_of hlen' fun i v hv => hP i v (hPv i v hv)) hF)
    cases e : s₁.heap.get? D with
    | none => rfl
    | some o => rw [hk D o e] at hD; cases hD
theorem LCA {elt iter : PySem.Expr} {x y : Str} {px py : Pos} {ifs : List PySem.Expr} {scope : Scope} {cl : List (Str × Addr)} {pos spos : Pos} {Q : Flow → Shared → Prop} {as : List α} {rel out : α → Value → Prop} {pz : α → Bool}
    (hf : ∀ a b v, rel a v → rel b v → a = b) (hlen : as.length ≤ sizeLine)
    (hsw : swapsWith (.ListComp elt [⟨.Name x px, iter, ifs, 0⟩] scope pos) (some (.Name y py)) spos.line env = pure true) (hL : env.locals = L)
    (hclos : closureFor scope env = pure cl) (hcell : ∀ y ∈ scope.names, y.2 ≠ .cell) (hkind : scope.kind = .function)
    (hnames : ∀ y ∈ scope.names, y.2 = .local → scope.names.lookup y.1 = some .local) (hx : scope.names.lookup x = some .local)
    (hy : env.kindOf y = some .local) (hpm : (env.scope.kind == .class || (env.scope.kind == .module && env.locals != env.globals)) = false)
    (h : wpAny (model prog w) A (eval iter env) (fun xv s₁ => ∃ news, Fr h₀ L s₁.heap m ∧ News h₀ L s₁.heap news ∧ SrcAs w A E xv s₁ as rel ∧ Tests w A s₁ ifs scope cl env x as rel pz ∧ Elts w A s₁ elt scope cl env x as rel pz out ∧
      (∀ D (ys : List Value) n h' tk, Fr h₀ L h' (fun z => if z = y then some (.ref D) else m z) → News h₀ L h' ((D, { cls := .type "list", data := .seq ys.toArray n }) :: news) → Paired out (as.filter pz) ys → Q .next { s₁ with heap := h', toks := tk })) E s)
    (hs : ∀ x, foldedSetIterable iter env x = pure x) :
    wpAny (model prog w) A (exec (.Assign [.Name y py] (.ListComp elt [⟨.Name x px, iter, ifs, 0⟩] scope pos) spos) env) Q E s := by
  subst hL
  refine wpAny_Assign_ListComp_free (liftP rel pz) (fun v y => ∃ a, rel a v ∧ out a y) hsw hclos hcell hkind hnames hx hy hpm (wpAny_mono h (fun xv s₁ h₁ => ?_) fun _ _ e => e) hs
  obtain ⟨news, F, N, S, T, El, hQ⟩ := h₁
  refine S _ fun I fp wr P St h' W hP hst hfp hwr hk => ?_
  have hLw : env.locals ∉ wr := fun hb => by obtain ⟨o, _, _, e, _⟩ := F.ns; rw [hwr _ hb] at e; cases e
  have up : ∀ (u : Heap), (∀ b o, b ∉ wr → h'.get? b = some o → u.get? b = some o) → Ext s₁.heap u := fun u k b o e => k b o (fun hb => by rw [hwr b hb] at e; cases e) (hk b o e)
  refine ⟨I, fp, wr, as.length, P, St, m, rfl, W, hlen, hst, hfp, hLw, F.ns.at' fun o e => hk _ o e, ⟨?_, ?_⟩, ?_⟩
  · intro C i v s₃ m₃ E' hC hv hn hm hk' _
    obtain ⟨a, ea, ra⟩ := hP i v hv
    rw [liftP_is hf ra]
    exact T C a v s₃ m₃ E' (List.mem_of_getElem? ea) ra hn hm (up _ hk')
  · intro C i v s₃ m₃ E' hC hv hp hn hm hk' _
    obtain ⟨a, ea, ra⟩ := hP i v hv
    rw [liftP_is hf ra] at hp
    exact wpAny_mono (El C a v s₃ m₃ E' (List.mem_of_getElem? ea) ra hp hn hm (up _ hk')) (fun y s₄ h₄ => ⟨⟨a, ra, h₄.1⟩, h₄.2⟩) fun _ _ e => e
  · intro D h'' tk ys vs hD hl hpl hlen' hPv hF hn' hk'
    have k1 : ∀ b o, b ≠ env.locals → s₁.heap.get? b = some o → h''.get? b = some o := fun b o hb e => hk' b o hb (fun hw => by rw [hwr b hw] at e; cases e) (hk b o e)
    have hLn : h₀.get? env.locals = none := by
      cases e : h₀.get? env.locals with
      | none => rfl
      | some o => exact absurd (Heap.lt_size e) (Nat.not_lt.mpr F.above)
    have hD0 : s₁.heap.get? D = none := by
      cases e : s₁.heap.get? D with
      | none => rfl
      | some o => rw [hk D o e] at hD; cases hD
    obtain ⟨n, hn⟩ := hpl
    refine hQ D ys.toList n h'' tk ⟨hn', fun b o e => k1 b o (fun q => by rw [q, hLn] at e; cases e) (F.keep b o e), F.above⟩ (fun p hp => ?_) (paired_filter hf (paired_of hlen' fun i v hv => hP i v (hPv i v hv)) hF)
    rcases List.mem_cons.mp hp with rfl | hp
    · refine ⟨by simpa using hn, ?_, ?_⟩
      · rintro rfl
        obtain ⟨o, _, _, e, _⟩ := F.ns; rw [hD0] at e; cases e
      · cases e : h₀.get? D with
        | none => rfl
        | some o => rw [F.keep _ _ e] at hD0; cases hD0
    · exact ⟨k1 _ _ (N p hp).2.1 (N p hp).1, (N p hp).2⟩
end
end Mine
end
section
open PySem PySem.W PyProof.Rows PySem.Builtin
namespace Mine
def strL (x : List Nat) : Str := ⟨x.toArray⟩
theorem strsAre_of : ∀ {xs : List (List Nat)} {vs : List Value}, Paired StrV xs vs → StrsAre vs (xs.map strL)
  | _, _, .nil => .nil
  | _, _, .cons (a := a) ⟨t, e⟩ r => by subst e; exact .cons (strL a) t (strsAre_of r)
theorem foldl_flat : ∀ (ps : List (List Nat)) (acc : Array Nat), (ps.map strL).foldl (fun acc p => acc ++ (Str.ofString "").cps ++ p.cps) acc = acc ++ ps.flatten.toArray
  | [], acc => by simp
  | p :: ps, acc => by
    rw [List.map_cons, List.foldl_cons, foldl_flat ps, show (Str.ofString "").cps = #[] from rfl]
    simp [strL]
theorem join0 (xs : List (List Nat)) : Txt.join (Str.ofString "") (xs.map strL) = strL xs.flatten := by
  cases xs with
  | nil => rfl
  | cons x xs =>
    show (⟨((xs.map strL)).foldl (fun acc p => acc ++ (Str.ofString "").cps ++ p.cps) (strL x).cps⟩ : Str) = _
    rw [foldl_flat]
    simp [strL]
section
variable {w : World} {A : Around} {E : Value → Shared → Prop} {s : Shared}
theorem join_strs {D : Addr} {vs : List Value} {xs : List (List Nat)} {t : Tok} {Q : Value → Shared → Prop} (hl : s.heap.IsList D vs.toArray) (hp : Paired StrV xs vs) (hw : (xs.map List.length).sum + xs.length ≤ 1048576)
    (h : ∀ t' k, Q (.str (strL xs.flatten) t') { s with toks := k }) : wpAny (model prog w) A (call (.builtin "str.join") [.str (Str.ofString "") t, .ref D]) Q E s := by
  refine join_listW hl (ys := xs.map strL) (strsAre_of hp) (by decide) ?_ fun t' k => ?_
  · rw [List.map_map, show (fun x : Str => x.length) ∘ strL = List.length from rfl, List.length_map]; exact hw
  · rw [join0]; exact h t' k
theorem app_strL (x y : List Nat) : strL x ++ strL y = strL (x ++ y) := by
  show (⟨x.toArray ++ y.toArray⟩ : Str) = ⟨(x ++ y).toArray⟩
  rw [List.append_toArray]
theorem add_strL {x y : List Nat} {t u : Tok} {Q : Value → Shared → Prop} (hsz : x.length + y.length ≤ 1048576) (h : ∀ t' k, Q (.str (strL (x ++ y)) t') { s with toks := k }) :
    wpAny (model prog w) A (binaryOp .Add (.str (strL x) t) (.str (strL y) u)) Q E s :=
  PyProof.Rows.add_str (fun t' k => by rw [app_strL]; exact h t' k) (Nat.le_trans hsz (by decide))
theorem pct_eq : Str.ofString "%" = strL [37] := by decide +kernel
end
end Mine
end
section
open PySem PySem.W PyProof.Rows PySem.Builtin
namespace Mine
theorem n_chr (w : World) : mgl w "chr" = none := by kernel_rfl
theorem b_chr (w : World) : mbl w "chr" = some (.builtin "chr") := by kernel_rfl
theorem g_held (w : World) : mgl w "_law_held" = some (.ref 286) := by kernel_rfl
theorem g_enc (w : World) : mgl w "b16encode" = some (.ref 108) := by kernel_rfl
theorem fn286 (w : World) : FnAt w 286 := fnAt_of (at286 _) (by kernel_rfl)
theorem fn108 (w : World) : FnAt w 108 := fnAt_of (at108 _) (by kernel_rfl)
local macro_rules | `(tactic| walk_at "eval Name") => `(tactic| ((with_reducible show wpAny _ _ (eval (Expr.Name _ _) _) _ _ _); first
  | (refine ldg (by (first | assumption | exact Md.ext (by assumption) (Fr.keep (by assumption)))) (by with_reducible first | exact g_held _ | exact g_enc _) ?_)
  | (refine ldb (by (first | assumption | exact Md.ext (by assumption) (Fr.keep (by assumption)))) (by with_reducible first | exact n_type _ | exact n_bytes _ | exact n_chr _ | exact n_ord _) (by with_reducible first | exact b_type _ | exact b_bytes _ | exact b_chr _ | exact b_ord _) ?_)))
local macro_rules | `(tactic| walk_at "callWith ref") => `(tactic| ((with_reducible show wpAny _ _ (callWith _ (Value.ref _) [] (backTo _ (starEach (_ :: _) _)) _) _ _ _); refine callWith_md (by with_reducible first | exact fn286 _ | exact fn108 _) ?_))
local macro_rules | `(tactic| walk_at "call type:type") => `(tactic| ((with_reducible show wpAny _ _ (call (Value.type "type") [_]) _ _ _); first | refine call_type_of (Tx := "bytes") rfl (by decide +kernel) ?_ | refine call_type_of (Tx := "int") rfl (by decide +kernel) ?_ | refine call_type_of (Tx := "str") rfl (by decide +kernel) ?_))
local macro_rules | `(tactic| walk_at "compareOp Is") => `(tactic| ((with_reducible show wpAny _ _ (compareOp CmpOp.Is (Value.type _) (Value.type _)) _ _ _); first | with_reducible refine is_type ?_ | refine wpAny_is_other (by rfl) (by intro z; exact absurd (Value.type.inj z) (by decide)) ?_))
section
variable {w : World} {A : Around} {E : Value → Shared → Prop} {s : Shared} {env : Env} {α : Type}
theorem tests_nil {s₁ : Shared} {scope : Scope} {cl : List (Str × Addr)} {x : Str} {as : List α} {rel : α → Value → Prop} : Tests w A s₁ [] scope cl env x as rel (fun _ => true) := by
  intro C a v s₂ m₂ E' ha hr hn hm hk
  exact wpAny_pure ⟨rfl, _, _, rfl, fun _ _ e => e⟩
theorem paired_map {β : Type} {out : β → Value → Prop} {f : α → β} : ∀ {as : List α} {ys : List Value}, Paired (fun a y => out (f a) y) as ys → Paired out (as.map f) ys
  | _, _, .nil => .nil
  | _, _, .cons h r => .cons h (paired_map r)
theorem filter_true {as : List α} : as.filter (fun _ => true) = as := by simp
end
theorem intV_fun {β : Type} {f : β → Int} (hf : ∀ a b, f a = f b → a = b) : ∀ a b v, IntV (f a) v → IntV (f b) v → a = b := by
  rintro a b v ⟨t, rfl⟩ ⟨t', e⟩
  injection e with e1 e2
  exact hf _ _ e1
theorem oct_bounds (n : Nat) (hn : n < 1114112) : ∀ z ∈ [(n : Int).fdiv 65536, ((n : Int).fdiv 256).fmod 256, (n : Int).fmod 256], 0 ≤ z ∧ z < 256 := by
  rw [Int.fdiv_eq_ediv_of_nonneg _ (by decide), Int.fdiv_eq_ediv_of_nonneg _ (by decide), Int.fmod_eq_emod_of_nonneg _ (by decide), Int.fmod_eq_emod_of_nonneg _ (by decide)]
  intro z hz
  simp only [List.mem_cons, List.not_mem_nil, or_false] at hz
  rcases hz with rfl | rfl | rfl <;> omega
theorem oct_eq (n : Nat) : [(n : Int).fdiv 65536, ((n : Int).fdiv 256).fmod 256, (n : Int).fmod 256].map (fun z => z.toNat.toUInt8) = [(n / 65536).toUInt8, (n / 256 % 256).toUInt8, (n % 256).toUInt8] := by
  rw [Int.fdiv_eq_ediv_of_nonneg _ (by decide), Int.fdiv_eq_ediv_of_nonneg _ (by decide), Int.fmod_eq_emod_of_nonneg _ (by decide), Int.fmod_eq_emod_of_nonneg _ (by decide)]
  rfl
theorem ne_pct (n : Nat) : (({ cps := #[n] } : Str) != Str.ofString "%") = decide (n ≠ 37) := by
  by_cases h : n = 37
  · subst h; decide
  · rw [show decide (n ≠ 37) = true by simpa using h, bne_iff_ne]
    intro e
    have : (Str.mk #[n]).cps = (Str.ofString "%").cps := by rw [e]
    rw [show (Str.ofString "%").cps = #[37] by decide +kernel] at this
    simp at this
    exact h this
def upC (b : List UInt8) : List UInt8 := ((hexC b).map (·.toUInt8)).map Bytes.toUpper
noncomputable def shieldL (P : Params) (n : Nat) : List Nat := if n ≠ 37 ∧ heldB P n = false then [n] else 37 :: (upC [(n / 65536).toUInt8, (n / 256 % 256).toUInt8, (n % 256).toUInt8]).map (·.toNat)
theorem law_shielded {w : World} {d u : Nat} {fr : Option (List Env)} {gd : Option (List Code)} {R : Result → Shared → Prop} {s : Shared} (m : Md w s.heap) (hd : d + 3 < recursionLimit) (n : Nat) (hn : n < 1114112) (t : Tok)
    (hR : Ret s R (StrV (shieldL w.params n))) : codeAny (model prog w) (Ar d fr gd u) (.call (.ref 291) ⟨[.str ⟨#[n]⟩ t], []⟩) R s := by
  refine call_plain (binds := [("sign", .str ⟨#[n]⟩ t)]) (show d < recursionLimit by omega) (m _ _ (at291 _)) (by rfl) m.nolimit (m.codeRec (at290 _) (by rfl) (by rfl)) (by rfl) (locs (by rfl)) ?_
  intro h₁ F
  have N : News s.heap s.heap.objs.size h₁ [] := News.nil
  repeat' ((fail_if_success (with_reducible show wpAny _ _ (eval (Expr.ListComp _ _ _ _) _) _ _ _)); first
    | walk1
    | (refine bytes_K (by assumption) (by assumption) (by is_list) (by l_intsC) (oct_bounds n hn) (by show 3 ≤ sizeLine; decide) rfl (fun h' t k F' N' _ => ?_))
    | (dsimp only; walk1)
    | exact Md.ext m (Fr.keep (by assumption))
    | (rw [oct_eq n]; refine wpAny_call (b16encode (Md.ext m (Fr.keep (by assumption))) (show (d + 1) + 2 < recursionLimit by omega) _ _ _ _ ?_); rintro v h' tk ⟨t', hv⟩ hk; subst hv; (have F' := fr_ext (by assumption) hk); (have N' := news_ext (by assumption) hk); dsimp only)
    | (refine wpAny_call (law_held (Md.ext m (Fr.keep (by assumption))) (show (d + 1) + 1 < recursionLimit by omega) _ _ ?_); rintro v h' tk hv hk; subst hv; (have F' := fr_ext (by assumption) hk); (have N' := news_ext (by assumption) hk); dsimp only))
  all_goals try (dsimp only; exact hR _ _ _ ⟨t, by unfold shieldL; simp_all [ne_pct]⟩ (Fr.keep (by assumption)))
  all_goals
    refine LC (cl := []) (as := upC [(n / 65536).toUInt8, (n / 256 % 256).toUInt8, (n % 256).toUInt8]) (rel := fun c v => IntV (c.toNat : Int) v) (out := fun c v => StrV [c.toNat] v) (pz := fun _ => true)
      (intV_fun fun a b e => UInt8.toNat_inj.mp (Int.ofNat.inj e)) (show 6 ≤ sizeLine by decide) (by with_unfolding_all rfl) (by decide) (by with_unfolding_all rfl) (by decide) (by with_unfolding_all rfl) ?_ (by intro _; with_unfolding_all rfl)
    repeat' ((fail_if_success (with_reducible show _ ∧ _)); first | walk1 | (dsimp only; walk1))
    dsimp only
    refine ⟨src_bytes rfl, tests_nil, ?_, ?_⟩
    · rintro C a v s₂ m₂ E' ha ⟨ta, rfl⟩ - hns hm hk
      have M2 : Md w s₂.heap := (Md.ext m (Fr.keep (by assumption))).ext hk
      have hlt := a.toNat_lt
      repeat' (first | walk1 | (dsimp only; walk1))
      all_goals first | exact ⟨_, rfl⟩ | exact ⟨_, _, rfl, fun _ _ e => e⟩
    · intro D ys h' tk hk hD hpl hys
      have F9 := fr_ext (by assumption) hk
      have N9 := news_ext (by assumption) hk
      rw [filter_true] at hys
      replace hys := paired_map (f := fun c => [UInt8.toNat c]) hys
      try dsimp only
      repeat' (first
        | walk1
        | (dsimp only; walk1)
        | (refine join_strs hpl.isList hys (by show 6 * 1 + 6 ≤ 1048576; decide) (fun t' k => ?_))
        | (rw [pct_eq]; refine add_strL (by show 1 + 6 ≤ 1048576; decide) (fun t' k => ?_)))
      dsimp only
      have e : shieldL w.params n = 37 :: (upC [(n / 65536).toUInt8, (n / 256 % 256).toUInt8, (n % 256).toUInt8]).map (·.toNat) := by
        unfold shieldL; rw [if_neg]; simp_all [ne_pct]
      exact hR _ _ _ ⟨_, by rw [e]; rfl⟩ (Fr.keep (by assumption))
end Mine
end
section
open PySem PySem.W PyProof.Rows PySem.Builtin
namespace Mine
theorem g_b3f (w : World) : mgl w "map_table_b3" = some (.ref 180) := by kernel_rfl
theorem fn180 (w : World) : FnAt w 180 := fnAt_of (at180 _) (by kernel_rfl)
local macro_rules | `(tactic| walk_at "eval Name") => `(tactic| ((with_reducible show wpAny _ _ (eval (Expr.Name _ _) _) _ _ _); first
  | (refine ldg (by (first | assumption | exact Md.ext (by assumption) (Fr.keep (by assumption)))) (by with_reducible first | exact g_b3f _ | exact g_f1 _) ?_)
  | (refine ldb (by (first | assumption | exact Md.ext (by assumption) (Fr.keep (by assumption)))) (by with_reducible first | exact n_chr _ | exact n_ord _ | exact n_range _) (by with_reducible first | exact b_chr _ | exact b_ord _ | exact b_range _) ?_)))
local macro_rules | `(tactic| walk_at "callWith ref") => `(tactic| ((with_reducible show wpAny _ _ (callWith _ (Value.ref _) [] (backTo _ (starEach (_ :: _) _)) _) _ _ _); refine callWith_md (by with_reducible first | exact fn180 _ | exact fn134 _) ?_))
theorem ret_strV {s : Shared} {R : Result → Shared → Prop} {x : List Nat} {y : Str} {h' : Heap} {t : Tok} {tk : Nat} (hR : Ret s R (StrV x)) (e : x.toArray = y.cps) (k : Ext s.heap h') : R (.ok (.ret (.str y t))) { s with heap := h', toks := tk } :=
  hR _ _ _ ⟨t, by rw [e]⟩ k
noncomputable def lawFoldL (P : Params) (n : Nat) (held : Bool) : List Nat := if held then [n] else if n < 128 then [if 65 ≤ n ∧ n ≤ 90 then n + 32 else n] else (foldS P n).cps.toList
theorem law_fold {w : World} {d u : Nat} {fr : Option (List Env)} {gd : Option (List Code)} {R : Result → Shared → Prop} {s : Shared} (m : Md w s.heap) (hd : d + 1 < recursionLimit) (n : Nat) (hn : n < 1114112) (b : Bool) (t : Tok)
    (hR : Ret s R (StrV (lawFoldL w.params n b))) : codeAny (model prog w) (Ar d fr gd u) (.call (.ref 303) ⟨[.int n t, .bool b], []⟩) R s := by
  refine call_plain (binds := [("code", .int n t), ("held", .bool b)]) (show d < recursionLimit by omega) (m _ _ (at303 _)) (by rfl) m.nolimit (m.codeRec (at302 _) (by rfl) (by rfl)) (by rfl) (locs (by rfl)) ?_
  intro h₁ F
  have N : News s.heap s.heap.objs.size h₁ [] := News.nil
  repeat' (first
    | walk1
    | (dsimp only; walk1)
    | exact Md.ext m (Fr.keep (by assumption))
    | (refine wpAny_call (map_table_b3 (Md.ext m (Fr.keep (by assumption))) (show d + 1 < recursionLimit by omega) _ _ ?_); rintro v h' tk ⟨t', hv⟩ hk; subst hv; (have F' := fr_ext (by assumption) hk); (have N' := news_ext (by assumption) hk); dsimp only))
  all_goals try dsimp only
  all_goals refine ret_strV hR ?_ (Fr.keep (by assumption))
  all_goals clear hR
  · unfold lawFoldL; simp_all
  · unfold lawFoldL; rw [if_neg (by simp_all), if_pos (by omega), if_pos (by omega)]; simp; omega
  · unfold lawFoldL; rw [if_neg (by simp_all), if_pos (by omega), if_neg (by omega)]; simp
  · unfold lawFoldL; rw [if_neg (by simp_all), if_pos (by omega), if_neg (by omega)]; simp
  · unfold lawFoldL; rw [if_neg (by simp_all), if_neg (by omega)]; simp
def figL (n : Nat) (sg : List Nat) : List Nat := (List.range 6).map fun k => sg.getD (n / 16 ^ (5 - k) % 16) 0
theorem txt_item {x : List Nat} {i : Int} (h0 : 0 ≤ i) (h1 : i < x.length) : Txt.item (strL x) i = ⟨#[x.getD i.toNat 0]⟩ := by
  have hl : i.toNat < x.length := by omega
  have e : seqIndex? i (strL x).length = some i.toNat := by
    unfold seqIndex?
    show (if _ then _ else _) = _
    simp [strL, Str.length]
    omega
  unfold Txt.item Txt.charAt
  rw [e]
  simp [strL, List.getD_eq_getElem?_getD]
theorem fig_idx (n k : Nat) (hk : k ≤ 5) : (((n : Int).fdiv ((16 : Int) ^ ((5 : Int) - (k : Int)).toNat)).fmod 16).toNat = n / 16 ^ (5 - k) % 16 ∧ 0 ≤ ((n : Int).fdiv ((16 : Int) ^ ((5 : Int) - (k : Int)).toNat)).fmod 16 ∧ ((n : Int).fdiv ((16 : Int) ^ ((5 : Int) - (k : Int)).toNat)).fmod 16 < 16 := by
  have e1 : ((5 : Int) - (k : Int)).toNat = 5 - k := by omega
  have e2 : ((16 : Int) ^ (5 - k)) = ((16 ^ (5 - k) : Nat) : Int) := by simp
  rw [e1, e2, Int.fdiv_eq_ediv_of_nonneg _ (Int.natCast_nonneg _), Int.fmod_eq_emod_of_nonneg _ (by decide), ← Int.natCast_ediv]
  generalize n / 16 ^ (5 - k) = r
  omega
theorem item_strL {w : World} {A : Around} {E : Value → Shared → Prop} {s : Shared} {x : List Nat} {i : Int} {t u : Tok} {value slice : PySem.Expr} {Q : Value → Shared → Prop} (h0 : 0 ≤ i) (h1 : i < x.length) (hz : x.length < 1000000)
    (h : ∀ t', Q (.str ⟨#[x.getD i.toNat 0]⟩ t') { s with toks := s.toks + 1 })
    (hs : subscripted slice false (.str (strL x) t) (.int i u) = operate [.str (strL x) t, .int i u] (getItem (.str (strL x) t) (.int i u)))
    (ht : ∀ r, letTemporaryGo value (.str (strL x) t) r = pure ()) :
    wpAny (model prog w) A (subscriptTail value slice (.str (strL x) t) (.int i u)) Q E s := by
  refine tail_of_ItemOn (SBL.item (by omega) (by simpa [strL, Str.length] using h1) (by show ((x.toArray.size : Nat) : Int) < _; simp; omega) fun _ => ?_) hs ht
  rw [txt_item h0 h1]
  exact h _
theorem law_figures {w : World} {d u : Nat} {fr : Option (List Env)} {gd : Option (List Code)} {R : Result → Shared → Prop} {s : Shared} (m : Md w s.heap) (hd : d + 1 < recursionLimit) (n : Nat) (hn : n < 1114112) (sg : List Nat) (hs : sg.length = 16) (t t1 : Tok)
    (hR : Ret s R (StrV (37 :: figL n sg))) : codeAny (model prog w) (Ar d fr gd u) (.call (.ref 296) ⟨[.int n t, .str (strL sg) t1], []⟩) R s := by
  refine call_cellsN_ret (binds := [("code", .int n t), ("signs", .str (strL sg) t1)]) (show d < recursionLimit by omega) (m _ _ (at296 _)) (by rfl) m.nolimit (m.codeRec (at295 _) (by rfl) (by rfl)) (by rfl) (kinds_of (by kinds_ok)) (by decide) fun h₁ tk₁ cells F N0 X0 => ?_
  cells_open X0
  repeat' ((fail_if_success (with_reducible show wpAny _ _ (eval (Expr.ListComp _ _ _ _) _) _ _ _)); first
    | walk1
    | (dsimp only; walk1))
  (with_reducible apply LC (as := List.range 6) (rel := fun k v => IntV (k : Int) v) (out := fun k v => StrV [sg.getD (n / 16 ^ (5 - k) % 16) 0] v) (pz := fun _ => true)); (case hf => exact intV_fun fun a b e => Int.ofNat.inj e); (case hlen => show 6 ≤ sizeLine; decide); (case hs => intro _; with_unfolding_all rfl); (case hclos => with_unfolding_all rfl); (case hcell => decide); (case hkind => with_unfolding_all rfl); (case hnames => decide); (case hx => with_unfolding_all rfl)
  refine wpAny_rangePack ?_
  repeat' ((fail_if_success (with_reducible show RangePack _)); first | walk1 | (dsimp only; walk1))
  rename IsRange _ _ _ _ _ _ _ _ => R'; rename Fr _ _ _ (bindL _ _ _) => F'; rename News _ _ _ _ => N'
  refine RangePack.intro ⟨src_range (n := 6) rfl R' (by decide) (by decide), tests_nil, ?_, ?_⟩
  · rintro C a v s₂ m₂ E' ha ⟨ta, rfl⟩ - hns hm hk
    have Fk := F'.keep
    have hra : a = 0 ∨ a = 1 ∨ a = 2 ∨ a = 3 ∨ a = 4 ∨ a = 5 := by simp at ha; omega
    rcases hra with rfl | rfl | rfl | rfl | rfl | rfl
    all_goals
      repeat' (first | walk1 | (dsimp only; walk1))
    all_goals try exact Int.le_refl _
    all_goals first | (refine item_strL (fig_idx n _ (by decide)).2.1 (by rw [hs]; exact (fig_idx n _ (by decide)).2.2) (by omega) (fun t' => ?_) (by with_unfolding_all rfl) (by intro _; with_unfolding_all rfl)) | skip
    all_goals exact ⟨⟨_, congrArg (fun z => Value.str ⟨#[sg.getD z 0]⟩ _) (fig_idx n _ (by decide)).1⟩, _, _, rfl, fun _ _ e => e⟩
  · intro D ys h' tk hk hD hpl hys
    have F9 := fr_ext (by assumption) hk
    have N9 := news_ext (by assumption) hk
    rw [filter_true] at hys
    replace hys := paired_map (f := fun k => [sg.getD (n / 16 ^ (5 - k) % 16) 0]) hys
    try dsimp only
    repeat' (first
      | walk1
      | (dsimp only; walk1)
      | (refine join_strs hpl.isList hys (by show 6 * 1 + 6 ≤ 1048576; decide) (fun t' k => ?_))
      | (rw [pct_eq]; refine add_strL (by show 1 + 6 ≤ 1048576; decide) (fun t' k => ?_)))
    try dsimp only
    refine ret_strV hR ?_ (Fr.keep (by assumption))
    rfl
end Mine
end
section
open PySem PySem.W PyProof.Rows PySem.Builtin
namespace Mine
local macro_rules | `(tactic| walk_at "x") => `(tactic| skip)
local macro_rules | `(tactic| walk_at "eval Name") => `(tactic| ((with_reducible show wpAny _ _ (eval (Expr.Name _ _) _) _ _ _); first
  | (refine ldg (by (first | assumption | exact Md.ext (by assumption) (Fr.keep (by assumption)))) (by with_reducible first | exact g_b3f _ | exact g_f1 _) ?_)))
local macro_rules | `(tactic| walk_at "callWith ref") => `(tactic| ((with_reducible show wpAny _ _ (callWith _ (Value.ref _) [] (backTo _ (starEach (_ :: _) _)) _) _ _ _); refine callWith_md (by with_reducible first | exact fn180 _ | exact fn134 _) ?_))
theorem signV_fun : ∀ a b v, SignV a v → SignV b v → a = b := by
  rintro a b v ⟨t, rfl⟩ ⟨t', e⟩
  injection e with e1 e2
  injection e1 with e1
  simpa using e1
theorem fold_len (P : Params) (n : Nat) : (foldS P n).cps.toList.length ≤ 4 := by
  have hk : (dictEs (o187 P)).all (fun e => Nat.ble (strOf e.val).cps.toList.length 4) = true := by kernel_rfl
  unfold foldS
  cases h : b3V P n with
  | none => exact Nat.le_trans (show (Txt.lower ⟨#[n]⟩).length ≤ 3 * 1 from len_lower ⟨#[n]⟩) (by decide)
  | some v =>
    unfold b3V at h
    rw [Option.map_eq_some_iff] at h
    obtain ⟨e, h1, rfl⟩ := h
    exact Nat.le_of_ble_eq_true (List.all_eq_true.mp hk e (List.mem_of_find?_eq_some h1))
noncomputable def prepL (P : Params) (x : List Nat) : List Nat := (x.filter fun n : Nat => !b1S P n).flatMap fun n => (foldS P n).cps.toList
theorem sum_le_mul {α : Type} {f : α → Nat} {c : Nat} (h : ∀ a, f a ≤ c) : ∀ l : List α, (l.map f).sum ≤ c * l.length
  | [] => by simp
  | a :: l => by
    rw [List.map_cons, List.sum_cons, List.length_cons, Nat.mul_succ]
    have := sum_le_mul h l
    have := h a
    omega
theorem law_prepared {w : World} {d u : Nat} {fr : Option (List Env)} {gd : Option (List Code)} {R : Result → Shared → Prop} {s : Shared} (m : Md w s.heap) (hd : d + 1 < recursionLimit) (x : List Nat) (hx : x.length ≤ 10000) (t : Tok)
    (hR : Ret s R (StrV (prepL w.params x))) : codeAny (model prog w) (Ar d fr gd u) (.call (.ref 308) ⟨[.str (strL x) t], []⟩) R s := by
  refine call_plain (binds := [("text", .str (strL x) t)]) (show d < recursionLimit by omega) (m _ _ (at308 _)) (by rfl) m.nolimit (m.codeRec (at307 _) (by rfl) (by rfl)) (by rfl) (locs (by rfl)) ?_
  intro h₁ F
  have N : News s.heap s.heap.objs.size h₁ [] := News.nil
  repeat' ((fail_if_success (with_reducible show wpAny _ _ (eval (Expr.ListComp _ _ _ _) _) _ _ _)); first
    | walk1
    | (dsimp only; walk1))
  (with_reducible apply LC (cl := []) (as := x) (rel := SignV) (out := fun n v => StrV (foldS w.params n).cps.toList v) (pz := fun n => !b1S w.params n)); (case hf => exact signV_fun); (case hlen => exact Nat.le_trans hx (by decide)); (case hs => intro _; with_unfolding_all rfl); (case hclos => with_unfolding_all rfl); (case hcell => decide); (case hkind => with_unfolding_all rfl); (case hnames => decide); (case hx => with_unfolding_all rfl)
  repeat' ((fail_if_success (with_reducible show _ ∧ _)); first | walk1 | (dsimp only; walk1))
  try dsimp only
  refine ⟨src_str rfl, ?_, ?_, ?_⟩
  · rintro C a v s₂ m₂ E' ha ⟨ta, rfl⟩ hns hm hk
    have M2 : Md w s₂.heap := (Md.ext m (Fr.keep (by assumption))).ext hk
    repeat' (first
      | walk1
      | (dsimp only; walk1)
      | exact M2
      | (refine wpAny_call (in_table_b1 M2 (show d + 1 < recursionLimit by omega) _ _ ?_); rintro v h' tk hv hk'; subst hv; dsimp only))
    all_goals first | rfl | exact ⟨_, _, rfl, hk'⟩ | trace_state
  · rintro C a v s₂ m₂ E' ha ⟨ta, rfl⟩ hp hns hm hk
    have M2 : Md w s₂.heap := (Md.ext m (Fr.keep (by assumption))).ext hk
    repeat' (first
      | walk1
      | (dsimp only; walk1)
      | exact M2
      | (refine wpAny_call (map_table_b3 M2 (show d + 1 < recursionLimit by omega) _ _ ?_); rintro v h' tk ⟨t', hv⟩ hk'; subst hv; dsimp only))
    all_goals first | exact ⟨_, rfl⟩ | exact ⟨_, _, rfl, hk'⟩
  · intro D ys h' tk hk hD hpl hys
    have F9 := fr_ext (by assumption) hk
    have N9 := news_ext (by assumption) hk
    replace hys := paired_map hys
    try dsimp only
    repeat' (first
      | walk1
      | (dsimp only; walk1)
      | (refine join_strs hpl.isList hys ?_ (fun t' k => ?_)))
    · rw [List.map_map, List.length_map]
      have h1 := sum_le_mul (f := List.length ∘ fun n => (foldS w.params n).cps.toList) (fun a => fold_len w.params a) (x.filter fun n : Nat => !b1S w.params n)
      have h2 := List.length_filter_le (fun n : Nat => !b1S w.params n) x
      omega
    · dsimp only
      refine ret_strV hR ?_ (Fr.keep (by assumption))
      unfold prepL
      rw [List.flatMap_def]
      rfl
end Mine
end
section
open PySem PySem.W PyProof.Rows PySem.Builtin
namespace Mine
theorem plainAttrs_Pattern : PlainAttrs "re.Pattern" :=
  ⟨⟨"object.__getattribute__", by rw [typeLookup_type, builtinLookup_eq_fast]; kernel_rfl, by decide +kernel⟩, by rw [typeLookup_type, builtinLookup_eq_fast]; kernel_rfl⟩
theorem owner_Pattern : Manifest.owners.lookup (String.ofList ['n', 'r', 'e', 't', 't', 'a', 'P', '.', 'e', 'r'].reverse) = some Manifest.sig_re_Pattern := by kernel_rfl
theorem slot_Pattern_search : Slot "re.Pattern" "search" "re.Pattern.search" :=
  .of (owner := "re.Pattern") (n := "search") (by rw [typeLookup_type, builtinLookup_eq_fast]; kernel_rfl) (by decide +kernel) (by decide +kernel) (by decide +kernel)
    (by first | exact .inl (by decide +kernel) | exact .inr (by decide +kernel)) (by rw [isSubtype_type]; kernel_rfl)
theorem type_Pattern_search : typeOf (.builtin "re.Pattern.search") = pure (.type "method_descriptor") := by show builtinType _ = _; rw [builtinType_eq_fast]; kernel_rfl
theorem entry_Pattern_search : entryFor table "re.Pattern.search" = some Builtin.«re.Pattern.search» := entryFor_of_tree (by kernel_rfl)
theorem args_Pattern_search_2 (a b : Value) : argsOk "re.Pattern.search" ⟨[a, b], []⟩ := by
  unfold argsOk; rw [signature?_of (id := "re.Pattern.search") (n := ['h', 'c', 'r', 'a', 'e', 's']) (o := ['n', 'r', 'e', 't', 't', 'a', 'P', '.', 'e', 'r']) (by kernel_rfl) owner_Pattern]; kernel_rfl
/-! the machine of the pattern -/
def reCode : Array Nat := #[14, 12, 4, 1, 1, 21, 22, 48, 57, 22, 65, 70, 0, 13, 9, 21, 22, 48, 57, 22, 65, 70, 0, 1]
def isHexU (c : Nat) : Bool := (48 ≤ c && c ≤ 57) || (65 ≤ c && c ≤ 70)
open Sre in
theorem inSet_hex {c : Nat} (hc : isHexU c = true) (seen : Sre.Seen) : ∃ seen', inSet reCode c reCode.size 5 true seen = .ok (false, seen') := by
  unfold isHexU at hc
  cases h1 : (decide (48 ≤ c) && decide (c ≤ 57)) with
  | true => exact ⟨_, if_pos h1⟩
  | false =>
    rw [h1, Bool.false_or] at hc
    exact ⟨_, (if_neg (show ¬ (decide (48 ≤ c) && decide (c ≤ 57)) = true by rw [h1]; decide)).trans (if_pos hc)⟩
open Sre in
theorem admitted_none (m : M) (hc : m.code = reCode) (ht : ∀ i, i < m.lim → isHexU (m.text.getD i 0) = true) : ∀ (fuel s : Nat) (seen : Sre.Seen), ∃ seen', m.admitted fuel s seen = .ok (none, seen')
  | 0, s, seen => ⟨seen, rfl⟩
  | fuel + 1, s, seen => by
    unfold M.admitted
    by_cases h : s ≥ m.lim
    · exact ⟨seen, by rw [if_pos h]⟩
    · rw [if_neg h, hc]
      obtain ⟨s1, e1⟩ := inSet_hex (ht s (by omega)) seen
      rw [e1]
      exact admitted_none m hc ht fuel (s + 1) s1
open Sre in
theorem drive_end (k : Nat) (m : M) (h1 : m.outcome = none) (h2 : m.answer = some false) (h3 : m.frames = []) : Re.reDrive (k + 1) m = pure { m with outcome := some .failed } := by
  have e : m.runFor Re.reTurnSteps = { m with outcome := some .failed } := by
    show M.runFor 4 m = _
    obtain ⟨_, _, _, _, _, _, _, _, _, _, _, _, _, _, _, _, frames, _, answer, _, outcome⟩ := m
    cases h1; cases h2; cases h3
    rfl
  unfold Re.reDrive
  rw [e]
  rfl
open Sre in
theorem search_runs (text : Array Nat) (ht : ∀ i, i < text.size → isHexU (text.getD i 0) = true) (h1 : 0 < text.size) :
    ∃ m : M, Re.reDrive (2 ^ 64) (forSearch reCode text 0 0 text.size false) = pure m ∧ m.outcome = some .failed := by
  have e : ∃ m0 : M, m0.code = reCode ∧ m0.text = text ∧ m0.lim = text.size ∧ m0.frames = [] ∧ m0.outcome = none ∧ forSearch reCode text 0 0 text.size false = m0.attemptFrom 0 true := by
    refine ⟨?m, ?a, ?b, ?c, ?d, ?f, ?e⟩
    case e =>
      unfold forSearch
      dsimp only
      rw [if_neg (by show ¬ ((decide (0 > text.size) || decide (text.size - 0 < 1)) = true); intro h; simp only [Bool.or_eq_true, decide_eq_true_eq] at h; omega)]
    all_goals rfl
  obtain ⟨m0, a, b, c, d, f, e⟩ := e
  rw [e]
  obtain ⟨s1, e1⟩ := admitted_none m0 a (by rw [b, c]; exact ht) (m0.lim + 1 - 0) 0 m0.seen
  have e2 : m0.attemptFrom 0 true = { m0 with seen := s1, answer := some false } := by
    unfold M.attemptFrom
    rw [if_neg (by unfold M.hasFirstSet; rw [a]; decide), e1]
    rfl
  rw [e2, show (2 ^ 64 : Nat) = 18446744073709551615 + 1 from rfl]
  refine ⟨_, drive_end _ _ ?_ ?_ ?_, rfl⟩
  · exact f
  · rfl
  · exact d
section
variable {M : Model} {A : Around} {E : Value → Shared → Prop} {s : Shared}
theorem rules_loop {c : Nat → Bool} {x : Nat → String} : ∀ (l : List Nat) {Q : PUnit → Shared → Prop}, Q PUnit.unit s → wpAny M A (forIn l PUnit.unit fun i _ => if c i = true then (do rule (x i); pure (ForInStep.yield PUnit.unit)) else pure (ForInStep.yield PUnit.unit)) Q E s
  | [], Q, h => wpAny_pure h
  | i :: l, Q, h => by
    rw [List.forIn_cons]
    refine wpAny_bind ?_
    cases c i with
    | true =>
      rw [if_pos rfl]
      exact wpAny_bind (wpAny_rule (wpAny_pure (rules_loop l h)))
    | false =>
      rw [if_neg (by decide)]
      exact wpAny_pure (rules_loop l h)
theorem wp_runToEnd {m m' : Sre.M} {Q : Option Sre.M → Shared → Prop} (h1 : Re.reDrive (2 ^ 64) m = pure m') (h2 : m'.outcome = some .failed) (h : Q none s) : wpAny M A (Re.reRunToEnd m) Q E s := by
  unfold Re.reRunToEnd
  rw [h1]
  refine wpAny_bind (wpAny_pure ?_)
  refine wpAny_bind (rules_loop _ ?_)
  rw [h2]
  exact wpAny_pure h
end
theorem named_eq (v : Value) : Re.reNamed "re.Pattern.search" "search" ["string", "pos", "endpos"] 1 [v] [] = pure [some v, none, none] := by kernel_rfl
theorem textOf_eq (b : Array UInt8) (t : Tok) : Re.reTextOf (.bytes b t) = pure (b.map (·.toNat), 1) := by
  unfold Re.reTextOf
  rw [show asStr? (.bytes b t) = pure none by rfl]
  show (Bytes.bufferQuiet? "_sre" (.bytes b t) >>= _) = _
  rw [KBy.quiet_eq]
  rfl
section
variable {w : World} {A : Around} {E : Value → Shared → Prop} {s : Shared}
theorem pattern_search {b : Array UInt8} {t : Tok} {Q : Value → Shared → Prop} (m : Md w s.heap) (hb : ∀ i, i < b.size → isHexU (b.getD i 0).toNat = true) (h0 : 0 < b.size) (h1 : b.size ≤ 1000) (h : Q .none s) :
    wpAny (model prog w) A (call (.builtin "re.Pattern.search") [.ref 43, .bytes b t]) Q E s := by
  refine wpAny_call_entry slot_Pattern_search ⟨_, m _ _ (at43 _), rfl⟩ entry_Pattern_search ?_ (args_Pattern_search_2 _ _)
  show wpAny _ _ (Re.reTarget "re.Pattern.search" "search" ⟨[.ref 43, .bytes b t], []⟩ >>= _) _ _ _
  refine wpAny_bind ?_
  unfold Re.reTarget
  dsimp only
  rw [named_eq]
  refine wpAny_bind (wpAny_pure ?_)
  refine wpAny_bind (wpAny_pure ?_)
  refine wpAny_bind (wpAny_pure ?_)
  refine wpAny_bind ?_
  unfold fieldsOf
  refine wpAny_bind (wpAny_load (m _ _ (at43 _)) (wpAny_pure ?_))
  rw [textOf_eq]
  refine wpAny_bind (wpAny_pure ?_)
  dsimp only
  rw [if_neg (by decide), if_neg (by decide)]
  refine wpAny_bind ?_
  unfold Re.reNoCollectionInside
  rw [if_pos (by decide), KBy.isInstance_eq]
  refine wpAny_bind (wpAny_pure ?_)
  refine wpAny_pure ?_
  refine wpAny_bind ?_
  unfold Re.reRawItems
  refine wpAny_bind (wpAny_seqItems (m _ _ (at42 _)) rfl (wpAny_pure ?_))
  refine wpAny_pure ?_
  have ht : ∀ i, i < (b.map (·.toNat)).size → isHexU ((b.map (·.toNat)).getD i 0) = true := fun i hi => by
    rw [Array.size_map] at hi
    have := hb i hi
    rw [Array.getD_eq_getD_getElem?] at this ⊢
    rw [Array.getElem?_map]
    rw [Array.getElem?_eq_getElem hi] at this ⊢
    exact this
  obtain ⟨m1, e1, e2⟩ := search_runs (b.map (·.toNat)) ht (by rw [Array.size_map]; exact h0)
  unfold Re.reAnswer
  dsimp only
  have hl : min ((2 ^ 63 - 1 : Int).toNat) (b.map (·.toNat)).size = (b.map (·.toNat)).size := by
    rw [Array.size_map]; omega
  refine wpAny_bind (wp_runToEnd (m' := m1) ((congrArg (Re.reDrive (2 ^ 64)) ?_).trans e1) e2 ?_)
  · congr 1
    decide +kernel
  · exact wpAny_pure ⟨_, rfl, h⟩
end
end Mine
end
section
open PySem PySem.W PyProof.Rows PySem.Builtin
namespace Mine
theorem n_isinstance (w : World) : mgl w "isinstance" = none := by kernel_rfl
theorem b_isinstance (w : World) : mbl w "isinstance" = some (.builtin "isinstance") := by kernel_rfl
theorem n_str (w : World) : mgl w "str" = none := by kernel_rfl
theorem b_str (w : World) : mbl w "str" = some (.type "str") := by kernel_rfl
theorem n_len (w : World) : mgl w "len" = none := by kernel_rfl
theorem b_len (w : World) : mbl w "len" = some (.builtin "len") := by kernel_rfl
theorem g_abuf (w : World) : mgl w "_ascii_buffer" = some (.ref 71) := by kernel_rfl
theorem g_hexv (w : World) : mgl w "_hex_value" = some (.ref 94) := by kernel_rfl
theorem g_bfdd (w : World) : mgl w "_bytes_from_decode_data" = some (.ref 51) := by kernel_rfl
theorem g_twin (w : World) : mgl w "_twin_re_1" = some (.ref 43) := by kernel_rfl
theorem g_unhex (w : World) : mgl w "unhexlify" = some (.ref 101) := by kernel_rfl
theorem fn71 (w : World) : FnAt w 71 := fnAt_of (at71 _) (by kernel_rfl)
theorem fn94 (w : World) : FnAt w 94 := fnAt_of (at94 _) (by kernel_rfl)
theorem fn51 (w : World) : FnAt w 51 := fnAt_of (at51 _) (by kernel_rfl)
theorem fn101 (w : World) : FnAt w 101 := fnAt_of (at101 _) (by kernel_rfl)
local macro_rules | `(tactic| walk_at "eval Name") => `(tactic| ((with_reducible show wpAny _ _ (eval (Expr.Name _ _) _) _ _ _); first
  | (refine ldg (by (first | assumption | exact Md.ext (by assumption) (Fr.keep (by assumption)))) (by with_reducible first | exact g_abuf _ | exact g_hexv _ | exact g_bfdd _ | exact g_twin _ | exact g_unhex _) ?_)
  | (refine ldb (by (first | assumption | exact Md.ext (by assumption) (Fr.keep (by assumption)))) (by with_reducible first | exact n_isinstance _ | exact n_str _ | exact n_len _ | exact n_type _ | exact n_bytes _) (by with_reducible first | exact b_isinstance _ | exact b_str _ | exact b_len _ | exact b_type _ | exact b_bytes _) ?_)))
local macro_rules | `(tactic| walk_at "callWith ref") => `(tactic| ((with_reducible show wpAny _ _ (callWith _ (Value.ref _) [] (backTo _ (starEach (_ :: _) _)) _) _ _ _); refine callWith_md (by with_reducible first | exact fn71 _ | exact fn94 _ | exact fn51 _ | exact fn101 _) ?_))
local macro_rules | `(tactic| walk_at "call type:type") => `(tactic| ((with_reducible show wpAny _ _ (call (Value.type "type") [_]) _ _ _); first | refine call_type_of (Tx := "bytes") rfl (by decide +kernel) ?_ | refine call_type_of (Tx := "int") rfl (by decide +kernel) ?_ | refine call_type_of (Tx := "str") rfl (by decide +kernel) ?_))
local macro_rules | `(tactic| walk_at "compareOp Is") => `(tactic| ((with_reducible show wpAny _ _ (compareOp CmpOp.Is (Value.type _) (Value.type _)) _ _ _); first | with_reducible refine is_type ?_ | refine wpAny_is_other (by rfl) (by intro z; exact absurd (Value.type.inj z) (by decide)) ?_))
theorem ascii_buffer {w : World} {d u : Nat} {fr : Option (List Env)} {gd : Option (List Code)} {R : Result → Shared → Prop} {s : Shared} (m : Md w s.heap) (hd : d < recursionLimit) (b : Array UInt8) (t : Tok)
    (hR : Ret s R (fun v => v = .bytes b t)) : codeAny (model prog w) (Ar d fr gd u) (.call (.ref 71) ⟨[.bytes b t], []⟩) R s := by
  refine call_plain (binds := [("data", .bytes b t)]) (show d < recursionLimit by omega) (m _ _ (at71 _)) (by rfl) m.nolimit (m.codeRec (at70 _) (by rfl) (by rfl)) (by rfl) (locs (by rfl)) ?_
  intro h₁ F
  have N : News s.heap s.heap.objs.size h₁ [] := News.nil
  repeat' (first | walk1 | (dsimp only; walk1))
  all_goals (dsimp only; exact hR _ _ _ rfl (Fr.keep (by assumption)))
theorem from_data {w : World} {d u : Nat} {fr : Option (List Env)} {gd : Option (List Code)} {R : Result → Shared → Prop} {s : Shared} (m : Md w s.heap) (hd : d < recursionLimit) {a b c e f g : Nat} (hx : ∀ x ∈ [a, b, c, e, f, g], x < 128) (t : Tok)
    (hR : Ret s R (fun v => ∃ t', v = .bytes ([a, b, c, e, f, g].map (·.toUInt8)).toArray t')) : codeAny (model prog w) (Ar d fr gd u) (.call (.ref 51) ⟨[.str ⟨#[a, b, c, e, f, g]⟩ t], []⟩) R s := by
  refine call_plain (binds := [("s", .str ⟨#[a, b, c, e, f, g]⟩ t)]) (show d < recursionLimit by omega) (m _ _ (at51 _)) (by rfl) m.nolimit (m.codeRec (at50 _) (by rfl) (by rfl)) (by rfl) (locs (by rfl)) ?_
  intro h₁ F
  have N : News s.heap s.heap.objs.size h₁ [] := News.nil
  repeat' (first
    | walk1
    | (dsimp only; walk1)
    | with_reducible refine gm_encode ?_
    | ((with_reducible show wpAny _ _ (call (Value.builtin _) _) _ _ _); refine call_gives PySem.F.slot_str_encode rfl PySem.F.entry_str_encode (PySem.F.args_str_encode_2 _ _) (gives_encode _ _ hx) ⟨by show 6 ≤ sizeLine; decide, ?_⟩))
  all_goals (dsimp only; exact hR _ _ _ ⟨_, rfl⟩ (Fr.keep (by assumption)))
theorem hexv_pos (c : Int) : 0 ≤ hexv c := by unfold hexv; (repeat' split) <;> omega
theorem lt64 {x : Int} (h0 : 0 ≤ x) (h1 : x < 16) : x.natAbs < 2 ^ 64 := by omega
theorem len6 {w : World} {A : Around} {E : Value → Shared → Prop} {s : Shared} {a b c e f g : UInt8} {t : Tok} {Q : Value → Shared → Prop} (h : Q (.int 6 (s.toks + 1)) { s with toks := s.toks + 1 + 1 }) :
    wpAny (model prog w) A (call (.builtin "len") [.bytes #[a, b, c, e, f, g] t]) Q E s := len_bytes (by show 6 ≤ 1099511627776; decide) h
theorem at6 {w : World} {A : Around} {E : Value → Shared → Prop} {s : Shared} {a b c e f g k : UInt8} {t u : Tok} {i : Int} {value slice : PySem.Expr} {Q : Value → Shared → Prop} (n : Nat) (hi : i = (n : Int)) (hk : [a, b, c, e, f, g][n]? = some k)
    (h : Q (.int k.toNat s.toks) { s with toks := s.toks + 1 })
    (hs : subscripted slice false (.bytes #[a, b, c, e, f, g] t) (.int i u) = operate [.bytes #[a, b, c, e, f, g] t, .int i u] (getItem (.bytes #[a, b, c, e, f, g] t) (.int i u)))
    (ht : ∀ r, letTemporaryGo value (.bytes #[a, b, c, e, f, g] t) r = pure ()) :
    wpAny (model prog w) A (subscriptTail value slice (.bytes #[a, b, c, e, f, g] t) (.int i u)) Q E s := by
  have hn : n < 6 := by
    rcases Nat.lt_or_ge n 6 with h | h
    · exact h
    · rw [List.getElem?_eq_none (show [a, b, c, e, f, g].length ≤ n from h)] at hk; cases hk
  refine bytes_item_K (x := [a, b, c, e, f, g]) (by show 6 ≤ 1099511627776; decide) (by omega) (by show i < (6 : Nat); omega) ?_ h hs ht
  rw [hi, List.getD_eq_getElem?_getD, Int.toNat_natCast, hk]
  rfl
theorem a2b_hex {w : World} {d u : Nat} {fr : Option (List Env)} {gd : Option (List Code)} {R : Result → Shared → Prop} {s : Shared} (m : Md w s.heap) (hd : d + 1 < recursionLimit) {a b c e f g : UInt8}
    (ha : hexv a.toNat < 16) (hb : hexv b.toNat < 16) (hc : hexv c.toNat < 16) (he : hexv e.toNat < 16) (hf : hexv f.toNat < 16) (hg : hexv g.toNat < 16) (t : Tok)
    (hR : Ret s R (fun v => ∃ t', v = .bytes (([hexv a.toNat * 16 + hexv b.toNat, hexv c.toNat * 16 + hexv e.toNat, hexv f.toNat * 16 + hexv g.toNat] : List Int).map fun n => n.toNat.toUInt8).toArray t')) :
    codeAny (model prog w) (Ar d fr gd u) (.call (.ref 101) ⟨[.bytes [a, b, c, e, f, g].toArray t], []⟩) R s := by
  refine call_plain (binds := [("hexstr", .bytes [a, b, c, e, f, g].toArray t)]) (show d < recursionLimit by omega) (m _ _ (at101 _)) (by rfl) m.nolimit (m.codeRec (at100 _) (by rfl) (by rfl)) (by rfl) (locs (by rfl)) ?_
  intro h₁ F
  have N : News s.heap s.heap.objs.size h₁ [] := News.nil
  repeat' ((fail_if_success (with_reducible show wpAny _ _ (exec (Stmt.While _ _ _ _) _) _ _ _)); first
    | walk1
    | (dsimp only; walk1)
    | exact Md.ext m (Fr.keep (by assumption))
    | ((with_reducible show wpAny _ _ (call (Value.builtin "len") _) _ _ _); refine len6 ?_)
    | ((with_reducible show wpAny _ _ (call (Value.ref 71) _) _ _ _); refine wpAny_call (ascii_buffer (Md.ext m (Fr.keep (by assumption))) (show d + 1 < recursionLimit from hd) _ _ ?_); intro v h' tk hv hk; subst hv; (have F' := fr_ext (by assumption) hk); (have N' := news_ext (by assumption) hk); dsimp only))
  have pa := hexv_pos a.toNat; have pb := hexv_pos b.toNat; have pc := hexv_pos c.toNat; have pe := hexv_pos e.toNat; have pf := hexv_pos f.toNat; have pg := hexv_pos g.toNat
  refine whl_start 4 (whl_turn (by passes_own) ?_)
  repeat' (first
    | ((with_reducible show wpAny _ _ (eval (Expr.Name (Str.ofString "Error") _) _) _ _ _); exfalso; omega)
    | ((with_reducible show wpAny _ _ (binaryOp Operator.LShift (Value.int _ _) (Value.int _ _)) _ _ _); refine lshift_int_small (by decide) (by decide) (lt64 (by assumption) (by assumption)) ?_)
    | walk1
    | (dsimp only; walk1)
    | exact Md.ext m (Fr.keep (by assumption))
    | ((with_reducible show wpAny _ _ (subscriptTail _ _ _ _) _ _ _); first | refine at6 0 (by decide) rfl ?_ (by with_unfolding_all rfl) (by intro _; with_unfolding_all rfl) | refine at6 1 (by decide) rfl ?_ (by with_unfolding_all rfl) (by intro _; with_unfolding_all rfl) | refine at6 2 (by decide) rfl ?_ (by with_unfolding_all rfl) (by intro _; with_unfolding_all rfl) | refine at6 3 (by decide) rfl ?_ (by with_unfolding_all rfl) (by intro _; with_unfolding_all rfl) | refine at6 4 (by decide) rfl ?_ (by with_unfolding_all rfl) (by intro _; with_unfolding_all rfl) | refine at6 5 (by decide) rfl ?_ (by with_unfolding_all rfl) (by intro _; with_unfolding_all rfl))
    | ((with_reducible show wpAny _ _ (call (Value.ref 94) _) _ _ _); refine wpAny_call (hex_value (Md.ext m (Fr.keep (by assumption))) (show d + 1 < recursionLimit from hd) _ _ ?_); rintro v h' tk ⟨t', hv⟩ hk; subst hv; (have F' := fr_ext (by assumption) hk); (have N' := news_ext (by assumption) hk); clear hk; (((rename Fr _ _ _ _ => F'); (rename News _ _ _ _ => N'); revert F' N'; (repeat (rename Fr _ _ _ _ => z'; clear z')); (repeat (rename News _ _ _ _ => z'; clear z')); intro F' N')); dsimp only))
  refine bytes_K (by assumption) (by assumption) (by is_list) (by l_intsC) (fun z hz => ?_) (by show 3 ≤ sizeLine; decide) rfl (fun h' t k F' N' _ => ?_)
  · simp only [List.mem_cons, List.not_mem_nil, or_false] at hz
    rw [show (2 : Int) ^ Int.toNat 4 = 16 by decide] at hz
    rcases hz with rfl | rfl | rfl <;> omega
  · dsimp only
    exact hR _ _ _ ⟨_, rfl⟩ (Fr.keep (by assumption))
end Mine
end
section
open PySem PySem.W PyProof.Rows PySem.Builtin
namespace Mine
local macro_rules | `(tactic| walk_at "eval Name") => `(tactic| ((with_reducible show wpAny _ _ (eval (Expr.Name _ _) _) _ _ _); first
  | (refine ldg (by (first | assumption | exact Md.ext (by assumption) (Fr.keep (by assumption)))) (by with_reducible first | exact g_abuf _ | exact g_hexv _ | exact g_bfdd _ | exact g_twin _ | exact g_unhex _) ?_)))
local macro_rules | `(tactic| walk_at "callWith ref") => `(tactic| ((with_reducible show wpAny _ _ (callWith _ (Value.ref _) [] (backTo _ (starEach (_ :: _) _)) _) _ _ _); refine callWith_md (by with_reducible first | exact fn71 _ | exact fn94 _ | exact fn51 _ | exact fn101 _) ?_))
def upB (cf : Bool) (c : Nat) : UInt8 := if cf then Bytes.toUpper c.toUInt8 else c.toUInt8
def decB (cf : Bool) (a b : Nat) : Int := hexv (upB cf a).toNat * 16 + hexv (upB cf b).toNat
theorem hexv_lt {c : Nat} (h : isHexU c = true) : hexv c < 16 := by
  unfold isHexU at h; simp at h; unfold hexv; (repeat' split) <;> omega
theorem b16decode {w : World} {d u : Nat} {fr : Option (List Env)} {gd : Option (List Code)} {R : Result → Shared → Prop} {s : Shared} (m : Md w s.heap) (hd : d + 2 < recursionLimit) {a b c e f g : Nat} (cf : Bool)
    (hx : ∀ x ∈ [a, b, c, e, f, g], x < 128) (hu : ∀ x ∈ [a, b, c, e, f, g], isHexU (upB cf x).toNat = true) (t : Tok)
    (hR : Ret s R (fun v => ∃ t', v = .bytes (([decB cf a b, decB cf c e, decB cf f g] : List Int).map fun n => n.toNat.toUInt8).toArray t')) :
    codeAny (model prog w) (Ar d fr gd u) (.call (.ref 116) ⟨[.str ⟨#[a, b, c, e, f, g]⟩ t, .bool cf], []⟩) R s := by
  refine call_dflt (binds := [("s", .str ⟨#[a, b, c, e, f, g]⟩ t), ("casefold", .bool cf)]) (dV := .ref 109) (show d < recursionLimit by omega) (m _ _ (at116 _)) (by rfl) m.nolimit (m.codeRec (at115 _) (by rfl) (by rfl)) ?_ (locs (by rfl)) ?_
  · refine wpAny_bind (wpAny_pure ?_)
    refine wpAny_bind (wpAny_seqItems (m _ _ (at109 _)) rfl ?_)
    exact wpAny_pure ⟨rfl, rfl⟩
  intro h₁ F
  have N : News s.heap s.heap.objs.size h₁ [] := News.nil
  have base : ∀ i, i < ([a, b, c, e, f, g].map (upB cf)).toArray.size → isHexU ((([a, b, c, e, f, g].map (upB cf)).toArray).getD i 0).toNat = true := by
    intro i hi
    have hi6 : i < 6 := hi
    have : i = 0 ∨ i = 1 ∨ i = 2 ∨ i = 3 ∨ i = 4 ∨ i = 5 := by omega
    rcases this with rfl | rfl | rfl | rfl | rfl | rfl
    · exact hu a (by simp)
    · exact hu b (by simp)
    · exact hu c (by simp)
    · exact hu e (by simp)
    · exact hu f (by simp)
    · exact hu g (by simp)
  have hva := hexv_lt (hu a (by simp)); have hvb := hexv_lt (hu b (by simp)); have hvc := hexv_lt (hu c (by simp)); have hve := hexv_lt (hu e (by simp)); have hvf := hexv_lt (hu f (by simp)); have hvg := hexv_lt (hu g (by simp))
  cases cf
  all_goals
    repeat' (first
      | walk1
      | (dsimp only; walk1)
      | exact Md.ext m (Fr.keep (by assumption))
      | with_reducible refine gm_upper ?_
      | ((with_reducible show wpAny _ _ (getMethod (Value.ref 43) _ _) _ _ _); refine getMethod_builtin (T := "re.Pattern") ⟨_, Md.ext m (Fr.keep (by assumption)) _ _ (at43 _), rfl⟩ plainAttrs_Pattern slot_Pattern_search type_Pattern_search (fun _ q => by cases q; exact ⟨_, Md.ext m (Fr.keep (by assumption)) _ _ (at43 _), rfl⟩) ?_)
      | ((with_reducible show wpAny _ _ (call (Value.builtin "bytes.upper") _) _ _ _); refine call_gives slot_bytes_upper rfl entry_bytes_upper (args_bytes_upper_1 _) (gives_upper _ _) ⟨by show 6 ≤ sizeLine; decide, ?_⟩)
      | ((with_reducible show wpAny _ _ (call (Value.builtin "re.Pattern.search") _) _ _ _); refine pattern_search (Md.ext m (Fr.keep (by assumption))) base (by show 0 < 6; decide) (by show 6 ≤ 1000; decide) ?_)
      | ((with_reducible show wpAny _ _ (call (Value.ref 51) _) _ _ _); refine wpAny_call (from_data (Md.ext m (Fr.keep (by assumption))) (show d + 1 < recursionLimit by omega) hx _ ?_); rintro v h' tk ⟨t', hv⟩ hk; subst hv; (have F' := fr_ext (by assumption) hk); (have N' := news_ext (by assumption) hk); dsimp only)
      | ((with_reducible show wpAny _ _ (call (Value.ref 101) _) _ _ _); refine wpAny_call (a2b_hex (Md.ext m (Fr.keep (by assumption))) (show (d + 1) + 1 < recursionLimit by omega) hva hvb hvc hve hvf hvg _ ?_); rintro v h' tk ⟨t', hv⟩ hk; subst hv; (have F' := fr_ext (by assumption) hk); (have N' := news_ext (by assumption) hk); dsimp only))
  all_goals ((try dsimp only); exact hR _ _ _ ⟨_, rfl⟩ (Fr.keep (by assumption)))
end Mine
end
section
open PySem PySem.W PyProof.Rows PySem.Builtin
namespace Mine
theorem g_dec (w : World) : mgl w "b16decode" = some (.ref 116) := by kernel_rfl
theorem fn116 (w : World) : FnAt w 116 := fnAt_of (at116 _) (by kernel_rfl)
local macro_rules | `(tactic| walk_at "eval Name") => `(tactic| ((with_reducible show wpAny _ _ (eval (Expr.Name _ _) _) _ _ _); first
  | (refine ldg (by (first | assumption | exact Md.ext (by assumption) (Fr.keep (by assumption)))) (by with_reducible first | exact g_dec _) ?_)
  | (refine ldb (by (first | assumption | exact Md.ext (by assumption) (Fr.keep (by assumption)))) (by with_reducible first | exact n_len _ | exact n_type _ | exact n_bytes _ | exact n_chr _) (by with_reducible first | exact b_len _ | exact b_type _ | exact b_bytes _ | exact b_chr _) ?_)))
local macro_rules | `(tactic| walk_at "callWith ref") => `(tactic| ((with_reducible show wpAny _ _ (callWith _ (Value.ref _) [] (backTo _ (starEach (_ :: _) _)) _) _ _ _); refine callWith_md (by with_reducible first | exact fn116 _) ?_))
local macro_rules | `(tactic| walk_at "call type:type") => `(tactic| ((with_reducible show wpAny _ _ (call (Value.type "type") [_]) _ _ _); first | refine call_type_of (Tx := "bytes") rfl (by decide +kernel) ?_ | refine call_type_of (Tx := "int") rfl (by decide +kernel) ?_ | refine call_type_of (Tx := "str") rfl (by decide +kernel) ?_))
local macro_rules | `(tactic| walk_at "compareOp IsNot") => `(tactic| ((with_reducible show wpAny _ _ (compareOp CmpOp.IsNot (Value.type _) (Value.type _)) _ _ _); first | with_reducible refine isNot_type ?_ | refine wpAny_isNot_other (by rfl) (by intro z; exact absurd (Value.type.inj z) (by decide)) ?_))
def Blk (cf : Bool) (x : List Nat) (n : Nat) : Prop := (x = [n] ∧ n ≠ 37) ∨ ∃ a b c e f g, x = [37, a, b, c, e, f, g] ∧ (∀ z ∈ [a, b, c, e, f, g], z < 128) ∧ (∀ z ∈ [a, b, c, e, f, g], isHexU (upB cf z).toNat = true) ∧
  decB cf a b * 65536 + decB cf c e * 256 + decB cf f g = n ∧ n < 1114112
def textL (bs : List (List Nat × Nat)) : List Nat := (bs.map (·.1)).flatten
def bkM (T : List Nat) (t : Tok) (cf : Bool) (dn : List Nat) (t1 : Tok) (k : Int) (t2 : Tok) (mo : Str → Option Value) : Str → Option Value :=
  fun y => if y = "k" then some (.int k t2) else if y = "signs" then some (.str (strL dn) t1) else if y = "text" then some (.str (strL T) t) else if y = "casefold" then some (.bool cf) else mo y
def bkJ (T : List Nat) (t : Tok) (cf : Bool) (bs : List (List Nat × Nat)) (n : Nat) (m : Str → Option Value) (_ : List (Addr × Obj)) : Prop :=
  ∃ done rest t1 t2 mo, bs = done ++ rest ∧ n = rest.length ∧ m = bkM T t cf (done.map (·.2)) t1 ((textL done).length : Nat) t2 mo
theorem empty_eq : Str.ofString "" = strL [] := by decide +kernel
theorem bkM_init (T : List Nat) (t : Tok) (cf : Bool) (t1 t2 : Tok) : (fun y : Str => if y = "k" then some (.int 0 t2) else if y = "signs" then some (.str (Str.ofString "") t1) else List.lookup y [(Str.ofString "text", Value.str (strL T) t), (Str.ofString "casefold", .bool cf)].reverse)
    = bkM T t cf [] t1 0 t2 (fun _ => none) := by
  funext y
  unfold bkM
  rw [← empty_eq]
  by_cases h1 : y = "k"
  · rw [if_pos h1, if_pos h1]
  rw [if_neg h1, if_neg h1]
  by_cases h2 : y = "signs"
  · rw [if_pos h2, if_pos h2]
  rw [if_neg h2, if_neg h2]
  by_cases h3 : y = "text"
  · rw [if_pos h3, h3]; rfl
  rw [if_neg h3]
  by_cases h4 : y = "casefold"
  · rw [if_pos h4, h4]; rfl
  rw [if_neg h4]
  have e3 : (y == Str.ofString "text") = false := beq_eq_false_iff_ne.mpr h3
  have e4 : (y == Str.ofString "casefold") = false := beq_eq_false_iff_ne.mpr h4
  simp [List.lookup, e3, e4]
theorem len_strL {w : World} {A : Around} {E : Value → Shared → Prop} {s : Shared} {x : List Nat} {t : Tok} {Q : Value → Shared → Prop} (hx : x.length ≤ 1000000) (h : Q (.int (x.length : Nat) (s.toks + 1)) { s with toks := s.toks + 1 + 1 }) :
    wpAny (model prog w) A (call (.builtin "len") [.str (strL x) t]) Q E s :=
  P.len_str (by show ¬ ((x.toArray.size : Nat) : Int) ≥ 2 ^ 63; simp; omega) (by show Q (.int ((x.toArray.size : Nat) : Int) _) _; rw [List.size_toArray]; exact h)
theorem bkM_step {T : List Nat} {t : Tok} {cf : Bool} {dn dn' : List Nat} {t1 t1' : Tok} {k k' : Int} {t2 t2' : Tok} {mo : Str → Option Value} :
    (fun y : Str => if y = "signs" then some (.str (strL dn') t1') else if y = "k" then some (.int k' t2') else bkM T t cf dn t1 k t2 mo y) = bkM T t cf dn' t1' k' t2' mo := by
  funext y
  unfold bkM
  by_cases h1 : y = "k"
  · have h2 : ¬ y = "signs" := by rw [h1]; decide
    simp only [if_pos h1, if_neg h2]
  by_cases h2 : y = "signs"
  · simp only [if_neg h1, if_pos h2]
  · simp only [if_neg h1, if_neg h2]
theorem bkM_oct {T : List Nat} {t : Tok} {cf : Bool} {dn dn' : List Nat} {t1 t1' : Tok} {k k' : Int} {t2 t2' : Tok} {mo : Str → Option Value} {ov : Option Value} :
    (fun y : Str => if y = "signs" then some (.str (strL dn') t1') else if y = "k" then some (.int k' t2') else if y = "octets" then ov else bkM T t cf dn t1 k t2 mo y) = bkM T t cf dn' t1' k' t2' (fun y => if y = "octets" then ov else mo y) := by
  funext y
  unfold bkM
  by_cases h1 : y = "k"
  · have h2 : ¬ y = "signs" := by rw [h1]; decide
    simp only [if_pos h1, if_neg h2]
  by_cases h2 : y = "signs"
  · simp only [if_neg h1, if_pos h2]
  by_cases h5 : y = "octets"
  · simp only [if_neg h1, if_neg h2, if_pos h5]
    rw [if_neg (by rw [h5]; decide), if_neg (by rw [h5]; decide)]
  · simp only [if_neg h1, if_neg h2, if_neg h5]
theorem add_strS {w : World} {A : Around} {E : Value → Shared → Prop} {s : Shared} {x : List Nat} {n : Nat} {t u : Tok} {Q : Value → Shared → Prop} (hsz : x.length + [n].length ≤ 1048576) (h : ∀ t' k, Q (.str (strL (x ++ [n])) t') { s with toks := k }) :
    wpAny (model prog w) A (binaryOp .Add (.str (strL x) t) (.str ⟨#[n]⟩ u)) Q E s := add_strL (y := [n]) hsz h
theorem item_at {w : World} {A : Around} {E : Value → Shared → Prop} {s : Shared} {T pre post : List Nat} {n : Nat} {t u : Tok} {value slice : PySem.Expr} {Q : Value → Shared → Prop} (hT : T = pre ++ n :: post) (hz : T.length < 1000000)
    (h : ∀ t', Q (.str ⟨#[n]⟩ t') { s with toks := s.toks + 1 })
    (hs : subscripted slice false (.str (strL T) t) (.int (pre.length : Nat) u) = operate [.str (strL T) t, .int (pre.length : Nat) u] (getItem (.str (strL T) t) (.int (pre.length : Nat) u)))
    (ht : ∀ r, letTemporaryGo value (.str (strL T) t) r = pure ()) :
    wpAny (model prog w) A (subscriptTail value slice (.str (strL T) t) (.int (pre.length : Nat) u)) Q E s := by
  refine item_strL (Int.natCast_nonneg _) (by rw [hT]; simp; omega) hz (fun t' => ?_) hs ht
  have e : T.getD (pre.length : Int).toNat 0 = n := by rw [hT]; simp [List.getD_eq_getElem?_getD]
  rw [e]; exact h t'
theorem blk_ne {cf : Bool} {x : List Nat} {n : Nat} (h : Blk cf x n) : 1 ≤ x.length := by
  rcases h with ⟨rfl, _⟩ | ⟨a, b, c, e, f, g, rfl, _⟩ <;> simp
theorem textL_len : ∀ bs : List (List Nat × Nat), (∀ p ∈ bs, 1 ≤ p.1.length) → bs.length ≤ (textL bs).length
  | [], _ => Nat.le_refl _
  | p :: r, h => by
    have h1 := textL_len r fun q hq => h q (.tail _ hq)
    have h2 := h p (.head _)
    rw [show textL (p :: r) = p.1 ++ textL r by simp [textL], List.length_append, List.length_cons]
    omega
theorem decB_in {cf : Bool} {a b : Nat} (ha : isHexU (upB cf a).toNat = true) (hb : isHexU (upB cf b).toNat = true) : 0 ≤ decB cf a b ∧ decB cf a b < 256 := by
  have h1 := hexv_lt ha; have h2 := hexv_lt hb; have h3 := hexv_pos (upB cf a).toNat; have h4 := hexv_pos (upB cf b).toNat
  unfold decB; omega
theorem len3 {w : World} {A : Around} {E : Value → Shared → Prop} {s : Shared} {p q r : Int} {t : Tok} {Q : Value → Shared → Prop} (h : Q (.int 3 (s.toks + 1)) { s with toks := s.toks + 1 + 1 }) :
    wpAny (model prog w) A (call (.builtin "len") [.bytes (([p, q, r] : List Int).map fun n => n.toNat.toUInt8).toArray t]) Q E s := len_bytes (by show 3 ≤ 1099511627776; decide) h
theorem oct3 {w : World} {A : Around} {E : Value → Shared → Prop} {s : Shared} {p q r k : Int} {t u : Tok} {i : Int} {value slice : PySem.Expr} {Q : Value → Shared → Prop} (n : Nat) (hi : i = (n : Int)) (hk : [p, q, r][n]? = some k) (h0 : 0 ≤ k ∧ k < 256)
    (h : Q (.int k s.toks) { s with toks := s.toks + 1 })
    (hs : subscripted slice false (.bytes (([p, q, r] : List Int).map fun n => n.toNat.toUInt8).toArray t) (.int i u) = operate [.bytes (([p, q, r] : List Int).map fun n => n.toNat.toUInt8).toArray t, .int i u] (getItem (.bytes (([p, q, r] : List Int).map fun n => n.toNat.toUInt8).toArray t) (.int i u)))
    (ht : ∀ v, letTemporaryGo value (.bytes (([p, q, r] : List Int).map fun n => n.toNat.toUInt8).toArray t) v = pure ()) :
    wpAny (model prog w) A (subscriptTail value slice (.bytes (([p, q, r] : List Int).map fun n => n.toNat.toUInt8).toArray t) (.int i u)) Q E s := by
  have hn : n < 3 := by
    rcases Nat.lt_or_ge n 3 with h | h
    · exact h
    · rw [List.getElem?_eq_none (show [p, q, r].length ≤ n from h)] at hk; cases hk
  refine bytes_item_K (by show 3 ≤ 1099511627776; decide) (by omega) (by show i < (3 : Nat); omega) ?_ h hs ht
  rw [hi, List.getD_eq_getElem?_getD, Int.toNat_natCast, List.getElem?_map, hk]
  exact byte_back h0.1 h0.2
theorem slice6 {T pre post : List Nat} {a b c e f g n : Nat} (hT : T = pre ++ n :: (a :: b :: c :: e :: f :: g :: post)) : Txt.slice (strL T) (some ((pre.length : Nat) + 1)) (some ((pre.length : Nat) + 7)) = ⟨#[a, b, c, e, f, g]⟩ := by
  have := eq_of_beq (slice_closesL (x := strL T) (i := (pre.length : Nat) + 1) (j := (pre.length : Nat) + 7) (by omega) (by omega) (by show _ ≤ ((T.toArray.size : Nat) : Int); rw [List.size_toArray, hT]; simp; omega))
  rw [this]
  have e1 : ((pre.length : Int) + 1).toNat = pre.length + 1 := by omega
  have e2 : ((pre.length : Int) + 7 - ((pre.length : Int) + 1)).toNat = 6 := by omega
  rw [e1, e2, hT]
  simp [strL]
theorem bkJ_next {T : List Nat} {t : Tok} {cf : Bool} {bs done r : List (List Nat × Nat)} {p : List Nat × Nat} {dn : List Nat} {t1 t2 : Tok} {K : Int} {mo : Str → Option Value} {news : List (Addr × Obj)} (ebs : bs = (done ++ [p]) ++ r)
    (hk : K = ((textL (done ++ [p])).length : Nat)) (hd : dn = (done ++ [p]).map (·.2)) : bkJ T t cf bs r.length (bkM T t cf dn t1 K t2 mo) news := by
  subst hk; subst hd
  exact ⟨done ++ [p], r, t1, t2, mo, ebs, rfl, rfl⟩
theorem law_back {w : World} {d u : Nat} {fr : Option (List Env)} {gd : Option (List Code)} {R : Result → Shared → Prop} {s : Shared} (m : Md w s.heap) (hd : d + 3 < recursionLimit) (bs : List (List Nat × Nat)) (cf : Bool)
    (hb : ∀ p ∈ bs, Blk cf p.1 p.2) (hsz : (textL bs).length ≤ 10000) (t : Tok)
    (hR : Ret s R (StrV (bs.map (·.2)))) : codeAny (model prog w) (Ar d fr gd u) (.call (.ref 315) ⟨[.str (strL (textL bs)) t, .bool cf], []⟩) R s := by
  refine call_plain (binds := [("text", .str (strL (textL bs)) t), ("casefold", .bool cf)]) (show d < recursionLimit by omega) (m _ _ (at315 _)) (by rfl) m.nolimit (m.codeRec (at314 _) (by rfl) (by rfl)) (by rfl) (locs (by rfl)) ?_
  intro h₁ F
  have N : News s.heap s.heap.objs.size h₁ [] := News.nil
  repeat' ((fail_if_success (with_reducible show wpAny _ _ (exec (Stmt.While _ _ _ _) _) _ _ _)); first
    | walk1
    | (dsimp only; walk1))
  rename Fr _ _ _ _ => F9; rename News _ _ _ _ => N9
  have hJ : ∀ nw, bkJ (textL bs) t cf bs bs.length (mOf F9) nw := fun nw => ⟨[], bs, _, _, _, rfl, rfl, bkM_init (textL bs) t cf _ _⟩
  refine While_inv (bkJ (textL bs) t cf bs) F9 N9 (hJ _) (fun n m₁ news₁ h₁ tk₁ F₁ N₁ J₁ => ?_) (by passes_own)
  obtain ⟨done, rest, t1, t2, mo, e, en, rfl⟩ := J₁
  clear F9 N9 hJ
  have hT : textL bs = textL done ++ textL rest := by rw [e]; simp [textL]
  have hlen : (textL bs).length = (textL done).length + (textL rest).length := by rw [hT, List.length_append]
  repeat' ((fail_if_success (with_reducible show wpAny _ _ (execs (Stmt.If _ _ _ _ :: _) _) _ _ _)); first
    | walk1
    | ((with_reducible show wpAny _ _ (call (Value.builtin "len") _) _ _ _); refine len_strL (by omega) ?_)
    | (dsimp only; walk1))
  · cases rest with
    | nil => exfalso; rw [show textL ([] : List (List Nat × Nat)) = [] from rfl, List.length_nil] at hlen; omega
    | cons p r =>
      have hTp : textL bs = textL done ++ (p.1 ++ textL r) := by rw [hT]; simp [textL]
      have ebs : bs = (done ++ [p]) ++ r := by rw [e]; simp
      have hrl : r.length < n := by rw [en]; simp
      obtain ⟨x, nn⟩ := p
      have hk2 : textL (done ++ [(x, nn)]) = textL done ++ x := by simp [textL]
      have hs2 : (done ++ [(x, nn)]).map (·.2) = done.map (·.2) ++ [nn] := by simp
      rcases hb (x, nn) (by rw [e]; simp) with ⟨hx, hne⟩ | ⟨a, b, c, e1, f, g, hx, h128, hhex, hdec, hmax⟩
      · dsimp only at hx hne hTp
        subst hx
        have hdl : (done.map (·.2)).length + [nn].length ≤ 1048576 := by
          have h1 := textL_len done fun p hp => blk_ne (hb p (by rw [e]; simp [hp]))
          rw [List.length_map, List.length_singleton]
          omega
        have hne' : (({ cps := #[nn] } : Str) != Str.ofString "%") = true := by rw [ne_pct]; simpa using hne
        have hbad : (({ cps := #[nn] } : Str) != Str.ofString "%") = false → False := fun h => by rw [hne'] at h; cases h
        repeat' (first
          | (exfalso; exact hbad (by with_reducible assumption))
          | ((with_reducible show wpAny _ _ (subscriptTail _ _ _ _) _ _ _); refine item_at (n := nn) hTp (by omega) (fun t' => ?_) (by with_unfolding_all rfl) (by intro _; with_unfolding_all rfl))
          | ((with_reducible show wpAny _ _ (binaryOp Operator.Add (Value.str _ _) (Value.str _ _)) _ _ _); refine add_strS hdl (fun t' k => ?_))
          | walk1
          | (dsimp only; walk1))
        rename Fr _ _ _ _ => F8; rename News _ _ _ _ => N8
        try dsimp only
        rw [bkM_step] at F8
        exact WhileStep.intro F8 N8 hrl (bkJ_next ebs (by rw [hk2, List.length_append]; rfl) hs2.symm)
      · dsimp only at hx hTp hdec
        subst hx
        have hTq : textL bs = textL done ++ 37 :: (a :: b :: c :: e1 :: f :: g :: textL r) := hTp
        have hdl : (done.map (·.2)).length + [nn].length ≤ 1048576 := by
          have h1 := textL_len done fun p hp => blk_ne (hb p (by rw [e]; simp [hp]))
          rw [List.length_map, List.length_singleton]
          omega
        have hbad : (({ cps := #[37] } : Str) != Str.ofString "%") = true → False := fun h => by rw [ne_pct] at h; simp at h
        have hsl := slice6 hTq
        have hzz : (strL (textL bs)).length ≤ sizeLine := by show (textL bs).toArray.size ≤ sizeLine; rw [List.size_toArray]; exact Nat.le_trans hsz (by decide)
        have d1 := decB_in (hhex a (by simp)) (hhex b (by simp))
        have d2 := decB_in (hhex c (by simp)) (hhex e1 (by simp))
        have d3 := decB_in (hhex f (by simp)) (hhex g (by simp))
        repeat' (first
          | (exfalso; exact hbad (by with_reducible assumption))
          | ((with_reducible show wpAny _ _ (subscriptTail _ _ (Value.str _ _) (Value.int _ _)) _ _ _); refine item_at (n := 37) hTq (by omega) (fun t' => ?_) (by with_unfolding_all rfl) (by intro _; with_unfolding_all rfl))
          | ((with_reducible show wpAny _ _ (subscriptTail _ _ (Value.str _ _) (Value.ref _)) _ _ _); refine slice_strN_ss (by assumption) (by assumption) (fun h' t' k F' N' => ?_) (by with_unfolding_all rfl) (by intro _; with_unfolding_all rfl) hzz)
          | ((with_reducible show wpAny _ _ (subscriptTail _ _ (Value.bytes _ _) (Value.int _ _)) _ _ _); first | refine oct3 0 (by decide) rfl d1 ?_ (by with_unfolding_all rfl) (by intro _; with_unfolding_all rfl) | refine oct3 1 (by decide) rfl d2 ?_ (by with_unfolding_all rfl) (by intro _; with_unfolding_all rfl) | refine oct3 2 (by decide) rfl d3 ?_ (by with_unfolding_all rfl) (by intro _; with_unfolding_all rfl))
          | ((with_reducible show wpAny _ _ (binaryOp Operator.Add (Value.str _ _) (Value.str _ _)) _ _ _); refine add_strS hdl (fun t' k => ?_))
          | ((with_reducible show wpAny _ _ (call (Value.builtin "len") [Value.bytes _ _]) _ _ _); refine len3 ?_)
          | ((with_reducible show wpAny _ _ (call (Value.ref 116) _) _ _ _); rw [hsl]; refine wpAny_call (b16decode (Md.ext m (Fr.keep (by assumption))) (show (d + 1) + 2 < recursionLimit by omega) cf h128 hhex _ ?_); rintro v h' tk ⟨t', hv⟩ hk; subst hv; (have F' := fr_ext (by assumption) hk); (have N' := news_ext (by assumption) hk); dsimp only)
          | exact Md.ext m (Fr.keep (by assumption))
          | walk1
          | (dsimp only; walk1))
        rename Fr _ _ _ _ => F8; rename News _ _ _ _ => N8
        try dsimp only
        rw [bkM_oct] at F8
        have hdn : (decB cf a b * 65536 + decB cf c e1 * 256 + decB cf f g).toNat = nn := by omega
        rw [hdn] at F8
        exact WhileStep.intro F8 N8 hrl (bkJ_next ebs (by rw [hk2, List.length_append]; rfl) hs2.symm)
  · cases rest with
    | cons p r => exfalso; have := blk_ne (hb p (by rw [e]; simp)); rw [show textL (p :: r) = p.1 ++ textL r by simp [textL], List.length_append] at hlen; omega
    | nil =>
      rw [List.append_nil] at e
      subst e
      dsimp only
      exact hR _ _ _ ⟨_, rfl⟩ (Fr.keep (by assumption))
end Mine
end
section
open PySem PySem.W PyProof.Rows PySem.Builtin
namespace Mine
/-! a comprehension with a tuple for its target, stored in a name -/
section
variable {w : World} {A : Around} {E : Value → Shared → Prop} {env : Env} {α : Type}
/-- what a turn asks: the item is laid into the names, then the element is reckoned -/
def TurnsOf (w : World) (A : Around) (s₁ : Shared) (target elt : PySem.Expr) (scope : Scope) (cl : List (Str × Addr)) (env : Env) (as : List α) (P : Nat → Value → Heap → Prop) (out : α → Value → Prop) : Prop :=
  ∀ C i a v s₂ m₂ (E' : Value → Shared → Prop), as[i]? = some a → P i v s₂.heap → s₂.heap.Ns (compEnvC scope cl C env).locals m₂ → s₁.heap.get? C = none → Ext s₁.heap s₂.heap →
    wpAny (model prog w) A (assign target (compEnvC scope cl C env) v) (fun _ s₃ => (∃ h' tk, s₃ = { s₂ with heap := h', toks := tk } ∧ (∀ b o, b ≠ C → s₂.heap.get? b = some o → h'.get? b = some o) ∧ ∃ m₃, h'.Ns C m₃) ∧
      wpAny (model prog w) A (eval elt (compEnvC scope cl C env)) (fun y s₄ => out a y ∧ Keeps s₃ s₄) E' s₃) E' s₂
theorem paired_snoc {rel : α → Value → Prop} {as : List α} {ys : List Value} {i : Nat} {a : α} {y : Value} (h : Paired rel (as.take i) ys) (ha : as[i]? = some a) (hy : rel a y) : Paired rel (as.take (i + 1)) (ys ++ [y]) := by
  rw [List.take_add_one, ha]
  exact h.snoc hy
theorem loop_T {elt iter : PySem.Expr} {elts : List PySem.Expr} {x1 : Nat} {tp : Pos} {scope : Scope} {cl : List (Str × Addr)} {pos : Pos} {s s₁ : Shared} {I C D : Addr} {fp wr : List Addr} {as : List α} {P Md : Nat → Value → Heap → Prop} {St : Nat → Heap → Prop}
    {out : α → Value → Prop} {R : Result → Shared → Prop} {m : Str → Option Value}
    (W : KTurns prog w A (.Tuple elts x1 tp) I fp wr as.length P Md St) (hlen : as.length ≤ sizeLine)
    (hDC : D ≠ C) (hDf : D ∉ fp) (hCf : C ∉ fp) (hst : St 0 s.heap) (hacc : s.heap.PlainList D #[]) (hn : s.heap.Ns C m)
    (hs₁ : ∀ u : Heap, (∀ b o, b ≠ C → b ∉ wr → b ≠ D → s.heap.get? b = some o → u.get? b = some o) → Ext s₁.heap u) (hC₁ : s₁.heap.get? C = none)
    (T : TurnsOf w A s₁ (.Tuple elts x1 tp) elt scope cl env as P out)
    (hR : ∀ h' tk m' ys, h'.Ns C m' → h'.PlainList D ys → Paired out as ys.toList → (∀ b o, b ≠ C → b ∉ wr → b ≠ D → s.heap.get? b = some o → h'.get? b = some o) → R (.ok .next) { s with heap := h', toks := tk }) :
    codeAny (model prog w) A (.compLoop (.ListComp elt [⟨.Tuple elts x1 tp, iter, [], 0⟩] scope pos) 0 (.ref I) (.ref D) (compEnvC scope cl C env)) R s := by
  refine LCp.codeAny_compLoop_pair
    (fun k s' => ∃ h' tk i ys m', s' = { s with heap := h', toks := tk } ∧ i ≤ as.length ∧ k = as.length + 1 - i ∧ St i h' ∧ h'.PlainList D ys ∧ h'.Ns C m' ∧ Paired out (as.take i) ys.toList ∧
      (∀ b o, b ≠ C → b ∉ wr → b ≠ D → s.heap.get? b = some o → h'.get? b = some o)) ?_ (as.length + 1)
    ⟨s.heap, s.toks, 0, #[], m, rfl, Nat.zero_le _, rfl, hst, hacc, hn, .nil, fun _ _ _ _ _ e => e⟩
  rintro k s' ⟨h', tk, i, ys, m', rfl, hi, rfl, hst', hacc', hn', hp', hk'⟩
  have hCw : C ∉ wr := fun h => hCf (W.sub _ h)
  have hDw : D ∉ wr := fun h => hDf (W.sub _ h)
  by_cases hlt : i < as.length
  · refine W.item i _ _ _ hlt hst' fun v h₂ tk₂ hMd hk₂ => ?_
    refine W.go i v _ _ _ hMd fun h₃ hP hst₃ hk₃ => ?_
    have up₃ : ∀ b o, b ≠ C → b ∉ wr → b ≠ D → s.heap.get? b = some o → h₃.get? b = some o := fun b o h1 h2 h3 e => hk₃ b o h2 (hk₂ b o h2 (hk' b o h1 h2 h3 e))
    obtain ⟨a, ha⟩ : ∃ a, as[i]? = some a := ⟨as[i], List.getElem?_eq_getElem hlt⟩
    have hn₃ : h₃.Ns C m' := (hn'.at' fun o e => hk₂ _ o hCw e).at' fun o e => hk₃ _ o hCw e
    have hacc₃ : h₃.PlainList D ys := (hacc'.at fun o e => hk₂ _ o hDw e).at fun o e => hk₃ _ o hDw e
    refine wpAny_mono (T C i a v _ m' _ ha hP hn₃ hC₁ (hs₁ _ up₃)) (fun _ s₄ h₄ => ?_) fun _ _ e => e
    obtain ⟨⟨h₄', tk₄, rfl, hk₄, m₄, hn₄⟩, h₄⟩ := h₄
    refine wpAny_mono h₄ (fun y s₅ h₅ => ?_) fun _ _ e => e
    obtain ⟨hy, h₅', tk₅, rfl, hk₅⟩ := h₅
    have hacc₅ : h₅'.PlainList D ys := hacc₃.at fun o e => hk₅ _ o (hk₄ _ o hDC e)
    have hys : ys.size ≤ sizeLine := by
      have e1 := hp'.length
      have e2 : (as.take i).length ≤ as.length := by rw [List.length_take]; exact Nat.min_le_right _ _
      have e4 : ys.toList.length = ys.size := by simp
      omega
    refine wpAny_list_append_plain (hsz := hys) hacc₅ fun h₆ hl₆ hs₆ => ?_
    refine ⟨as.length + 1 - (i + 1), by omega, h₆, tk₅, i + 1, ys.push y, m₄, rfl, hlt, rfl, ?_, hl₆, (hn₄.keeps hk₅).sameBut hs₆ (Ne.symm hDC), ?_, ?_⟩
    · refine W.frame _ _ _ hst₃ fun b hb o e => hs₆.extBut b o (fun h => hDf (h ▸ hb)) (hk₅ b o (hk₄ b o (fun h => hCf (h ▸ hb)) e))
    · have := paired_snoc hp' ha hy
      simpa using this
    · intro b o h1 h2 h3 e
      exact hs₆.extBut b o h3 (hk₅ b o (hk₄ b o h1 (up₃ b o h1 h2 h3 e)))
  · obtain rfl : i = as.length := by omega
    refine W.done _ _ _ hst' fun h₂ tk₂ hk₂ => ?_
    rw [List.take_length] at hp'
    exact hR h₂ tk₂ m' ys (hn'.at' fun o e => hk₂ _ o hCw e) (hacc'.at fun o e => hk₂ _ o hDw e) hp' fun b o h1 h2 h3 e => hk₂ b o h2 (hk' b o h1 h2 h3 e)
def SrcT (w : World) (A : Around) (E : Value → Shared → Prop) (xv : Value) (s s₁ : Shared) (target : PySem.Expr) (as : List α) (P : Nat → Value → Heap → Prop) : Prop :=
  ∀ Q : Value → Shared → Prop, (∀ I fp wr Md St h', KTurns prog w A target I fp wr as.length P Md St → (∀ (s₂ : Shared) (Q : Value → Shared → Prop) (E : Value → Shared → Prop), St 0 s₂.heap → Q (.ref I) s₂ → wpAny (model prog w) A (pyIter (.ref I)) Q E s₂) → St 0 h' → (∀ b ∈ fp, b < h'.objs.size) → (∀ b ∈ wr, s.heap.get? b = none) → Ext s.heap h' → Q (.ref I) { s₁ with heap := h' }) → wpAny (model prog w) A (pyIter xv) Q E s₁
theorem LCTA {s : Shared} {h₀ : Heap} {L : Addr} {m : Str → Option Value} {news : List (Addr × Obj)} {elt iter : PySem.Expr} {elts : List PySem.Expr} {x1 : Nat} {tp : Pos} {y : Str} {py : Pos} {scope : Scope} {cl : List (Str × Addr)} {pos spos : Pos} {Q : Flow → Shared → Prop} {as : List α}
    {P : Nat → Value → Heap → Prop} {out : α → Value → Prop} (hlen : as.length ≤ sizeLine) (F : Fr h₀ L s.heap m) (N : News h₀ L s.heap news)
    (hsw : swapsWith (.ListComp elt [⟨.Tuple elts x1 tp, iter, [], 0⟩] scope pos) (some (.Name y py)) spos.line env = pure true) (hL : env.locals = L)
    (hclos : closureFor scope env = pure cl) (hcell : ∀ y ∈ scope.names, y.2 ≠ .cell) (hkind : scope.kind = .function)
    (hnames : ∀ y ∈ scope.names, y.2 = .local → scope.names.lookup y.1 = some .local)
    (hy : env.kindOf y = some .local) (hpm : (env.scope.kind == .class || (env.scope.kind == .module && env.locals != env.globals)) = false)
    (hs : ∀ x, foldedSetIterable iter env x = pure x)
    (h : wpAny (model prog w) A (eval iter env) (fun xv s₁ => (∃ h' tk, s₁ = { s with heap := h', toks := tk }) ∧ SrcT w A E xv s s₁ (.Tuple elts x1 tp) as P) E s)
    (T : TurnsOf w A s (.Tuple elts x1 tp) elt scope cl env as P out)
    (hQ : ∀ D (ys : List Value) n h' tk, Fr h₀ L h' (fun z => if z = y then some (.ref D) else m z) → News h₀ L h' ((D, { cls := .type "list", data := .seq ys.toArray n }) :: news) → Paired out as ys → Q .next { s with heap := h', toks := tk }) :
    wpAny (model prog w) A (exec (.Assign [.Name y py] (.ListComp elt [⟨.Tuple elts x1 tp, iter, [], 0⟩] scope pos) spos) env) Q E s := by
  subst hL
  rw [exec_Assign_Name_used _ _ _ _ hsw]
  refine wpAny_bind (wpAny_standAt (wpAny_bind ?_))
  show wpAny _ A (do let _ ← comprehension (.ListComp elt [⟨.Tuple elts x1 tp, iter, [], 0⟩] scope pos) scope env _ (newList []) false (eval iter env) (some (assign (.Name y py) env))) _ _ s
  refine wpAny_bind (wpAny_mono (wpAny_comprehension_free (use := some (assign (.Name y py) env)) (Q := fun _ s' => Q .next s') rfl hs hclos hkind hnames
    (wpAny_mono h (fun xv s₁ h₁ => ?_) fun _ _ e => e)) (fun _ s' hq => wpAny_pure (wpAny_pure hq)) fun _ _ e => e)
  obtain ⟨⟨g₁, k₁, rfl⟩, S⟩ := h₁
  refine S _ fun I fp wr Md St h' W Sf hst hfp hwr hk => ?_
  have hLw : env.locals ∉ wr := fun hb => by obtain ⟨o, _, _, e, _⟩ := F.ns; rw [hwr _ hb] at e; cases e
  refine wpAny_newObj_type (wpAny_newFunctionEnv hcell (by intro y hy; simp at hy) (fun h₁ hns₁ hsb₁ => ?_) hkind)
  dsimp only at hns₁ hsb₁ ⊢
  generalize hH2 : h'.push { cls := .type "list", dict := none, data := .seq ([] : List Value).toArray } = H2 at hns₁ hsb₁ ⊢
  have hC : H2.objs.size = h'.objs.size + 1 := by rw [← hH2, Heap.size_push]
  have hDC : h'.objs.size ≠ H2.objs.size := by rw [hC]; exact Nat.ne_of_lt (Nat.lt_succ_self _)
  have below : ∀ b, b < h'.objs.size → b ≠ H2.objs.size ∧ b ≠ h'.objs.size := fun b hb => ⟨by rw [hC]; exact Nat.ne_of_lt (Nat.lt_succ_of_lt hb), Nat.ne_of_lt hb⟩
  have hDf : h'.objs.size ∉ fp := fun hm => Nat.lt_irrefl _ (hfp _ hm)
  have hCf : H2.objs.size ∉ fp := fun hm => by have := hfp _ hm; rw [hC] at this; exact Nat.lt_irrefl _ (Nat.lt_of_succ_lt this)
  have old : ∀ b o, h'.get? b = some o → h₁.get? b = some o := fun b o e => hsb₁.extBut b o (below b (Heap.lt_size e)).1 (Heap.get?_push_of_some _ (hH2 ▸ Heap.get?_push_of_some _ e))
  have hacc : h₁.PlainList h'.objs.size #[] := ⟨_, hsb₁.extBut _ _ hDC (Heap.get?_push_of_some _ (hH2 ▸ Heap.get?_push_size _ rfl))⟩
  have hst₁ : St 0 h₁ := W.frame _ _ _ hst fun b _ o e => old b o e
  have fresh : ∀ a, h'.objs.size ≤ a → s.heap.get? a = none := fun a ha => by
    cases e : s.heap.get? a with
    | none => rfl
    | some o' => exact absurd (Heap.lt_size (hk _ _ e)) (Nat.not_lt.mpr ha)
  have up : ∀ (u : Heap), (∀ b o, b ≠ H2.objs.size → b ∉ wr → b ≠ h'.objs.size → h₁.get? b = some o → u.get? b = some o) → Ext s.heap u := fun u k b o e =>
    k b o (below b (Heap.lt_size (hk _ _ e))).1 (fun hb => by rw [hwr b hb] at e; cases e) (below b (Heap.lt_size (hk _ _ e))).2 (old b o (hk b o e))
  have hC0 : s.heap.get? H2.objs.size = none := fresh _ (by rw [hC]; exact Nat.le_succ _)
  have hD0 : s.heap.get? h'.objs.size = none := fresh _ (Nat.le_refl _)
  have hLC : env.locals ≠ H2.objs.size := fun e => by obtain ⟨o, _, _, ho, _⟩ := F.ns; rw [e, hC0] at ho; cases ho
  have hLD : env.locals ≠ h'.objs.size := fun e => by obtain ⟨o, _, _, ho, _⟩ := F.ns; rw [e, hD0] at ho; cases ho
  have loop : ∀ s₃ : Shared, s₃ = { s with heap := h₁, toks := k₁ + ([] : List (Str × Value)).length } →
      codeAny (model prog w) A (.compLoop (.ListComp elt [⟨.Tuple elts x1 tp, iter, [], 0⟩] scope pos) 0 (.ref I) (.ref h'.objs.size) (compEnvC scope cl H2.objs.size env))
        (compPost (model prog w) A E (some (assign (.Name y py) env)) (fun _ s' => Q .next s') (.ref h'.objs.size) H2.objs.size) s₃ := by
    rintro s₃ rfl
    refine loop_T W hlen hDC hDf hCf hst₁ hacc hns₁ (fun u k => up u k) hC0 T fun h₂ tk m' ys hn₂ hpl hpr hk₂ => ?_
    show wpAny _ A (assign (.Name y py) env (.ref h'.objs.size)) _ _ _
    have hnL : h₂.Ns env.locals m := F.ns.at' fun o e => up h₂ hk₂ _ o e
    refine wpAny_assign_Name (wpAny_storeName_local hy hnL (fun h₃ hn₃ hs₃ => ?_) hpm)
    refine ⟨m', hn₂.sameBut hs₃ (Ne.symm hLC), fun h₄ hs₄ => ?_⟩
    have k4 : ∀ b o, b ≠ env.locals → s.heap.get? b = some o → h₄.get? b = some o := fun b o hb e => hs₄.extBut b o (by rintro rfl; rw [hC0] at e; cases e) (hs₃.extBut b o hb (up h₂ hk₂ b o e))
    have hLn : h₀.get? env.locals = none := by
      cases e : h₀.get? env.locals with
      | none => rfl
      | some o => exact absurd (Heap.lt_size e) (Nat.not_lt.mpr F.above)
    obtain ⟨n, hn⟩ := hpl
    refine hQ h'.objs.size ys.toList n h₄ _ ⟨hn₃.sameBut hs₄ hLC, fun b o e => k4 b o (fun q => by rw [q, hLn] at e; cases e) (F.keep b o e), F.above⟩ (fun p hp => ?_) hpr
    rcases List.mem_cons.mp hp with rfl | hp
    · refine ⟨by simpa using hs₄.extBut _ _ hDC (hs₃.extBut _ _ (Ne.symm hLD) hn), Ne.symm hLD, ?_⟩
      cases e : h₀.get? h'.objs.size with
      | none => rfl
      | some o => rw [F.keep _ _ e] at hD0; cases hD0
    · exact ⟨k4 _ _ (N p hp).2.1 (N p hp).1, (N p hp).2⟩
  exact codeAny_compStart_list (loop _ rfl) (Sf _ _ _ hst₁ (loop _ rfl))
end
end Mine
end
section
open PySem PySem.W PyProof.Rows PySem.Builtin
namespace Mine
/-! zip of three lists: its objects stand at n .. n + 5 -/
abbrev IsTrip (h : Heap) (T : Addr) (a b c : Value) : Prop := h.get? T = some { cls := .type "tuple", data := .seq #[a, b, c] }
section
variable {w : World} {A : Around} {E : Value → Shared → Prop} {s : Shared}
theorem update_trip {T : Addr} {a b c x : Value} {k : Nat} {Q : Unit → Shared → Prop} (hT : IsTrip s.heap T a b c)
    (h : ∀ h', h'.get? T = some { cls := .type "tuple", data := .seq ((#[a, b, c] : Array Value).setIfInBounds k x) } → Heap.SameBut T s.heap h' → Q () { s with heap := h' }) :
    wpAny (model prog w) A (updateSeq T (·.setIfInBounds k x)) Q E s := by
  refine wpAny_updateSeq hT rfl (h _ ?_ (Heap.SameBut.update ..))
  rw [Heap.get?_update_self _ hT rfl]
  simp [Obj.mapSeq]
structure Zip3 (h : Heap) (n l1 l2 l3 : Nat) (k : Nat) (f0 : Value) (xs ys zs : Array Value) : Prop where
  z : IsZip h (n + 5) (n + 3) (n + 4) f0
  ti : IsTrip h (n + 3) (.ref n) (.ref (n + 1)) (.ref (n + 2))
  to : ∃ a b c, IsTrip h (n + 4) a b c
  i1 : h.IsListIter n l1 k
  i2 : h.IsListIter (n + 1) l2 k
  i3 : h.IsListIter (n + 2) l3 k
  h1 : h.IsList l1 xs
  h2 : h.IsList l2 ys
  h3 : h.IsList l3 zs
theorem nne {a b : Nat} (h : a < b ∨ b < a) : (a : Addr) ≠ b := fun e => by have e' : (a : Nat) = b := e; omega
theorem zip3_item {n l1 l2 l3 k : Nat} {xs ys zs : Array Value} {x y z : Value} {Q : Value → Shared → Prop} (d1 : l1 < n) (d2 : l2 < n) (d3 : l3 < n)
    (H : Zip3 s.heap n l1 l2 l3 k .none xs ys zs) (hx : xs[k]? = some x) (hy : ys[k]? = some y) (hz : zs[k]? = some z)
    (hQ : ∀ h', IsZip h' (n + 5) (n + 3) (n + 4) (rawInt s.heap.objs.size) → IsTrip h' (n + 4) x y z → h'.IsListIter n l1 (k + 1) → h'.IsListIter (n + 1) l2 (k + 1) → h'.IsListIter (n + 2) l3 (k + 1) → IsTrip h' s.heap.objs.size x y z →
      (∀ c o, c ≠ n + 5 → c ≠ n + 4 → c ≠ n → c ≠ n + 1 → c ≠ n + 2 → s.heap.get? c = some o → h'.get? c = some o) → Q (.ref s.heap.objs.size) { s with heap := h' }) :
    wpAny (model prog w) A (Builtin.«zip.__next__» ⟨[.ref (n + 5)], []⟩) (fun fin s' => ∃ v, fin = .done (.ret v) ∧ Q v s') E s := by
  obtain ⟨hz0, hTI, ⟨a, b, c, hTO⟩, i1, i2, i3, hl1, hl2, hl3⟩ := H
  show wpAny _ _ (field (.ref (n + 5)) 2 >>= _) _ _ _
  refine wpAny_bind (wpAny_field hz0 rfl (x := .bool false) rfl ?_)
  show wpAny _ _ (field (.ref (n + 5)) 3 >>= _) _ _ _
  refine wpAny_bind (wpAny_field hz0 rfl (x := .ref (n + 3)) rfl ?_)
  refine wpAny_bind (wpAny_seqItems hTI rfl ?_)
  show wpAny _ _ (Builtin.SmallTypes.ownedTupleIsFree (.ref (n + 5)) >>= _) _ _ _
  refine wpAny_bind ?_
  unfold Builtin.SmallTypes.ownedTupleIsFree
  refine wpAny_bind (wpAny_field hz0 rfl (x := .none) rfl (wpAny_pure ?_))
  simp only [if_true]
  refine wpAny_bind (wpAny_rule ?_)
  refine wpAny_bind (wpAny_field hz0 rfl (x := .ref (n + 4)) rfl ?_)
  refine wpAny_bind (wpAny_setField_rec hz0 (by simp) fun h₁ hz₁ hs₁ => ?_)
  replace hz₁ : IsZip h₁ (n + 5) (n + 3) (n + 4) .ellipsis := hz₁
  refine wpAny_bind ?_
  simp only [List.zipIdx_cons, List.zipIdx_nil, List.forIn_cons, List.forIn_nil]
  refine wpAny_bind (wpAny_bind (wpAny_onRaise ?_))
  show wpAny _ _ (Builtin.SmallTypes.nextOf (.ref n) >>= _) _ _ _
  refine wpAny_bind (wpAny_nextOf_list_item (i1.extBut hs₁.extBut (nne (by omega))) (hl1.extBut hs₁.extBut (nne (by omega))) hx fun h₂ i1₂ hs₂ => wpAny_pure ?_)
  have hTO₂ : IsTrip h₂ (n + 4) a b c := hs₂.extBut _ _ (nne (by omega)) (hs₁.extBut _ _ (nne (by omega)) hTO)
  refine wpAny_bind (wpAny_seqItems hTO₂ rfl ?_)
  refine wpAny_bind (update_trip hTO₂ fun h₃ hTO₃ hs₃ => ?_)
  replace hTO₃ : IsTrip h₃ (n + 4) x b c := hTO₃
  refine wpAny_bind (wpAny_letGo (wpAny_pure ?_))
  refine wpAny_bind (wpAny_bind (wpAny_onRaise ?_))
  show wpAny _ _ (Builtin.SmallTypes.nextOf (.ref (n + 1)) >>= _) _ _ _
  refine wpAny_bind (wpAny_nextOf_list_item (((i2.extBut hs₁.extBut (nne (by omega))).extBut hs₂.extBut (nne (by omega))).extBut hs₃.extBut (nne (by omega)))
    (((hl2.extBut hs₁.extBut (nne (by omega))).extBut hs₂.extBut (nne (by omega))).extBut hs₃.extBut (nne (by omega))) hy fun h₄ i2₄ hs₄ => wpAny_pure ?_)
  have hTO₄ : IsTrip h₄ (n + 4) x b c := hs₄.extBut _ _ (nne (by omega)) hTO₃
  refine wpAny_bind (wpAny_seqItems hTO₄ rfl ?_)
  refine wpAny_bind (update_trip hTO₄ fun h₅ hTO₅ hs₅ => ?_)
  replace hTO₅ : IsTrip h₅ (n + 4) x y c := hTO₅
  refine wpAny_bind (wpAny_letGo (wpAny_pure ?_))
  refine wpAny_bind (wpAny_bind (wpAny_onRaise ?_))
  show wpAny _ _ (Builtin.SmallTypes.nextOf (.ref (n + 2)) >>= _) _ _ _
  refine wpAny_bind (wpAny_nextOf_list_item (((((i3.extBut hs₁.extBut (nne (by omega))).extBut hs₂.extBut (nne (by omega))).extBut hs₃.extBut (nne (by omega))).extBut hs₄.extBut (nne (by omega))).extBut hs₅.extBut (nne (by omega)))
    (((((hl3.extBut hs₁.extBut (nne (by omega))).extBut hs₂.extBut (nne (by omega))).extBut hs₃.extBut (nne (by omega))).extBut hs₄.extBut (nne (by omega))).extBut hs₅.extBut (nne (by omega))) hz fun h₆ i3₆ hs₆ => wpAny_pure ?_)
  have hTO₆ : IsTrip h₆ (n + 4) x y c := hs₆.extBut _ _ (nne (by omega)) hTO₅
  refine wpAny_bind (wpAny_seqItems hTO₆ rfl ?_)
  refine wpAny_bind (update_trip hTO₆ fun h₇ hTO₇ hs₇ => ?_)
  replace hTO₇ : IsTrip h₇ (n + 4) x y z := hTO₇
  refine wpAny_bind (wpAny_letGo (wpAny_pure (wpAny_pure ?_)))
  refine wpAny_bind (wpAny_seqItems hTO₇ rfl ?_)
  refine wpAny_bind (wpAny_newTuple ?_)
  have hsz : h₇.objs.size = s.heap.objs.size := by rw [hs₇.1, hs₆.1, hs₅.1, hs₄.1, hs₃.1, hs₂.1, hs₁.1]
  have hz₇ : IsZip h₇ (n + 5) (n + 3) (n + 4) .ellipsis := hs₇.extBut _ _ (nne (by omega)) (hs₆.extBut _ _ (nne (by omega)) (hs₅.extBut _ _ (nne (by omega)) (hs₄.extBut _ _ (nne (by omega)) (hs₃.extBut _ _ (nne (by omega)) (hs₂.extBut _ _ (nne (by omega)) hz₁)))))
  have hk₇ : ∀ e o, e ≠ n + 5 → e ≠ n + 4 → e ≠ n → e ≠ n + 1 → e ≠ n + 2 → s.heap.get? e = some o → h₇.get? e = some o := fun e o c1 c2 c3 c4 c5 q =>
    hs₇.extBut _ _ c2 (hs₆.extBut _ _ c5 (hs₅.extBut _ _ c2 (hs₄.extBut _ _ c4 (hs₃.extBut _ _ c2 (hs₂.extBut _ _ c3 (hs₁.extBut _ _ c1 q))))))
  have i1₇ : h₇.IsListIter n l1 (k + 1) := ((((i1₂.extBut hs₃.extBut (nne (by omega))).extBut hs₄.extBut (nne (by omega))).extBut hs₅.extBut (nne (by omega))).extBut hs₆.extBut (nne (by omega))).extBut hs₇.extBut (nne (by omega))
  have i2₇ : h₇.IsListIter (n + 1) l2 (k + 1) := ((i2₄.extBut hs₅.extBut (nne (by omega))).extBut hs₆.extBut (nne (by omega))).extBut hs₇.extBut (nne (by omega))
  have i3₇ : h₇.IsListIter (n + 2) l3 (k + 1) := i3₆.extBut hs₇.extBut (nne (by omega))
  have hzlt : n + 5 < h₇.objs.size := Heap.lt_size hz₇
  show wpAny _ _ (Builtin.SmallTypes.ownedTupleHandOut (.ref (n + 5)) (.ref h₇.objs.size) >>= _) _ _ _
  refine wpAny_bind ?_
  unfold Builtin.SmallTypes.ownedTupleHandOut
  have hz₈ : IsZip (h₇.push { cls := .type "tuple", data := .seq #[x, y, z] }) (n + 5) (n + 3) (n + 4) .ellipsis := Heap.get?_push_of_some _ hz₇
  refine wpAny_bind (wpAny_setField_rec hz₈ (by simp) fun h₉ hz₉ hs₉ => ?_)
  replace hz₉ : IsZip h₉ (n + 5) (n + 3) (n + 4) (rawInt h₇.objs.size) := hz₉
  refine wpAny_setField_rec hz₉ (by simp) fun hA hzA hsA => ?_
  replace hzA : IsZip hA (n + 5) (n + 3) (n + 4) (rawInt h₇.objs.size) := hzA
  have up : ∀ e o, e ≠ n + 5 → h₇.get? e = some o → hA.get? e = some o := fun e o c1 q => hsA.extBut _ _ c1 (hs₉.extBut _ _ c1 (Heap.get?_push_of_some _ q))
  have hTA : IsTrip hA h₇.objs.size x y z := hsA.extBut _ _ (Nat.ne_of_gt hzlt) (hs₉.extBut _ _ (Nat.ne_of_gt hzlt) (Heap.get?_push_size _ rfl))
  rw [hsz] at hzA hTA
  refine wpAny_pure ⟨_, rfl, ?_⟩
  show Q (.ref h₇.objs.size) _
  rw [hsz]
  exact hQ hA hzA (up _ _ (nne (by omega)) hTO₇) (i1₇.at fun o e => up _ o (nne (by omega)) e) (i2₇.at fun o e => up _ o (nne (by omega)) e) (i3₇.at fun o e => up _ o (nne (by omega)) e) hTA
    fun e o c1 c2 c3 c4 c5 q => up e o c1 (hk₇ e o c1 c2 c3 c4 c5 q)
theorem zip3_end {n l1 l2 l3 k : Nat} {xs ys zs : Array Value} {Q : Fin → Shared → Prop} (hh : A.handled = none) (d1 : l1 < n)
    (H : Zip3 s.heap n l1 l2 l3 k .none xs ys zs) (hx : xs[k]? = none)
    (hE : ∀ h' e, (∀ c o, c ≠ n + 5 → c ≠ n → s.heap.get? c = some o → h'.get? c = some o) → (∃ o, h'.get? e = some o ∧ o.cls = .type "StopIteration") → E (.ref e) { s with heap := h' }) :
    wpAny (model prog w) A (Builtin.«zip.__next__» ⟨[.ref (n + 5)], []⟩) Q E s := by
  obtain ⟨hz0, hTI, ⟨a, b, c, hTO⟩, i1, i2, i3, hl1, hl2, hl3⟩ := H
  show wpAny _ _ (field (.ref (n + 5)) 2 >>= _) _ _ _
  refine wpAny_bind (wpAny_field hz0 rfl (x := .bool false) rfl ?_)
  show wpAny _ _ (field (.ref (n + 5)) 3 >>= _) _ _ _
  refine wpAny_bind (wpAny_field hz0 rfl (x := .ref (n + 3)) rfl ?_)
  refine wpAny_bind (wpAny_seqItems hTI rfl ?_)
  show wpAny _ _ (Builtin.SmallTypes.ownedTupleIsFree (.ref (n + 5)) >>= _) _ _ _
  refine wpAny_bind ?_
  unfold Builtin.SmallTypes.ownedTupleIsFree
  refine wpAny_bind (wpAny_field hz0 rfl (x := .none) rfl (wpAny_pure ?_))
  simp only [if_true]
  refine wpAny_bind (wpAny_rule ?_)
  refine wpAny_bind (wpAny_field hz0 rfl (x := .ref (n + 4)) rfl ?_)
  refine wpAny_bind (wpAny_setField_rec hz0 (by simp) fun h₁ hz₁ hs₁ => ?_)
  replace hz₁ : IsZip h₁ (n + 5) (n + 3) (n + 4) .ellipsis := hz₁
  refine wpAny_bind ?_
  simp only [List.zipIdx_cons, List.zipIdx_nil, List.forIn_cons, List.forIn_nil]
  refine wpAny_bind (wpAny_bind (wpAny_onRaise ?_))
  show wpAny _ _ (Builtin.SmallTypes.nextOf (.ref n) >>= _) _ _ _
  refine wpAny_bind (wpAny_nextOf_list_end hh (i1.extBut hs₁.extBut (nne (by omega))) (hl1.extBut hs₁.extBut (nne (by omega))) hx fun h₂ e hs₂ he => ?_)
  obtain ⟨oe, hoe, hce⟩ := he
  have hz₂ : IsZip h₂ (n + 5) (n + 3) (n + 4) .ellipsis := hs₂ _ _ (nne (by omega)) hz₁
  have hez : e ≠ n + 5 := fun x => by subst x; rw [hz₂] at hoe; cases hoe; simp at hce
  exact wpAny_setField_rec hz₂ (by simp) fun h₃ _ hs₃ => hE h₃ e (fun c o c1 c3 x => hs₃.extBut _ _ c1 (hs₂ _ _ c3 (hs₁.extBut _ _ c1 x))) ⟨oe, hs₃.extBut _ _ hez hoe, hce⟩
def Pt3 (xs ys zs : Array Value) (i : Nat) (vals : Array Value) : Prop := ∃ x y z, xs[i]? = some x ∧ ys[i]? = some y ∧ zs[i]? = some z ∧ vals = #[x, y, z]
theorem walks_zip3 (hh : A.handled = none) {n l1 l2 l3 : Nat} (d1 : l1 < n) (d2 : l2 < n) (d3 : l3 < n) (xs ys zs : Array Value) (hy : ys.size = xs.size) (hz : zs.size = xs.size) :
    WalksU prog w A (n + 5) [n + 5, n + 3, n + 4, n, n + 1, n + 2, l1, l2, l3] [n + 5, n + 4, n, n + 1, n + 2] xs.size (Pt3 xs ys zs)
      (fun i h => Zip3 h n l1 l2 l3 i .none xs ys zs)
      (fun i T h => Zip3 h n l1 l2 l3 (i + 1) (rawInt T) xs ys zs ∧ T ≠ n + 5 ∧ T ≠ n + 4 ∧ T ≠ n ∧ T ≠ n + 1 ∧ T ≠ n + 2) where
  sub := fun c hc => by simp at hc ⊢; rcases hc with rfl | rfl | rfl | rfl | rfl <;> simp
  frame := fun i h h' H hk => by
    obtain ⟨hz, hTI, ⟨a, b, c, hTO⟩, i1, i2, i3, hl1, hl2, hl3⟩ := H
    exact ⟨hk _ (by simp) _ hz, hk _ (by simp) _ hTI, ⟨a, b, c, hk _ (by simp) _ hTO⟩, i1.at fun o e => hk _ (by simp) o e, i2.at fun o e => hk _ (by simp) o e, i3.at fun o e => hk _ (by simp) o e,
      hl1.at fun o e => hk l1 (by simp) o e, hl2.at fun o e => hk l2 (by simp) o e, hl3.at fun o e => hk l3 (by simp) o e⟩
  item := fun i s Q E hi H hQ => by
    have hT : s.TypeIs (.ref (n + 5)) "zip" := ⟨_, H.z, rfl⟩
    have lt : ∀ {c o}, s.heap.get? c = some o → s.heap.objs.size ≠ c := fun e => Nat.ne_of_gt (Heap.lt_size e)
    unfold pyNext
    refine wpAny_bind (wpAny_attempt (wpAny_callSpecial?_slot (name := Str.ofString "__next__") hT PySem.F.slot_zip_next
      (wpAny_call_entry PySem.F.slot_zip_next hT PySem.F.entry_zip_next
        (zip3_item d1 d2 d3 H (Array.getElem?_eq_getElem hi) (Array.getElem?_eq_getElem (by omega : i < ys.size)) (Array.getElem?_eq_getElem (by omega : i < zs.size)) fun h' a1 a2 a3 a4 a5 a6 hk => wpAny_pure ?_) (PySem.F.args_zip_next_1 _))))
    refine hQ s.heap.objs.size _ h' s.toks ⟨_, _, _, Array.getElem?_eq_getElem hi, Array.getElem?_eq_getElem _, Array.getElem?_eq_getElem _, rfl⟩ ⟨_, a6, rfl, _, rfl⟩
      ⟨⟨a1, hk _ _ (nne (by omega)) (nne (by omega)) (nne (by omega)) (nne (by omega)) (nne (by omega)) H.ti, ⟨_, _, _, a2⟩, a3, a4, a5, H.h1.at fun o e => hk _ o (nne (by omega)) (nne (by omega)) (nne (by omega)) (nne (by omega)) (nne (by omega)) e,
        H.h2.at fun o e => hk _ o (nne (by omega)) (nne (by omega)) (nne (by omega)) (nne (by omega)) (nne (by omega)) e, H.h3.at fun o e => hk _ o (nne (by omega)) (nne (by omega)) (nne (by omega)) (nne (by omega)) (nne (by omega)) e⟩,
        lt H.z, (by obtain ⟨a, b, c, e⟩ := H.to; exact lt e), (by obtain ⟨_, e, _⟩ := H.i1; exact lt e), (by obtain ⟨_, e, _⟩ := H.i2; exact lt e), (by obtain ⟨_, e, _⟩ := H.i3; exact lt e)⟩
      fun c o hc e => hk c o (fun x => hc (by simp [x])) (fun x => hc (by simp [x])) (fun x => hc (by simp [x])) (fun x => hc (by simp [x])) (fun x => hc (by simp [x])) e
  go := fun elts k pos i T s Q E hm hQ => by
    obtain ⟨H, _⟩ := hm
    refine wpAny_letOwnedTupleGo_zip H.z fun h' hz' hs' => hQ h' ⟨hz', hs'.extBut _ _ (nne (by omega)) H.ti, (by obtain ⟨a, b, c, e⟩ := H.to; exact ⟨a, b, c, hs'.extBut _ _ (nne (by omega)) e⟩), H.i1.extBut hs'.extBut (nne (by omega)), H.i2.extBut hs'.extBut (nne (by omega)),
      H.i3.extBut hs'.extBut (nne (by omega)), H.h1.extBut hs'.extBut (nne (by omega)), H.h2.extBut hs'.extBut (nne (by omega)), H.h3.extBut hs'.extBut (nne (by omega))⟩ fun c o hc e => hs'.extBut _ _ (fun x => hc (by simp [x])) e
  apart := fun i T h hm hT => by
    obtain ⟨_, t1, t2, t3, t4, t5⟩ := hm
    simp at hT
    rcases hT with rfl | rfl | rfl | rfl | rfl
    · exact t1 rfl
    · exact t2 rfl
    · exact t3 rfl
    · exact t4 rfl
    · exact t5 rfl
  done := fun s Q E H hQ => by
    have hT : s.TypeIs (.ref (n + 5)) "zip" := ⟨_, H.z, rfl⟩
    unfold pyNext
    refine wpAny_bind (wpAny_attempt (wpAny_callSpecial?_slot (name := Str.ofString "__next__") hT PySem.F.slot_zip_next
      (wpAny_call_entry PySem.F.slot_zip_next hT PySem.F.entry_zip_next (zip3_end hh d1 H (Array.getElem?_eq_none (Nat.le_refl _)) fun h' e hk he => ?_) (PySem.F.args_zip_next_1 _))))
    obtain ⟨o, ho, hc⟩ := he
    refine wpAny_bind (wpAny_isInstance (T := "StopIteration") (b := true) ⟨o, ho, hc⟩ isSubtype_stop ?_)
    exact wpAny_pure (hQ _ _ fun c o hc e => hk c o (fun x => hc (by simp [x])) (fun x => hc (by simp [x])) e)
  self := fun i s Q E H hQ => wpAny_pyIter_zip H.z hQ
end
end Mine
end
section
open PySem PySem.W PyProof.Rows PySem.Builtin
namespace Mine
theorem typeCall_zip_3 (a b c : Value) : checkTypeCall "zip" ⟨[a, b, c], []⟩ = pure () := by kernel_rfl
theorem newCall_zip_3 (a b c : Value) : checkBuiltinCall "zip.__new__" ⟨[.type "zip", a, b, c], []⟩ = pure () := by kernel_rfl
theorem args_object_init_4 (a b c d : Value) : argsOk "object.__init__" ⟨[a, b, c, d], []⟩ := by
  unfold argsOk; rw [signature?_of (id := "object.__init__") (n := ['_', '_', 't', 'i', 'n', 'i', '_', '_']) (o := ['t', 'c', 'e', 'j', 'b', 'o']) (by kernel_rfl) PySem.F.owner_object]; kernel_rfl
abbrev li (l : Addr) : Obj := { cls := .type "list_iterator", data := .fields #[.ref l, .int 0 0] }
abbrev zA (h : Heap) (l1 : Addr) : Heap := h.push (li l1)
abbrev zB (h : Heap) (l1 l2 : Addr) : Heap := (zA h l1).push (li l2)
abbrev zC (h : Heap) (l1 l2 l3 : Addr) : Heap := (zB h l1 l2).push (li l3)
abbrev zD (h : Heap) (l1 l2 l3 : Addr) : Heap := (zC h l1 l2 l3).push { cls := .type "tuple", data := .seq #[.ref h.objs.size, .ref (zA h l1).objs.size, .ref (zB h l1 l2).objs.size] }
abbrev zE (h : Heap) (l1 l2 l3 : Addr) : Heap := (zD h l1 l2 l3).push { cls := .type "tuple", data := .seq #[.none, .none, .none] }
abbrev zF (h : Heap) (l1 l2 l3 : Addr) : Heap := (zE h l1 l2 l3).push { cls := .type "zip", data := .fields #[.none, .bool false, .bool false, .ref (zC h l1 l2 l3).objs.size, .ref (zD h l1 l2 l3).objs.size] }
theorem meets_zip3 (l1 l2 l3 : Addr) (xs ys zs : Array Value) :
    Meets (Builtin.«zip.__new__» ⟨[.type "zip", .ref l1, .ref l2, .ref l3], []⟩) (fun _ R s => s.heap.IsList l1 xs ∧ s.heap.IsList l2 ys ∧ s.heap.IsList l3 zs ∧
      R (.ok (.ret (.ref (zE s.heap l1 l2 l3).objs.size))) { s with heap := zF s.heap l1 l2 l3 }) :=
  .of_wp fun prog w A R s h => by
    obtain ⟨hp, g, d, tk, os⟩ := s; obtain ⟨hl1, hl2, hl3, h⟩ := h
    have hsub := sub_zip
    have hL1 : Heap.IsList (Shared.heap ⟨hp, g, d, tk, os⟩) l1 xs := hl1
    have hL2 : Heap.IsList (Shared.heap ⟨hp.push (li l1), g, d, tk, os⟩) l2 ys := Heap.IsList.push hl2 _
    have hL3 : Heap.IsList (Shared.heap ⟨(hp.push (li l1)).push (li l2), g, d, tk, os⟩) l3 zs := Heap.IsList.push (Heap.IsList.push hl3 _) _
    wp_walk using wpAny_pyIter_list hL1, wpAny_pyIter_list hL2, wpAny_pyIter_list hL3
    exact ⟨_, rfl, h⟩
section
variable {w : World} {A : Around} {E : Value → Shared → Prop} {s : Shared}
theorem call_zip3 {l1 l2 l3 : Addr} {xs ys zs : Array Value} {Q : Value → Shared → Prop} (hl1 : s.heap.IsList l1 xs) (hl2 : s.heap.IsList l2 ys) (hl3 : s.heap.IsList l3 zs)
    (h : ∀ h', Zip3 h' s.heap.objs.size l1 l2 l3 0 .none xs ys zs → h'.objs.size = s.heap.objs.size + 6 → Ext s.heap h' → Q (.ref (s.heap.objs.size + 5)) { s with heap := h' }) :
    wpAny (model prog w) A (call (.type "zip") [.ref l1, .ref l2, .ref l3]) Q E s := by
  refine callType_new PySem.F.called_zip (by decide) (typeCall_zip_3 _ _ _) (newCall_zip_3 _ _ _) (fun obj => args_object_init_4 obj _ _ _) PySem.F.entry_zip_new
    (meets_zip3 l1 l2 l3 xs ys zs) ⟨hl1, hl2, hl3, ?_⟩
  have z1 : (zA s.heap l1).objs.size = s.heap.objs.size + 1 := Heap.size_push ..
  have z2 : (zB s.heap l1 l2).objs.size = s.heap.objs.size + 2 := by rw [Heap.size_push, z1]
  have z3 : (zC s.heap l1 l2 l3).objs.size = s.heap.objs.size + 3 := by rw [Heap.size_push, z2]
  have z4 : (zD s.heap l1 l2 l3).objs.size = s.heap.objs.size + 4 := by rw [Heap.size_push, z3]
  have z5 : (zE s.heap l1 l2 l3).objs.size = s.heap.objs.size + 5 := by rw [Heap.size_push, z4]
  have z6 : (zF s.heap l1 l2 l3).objs.size = s.heap.objs.size + 6 := by rw [Heap.size_push, z5]
  have g6 : (zF s.heap l1 l2 l3).get? (zE s.heap l1 l2 l3).objs.size = some _ := Heap.get?_push_size _ rfl
  have g5 : (zF s.heap l1 l2 l3).get? (zD s.heap l1 l2 l3).objs.size = some _ := Heap.get?_push_of_some _ (Heap.get?_push_size _ rfl)
  have g4 : (zF s.heap l1 l2 l3).get? (zC s.heap l1 l2 l3).objs.size = some _ := Heap.get?_push_of_some _ (Heap.get?_push_of_some _ (Heap.get?_push_size _ rfl))
  have g3 : (zF s.heap l1 l2 l3).get? (zB s.heap l1 l2).objs.size = some _ := Heap.get?_push_of_some _ (Heap.get?_push_of_some _ (Heap.get?_push_of_some _ (Heap.get?_push_size _ rfl)))
  have g2 : (zF s.heap l1 l2 l3).get? (zA s.heap l1).objs.size = some _ := Heap.get?_push_of_some _ (Heap.get?_push_of_some _ (Heap.get?_push_of_some _ (Heap.get?_push_of_some _ (Heap.get?_push_size _ rfl))))
  have g1 : (zF s.heap l1 l2 l3).get? s.heap.objs.size = some _ := Heap.get?_push_of_some _ (Heap.get?_push_of_some _ (Heap.get?_push_of_some _ (Heap.get?_push_of_some _ (Heap.get?_push_of_some _ (Heap.get?_push_size _ rfl)))))
  have keep : Ext s.heap (zF s.heap l1 l2 l3) := fun c o x => Heap.get?_push_of_some _ (Heap.get?_push_of_some _ (Heap.get?_push_of_some _ (Heap.get?_push_of_some _ (Heap.get?_push_of_some _ (Heap.get?_push_of_some _ x)))))
  show _ ∧ _
  rw [z3, z4, z5] at g6
  rw [z1, z2, z3] at g4
  rw [z4] at g5
  rw [z2] at g3
  rw [z1] at g2
  rw [z5]
  exact ⟨⟨_, g6, rfl⟩, h _ ⟨g6, g4, ⟨_, _, _, g5⟩, ⟨_, g1, rfl, rfl⟩, ⟨_, g2, rfl, rfl⟩, ⟨_, g3, rfl, rfl⟩, hl1.at fun o e => keep _ o e, hl2.at fun o e => keep _ o e, hl3.at fun o e => keep _ o e⟩ z6 keep⟩
end
end Mine
end
section
open PySem PySem.W PyProof.Rows PySem.Builtin
namespace Mine
/-! the plain law: no program in sight -/
def inR (rs : List (Nat × Nat)) (n : Nat) : Bool := rs.any fun p => decide (p.1 ≤ n) && decide (n ≤ p.2)
def b1L : List Int := [65024, 65025, 65026, 65027, 65028, 65029, 6150, 65030, 65031, 65032, 65033, 6155, 6156, 6157, 8203, 8204, 8205, 65034, 65035, 65036, 65037, 65038, 65039, 173, 847, 8288, 65279]
def b1R : List (Nat × Nat) := [(173, 173), (847, 847), (6150, 6150), (6155, 6157), (8203, 8205), (8288, 8288), (65024, 65039), (65279, 65279)]
def c6L : List Int := [65529, 65530, 65531, 65532, 65533]
def c6R : List (Nat × Nat) := [(65529, 65533)]
def c7L : List Int := [12272, 12273, 12274, 12275, 12276, 12277, 12278, 12279, 12280, 12281, 12282, 12283]
def c7R : List (Nat × Nat) := [(12272, 12283)]
def c8L : List Int := [832, 833, 8234, 8235, 8236, 8237, 8206, 8207, 8238, 8298, 8299, 8300, 8301, 8302, 8303]
def c8R : List (Nat × Nat) := [(832, 833), (8206, 8207), (8234, 8238), (8298, 8303)]
def c9L : List Int := [917505, 917536, 917537, 917538, 917539, 917540, 917541, 917542, 917543, 917544, 917545, 917546, 917547, 917548, 917549, 917550, 917551, 917552, 917553, 917554, 917555, 917556, 917557, 917558, 917559, 917560, 917561, 917562, 917563, 917564, 917565, 917566, 917567, 917568, 917569, 917570, 917571, 917572, 917573, 917574, 917575, 917576, 917577, 917578, 917579, 917580, 917581, 917582, 917583, 917584, 917585, 917586, 917587, 917588, 917589, 917590, 917591, 917592, 917593, 917594, 917595, 917596, 917597, 917598, 917599, 917600, 917601, 917602, 917603, 917604, 917605, 917606, 917607, 917608, 917609, 917610, 917611, 917612, 917613, 917614, 917615, 917616, 917617, 917618, 917619, 917620, 917621, 917622, 917623, 917624, 917625, 917626, 917627, 917628, 917629, 917630, 917631]
def c9R : List (Nat × Nat) := [(917505, 917505), (917536, 917631)]
def liesR : List (Nat × Nat) := [(32, 32), (173, 173), (832, 833), (847, 847), (6150, 6150), (6155, 6157), (8203, 8205), (8206, 8207), (8234, 8238), (8288, 8288), (8298, 8303), (12272, 12283), (64976, 65007), (65024, 65039), (65279, 65279), (65529, 65533), (917505, 917505), (917536, 917631)]
def liesN (n : Nat) : Bool := n == 37 || decide (65533 < n % 65536) || inR liesR n
theorem inR_cons (p : Nat × Nat) (rs : List (Nat × Nat)) (n : Nat) : inR (p :: rs) n = (decide (p.1 ≤ n) && decide (n ≤ p.2) || inR rs n) := rfl
theorem inR_append (rs ss : List (Nat × Nat)) (n : Nat) : inR (rs ++ ss) n = (inR rs n || inR ss n) := List.any_append
theorem inR_sub {rs ss : List (Nat × Nat)} (h : (rs.all fun p => ss.contains p) = true) {n : Nat} (hn : inR rs n = true) : inR ss n = true := by
  unfold inR at *
  rw [List.any_eq_true] at hn ⊢
  obtain ⟨p, hp, e⟩ := hn
  exact ⟨p, List.contains_iff_mem.mp (List.all_eq_true.mp h p hp), e⟩
theorem inR_same {rs ss : List (Nat × Nat)} (h1 : (rs.all fun p => ss.contains p) = true) (h2 : (ss.all fun p => rs.contains p) = true) (n : Nat) : inR rs n = inR ss n := by
  rw [Bool.eq_iff_iff]; exact ⟨inR_sub h1, inR_sub h2⟩
theorem any_inR (L : List Int) (rs : List (Nat × Nat)) (h1 : (L.all fun v => decide (0 ≤ v) && inR rs v.toNat) = true) (h2 : (rs.all fun p => (List.range (p.2 + 1 - p.1)).all fun i => L.contains ((p.1 + i : Nat) : Int)) = true) (n : Nat) :
    L.any (fun v => Value.isInt (n : Int) (.int v 0)) = inR rs n := by
  rw [Bool.eq_iff_iff, List.any_eq_true]
  constructor
  · rintro ⟨v, hv, e⟩
    have e' : v = (n : Int) := by simpa [Value.isInt] using e
    subst e'
    have := List.all_eq_true.mp h1 _ hv
    simp only [Bool.and_eq_true, Int.toNat_natCast] at this
    exact this.2
  · intro hn
    unfold inR at hn
    rw [List.any_eq_true] at hn
    obtain ⟨p, hp, e⟩ := hn
    simp only [Bool.and_eq_true, decide_eq_true_eq] at e
    have h3 := List.all_eq_true.mp (List.all_eq_true.mp h2 p hp) (n - p.1) (List.mem_range.mpr (by omega))
    rw [show p.1 + (n - p.1) = n by omega] at h3
    exact ⟨(n : Int), List.contains_iff_mem.mp h3, by simp [Value.isInt]⟩
theorem b1_eq (P : Params) (n : Nat) : b1S P n = inR b1R n := by
  rw [← any_inR b1L b1R (by decide +kernel) (by decide +kernel) n]; kernel_rfl
theorem c6_eq (P : Params) (n : Nat) : c6S P n = inR c6R n := by
  rw [← any_inR c6L c6R (by decide +kernel) (by decide +kernel) n]; kernel_rfl
theorem c7_eq (P : Params) (n : Nat) : c7S P n = inR c7R n := by
  rw [← any_inR c7L c7R (by decide +kernel) (by decide +kernel) n]; kernel_rfl
theorem c8_eq (P : Params) (n : Nat) : c8S P n = inR c8R n := by
  rw [← any_inR c8L c8R (by decide +kernel) (by decide +kernel) n]; kernel_rfl
theorem c9_eq (P : Params) (n : Nat) : c9S P n = inR c9R n := by
  rw [← any_inR c9L c9R (by decide +kernel) (by decide +kernel) n]; kernel_rfl
theorem c4_eq (n : Nat) : (!decide (n < 64976) && (decide (n < 65008) || decide (65533 < n % 65536))) = (inR [(64976, 65007)] n || decide (65533 < n % 65536)) := by
  simp only [inR, List.any_cons, List.any_nil, Bool.or_false]
  rw [Bool.eq_iff_iff]
  simp only [Bool.and_eq_true, Bool.or_eq_true, Bool.not_eq_true', decide_eq_true_eq, decide_eq_false_iff_not]
  omega
theorem held_eq (P : Params) (n : Nat) : heldB P n = (decide (65533 < n % 65536) || inR liesR n) := by
  unfold heldB
  rw [b1_eq, c6_eq, c7_eq, c8_eq, c9_eq, c4_eq, show (n == 32) = inR [(32, 32)] n by
    simp only [inR, List.any_cons, List.any_nil, Bool.or_false]
    rw [Bool.eq_iff_iff]; simp only [beq_iff_eq, Bool.and_eq_true, decide_eq_true_eq]; omega]
  rw [inR_same (rs := liesR) (ss := b1R ++ ([(32, 32)] ++ ([(64976, 65007)] ++ (c6R ++ (c7R ++ (c8R ++ c9R)))))) (by decide +kernel) (by decide +kernel) n]
  simp only [inR_append]
  generalize inR b1R n = a; generalize inR c6R n = b; generalize inR c7R n = c; generalize inR c8R n = d; generalize inR c9R n = e; generalize inR [(32, 32)] n = f; generalize inR [(64976, 65007)] n = g
  generalize decide (65533 < n % 65536) = h
  revert a b c d e f g h; decide
theorem lies_held (P : Params) (n : Nat) : liesN n = (n == 37 || heldB P n) := by
  rw [held_eq]; unfold liesN; rw [Bool.or_assoc]
theorem b1_lies {P : Params} {n : Nat} (h : b1S P n = true) : liesN n = true := by
  rw [lies_held P, show heldB P n = true by unfold heldB; rw [h]; rfl]; simp
theorem held_lies {P : Params} {n : Nat} (h : heldB P n = true) : liesN n = true := by
  rw [lies_held P, h]; simp
theorem liesB_eq (n : Nat) : liesB n = liesN n := by
  unfold liesB liesN
  have e : ∀ c : Int, ((rangeInts 0 2 18).any fun a => decide (endsL.getD a.toNat 0 ≤ c) && decide (c ≤ endsL.getD (a + 1).toNat 0)) = ((liesR.map fun p => ((p.1 : Int), (p.2 : Int))).any fun p => decide (p.1 ≤ c) && decide (c ≤ p.2)) := fun c => by kernel_rfl
  rw [e, List.any_map]
  have e2 : (fun p : Nat × Nat => decide ((p.1 : Int) ≤ (n : Int)) && decide ((n : Int) ≤ (p.2 : Int))) = fun p => decide (p.1 ≤ n) && decide (n ≤ p.2) := by
    funext p; simp
  rw [show ((fun p : Int × Int => decide (p.1 ≤ (n : Int)) && decide ((n : Int) ≤ p.2)) ∘ fun p : Nat × Nat => ((p.1 : Int), (p.2 : Int))) = fun p => decide (p.1 ≤ n) && decide (n ≤ p.2) from e2]
  unfold inR
  congr 1
  rw [Int.fmod_eq_emod_of_nonneg _ (by decide)]
  congr 1
  · rw [Bool.eq_iff_iff]; simp only [beq_iff_eq]; omega
  · rw [decide_eq_decide]; omega
/-! the dict -/
def entryOk (e : DictEntry) : Bool := match e.key, e.val with
  | .int k _, .str s _ => decide (128 ≤ k) && !liesN k.toNat && (if k == 890 then s.cps.toList == [32, 953] else s.cps.toList.all fun z => !liesN z)
  | _, _ => false
theorem dict_ok (P : Params) : (dictEs (o187 P)).all entryOk = true := by kernel_rfl
theorem b3_890 (P : Params) : (b3V P 890).isSome = true := by unfold b3V; kernel_rfl
theorem b3_some {P : Params} {n : Nat} {v : Value} (h : b3V P n = some v) : 128 ≤ n ∧ liesN n = false ∧ (if n = 890 then (strOf v).cps.toList = [32, 953] else ∀ z ∈ (strOf v).cps.toList, liesN z = false) := by
  unfold b3V at h
  rw [Option.map_eq_some_iff] at h
  obtain ⟨e, h1, rfl⟩ := h
  have h2 := List.all_eq_true.mp (dict_ok P) e (List.mem_of_find?_eq_some h1)
  have h3 := List.find?_some h1
  obtain ⟨x, k, v⟩ := e
  cases k <;> cases v <;> simp only [entryOk, Bool.false_eq_true] at h2
  rename_i k t s u
  have e' : k = (n : Int) := by simpa [Value.isInt] using h3
  subst e'
  simp only [Bool.and_eq_true, decide_eq_true_eq, Bool.not_eq_true', Int.toNat_natCast] at h2
  obtain ⟨⟨a, b⟩, c⟩ := h2
  refine ⟨by omega, b, ?_⟩
  by_cases h8 : n = 890
  · subst h8
    rw [if_pos rfl]
    rw [if_pos (by decide)] at c
    show s.cps.toList = _
    simpa using c
  · rw [if_neg h8]
    rw [if_neg (by simp; omega)] at c
    intro z hz
    have := List.all_eq_true.mp c z hz
    simpa using this
/-! lower -/
theorem lower_one (n : Nat) : (Txt.lower ⟨#[n]⟩).cps.toList = Unicode.lowerOf n := by
  unfold Txt.lower placed
  simp [Unicode.lowerAt, Unicode.endsWord]
def apartR (a b : Nat) : Bool := decide (a / 65536 = b / 65536) && decide (b % 65536 ≤ 65533) && (decide (b < 37) || decide (37 < a)) && liesR.all fun p => decide (b < p.1) || decide (p.2 < a)
theorem apart_lies {a b n : Nat} (h : apartR a b = true) (h1 : a ≤ n) (h2 : n ≤ b) : liesN n = false := by
  unfold apartR at h
  simp only [Bool.and_eq_true, Bool.or_eq_true, decide_eq_true_eq] at h
  obtain ⟨⟨⟨e1, e2⟩, e3⟩, e4⟩ := h
  unfold liesN
  rw [show (n == 37) = false by simp; omega, show decide (65533 < n % 65536) = false by simp; omega]
  simp only [Bool.false_or]
  unfold inR
  rw [List.any_eq_false]
  intro p hp
  have := List.all_eq_true.mp e4 p hp
  simp only [Bool.or_eq_true, decide_eq_true_eq] at this
  simp only [Bool.and_eq_true, decide_eq_true_eq]
  omega
theorem low_ok : (UnicodeData.oneLower.all fun p => decide (p.1 ≤ p.2.1) && apartR p.1 p.2.1 && apartR p.2.2 (p.2.2 + (p.2.1 - p.1))) = true := by decide +kernel
theorem shifted_some {c m : Nat} : ∀ {tb : List (Nat × Nat × Nat)}, Unicode.shifted tb c = some m → ∃ p ∈ tb, p.1 ≤ c ∧ c ≤ p.2.1 ∧ m = p.2.2 + (c - p.1)
  | [], h => by simp [Unicode.shifted] at h
  | (a, b, t) :: r, h => by
    unfold Unicode.shifted at h
    split at h
    · cases h
    · split at h
      · rename_i h1 h2
        cases h
        exact ⟨_, .head _, Nat.le_of_not_lt h1, h2, rfl⟩
      · obtain ⟨p, hp, q⟩ := shifted_some h
        exact ⟨p, .tail _ hp, q⟩
theorem low_cases (n : Nat) : (n = 304 ∧ Unicode.lowerOf n = [105, 775]) ∨ Unicode.lowerOf n = [n] ∨ (liesN n = false ∧ ∃ m, Unicode.lowerOf n = [m] ∧ liesN m = false) := by
  unfold Unicode.lowerOf Unicode.image
  by_cases h : n = 304
  · subst h; exact .inl ⟨rfl, by decide +kernel⟩
  · have e : UnicodeData.severalLower.lookup n = none := by
      have hb : (n == 304) = false := by simpa using h
      show List.lookup n [(304, [105, 775])] = none
      simp [List.lookup, hb]
    rw [e]
    dsimp only
    cases hs : Unicode.shifted UnicodeData.oneLower n with
    | none => exact .inr (.inl rfl)
    | some m =>
      right; right
      obtain ⟨p, hp, h1, h2, h3⟩ := shifted_some hs
      have := List.all_eq_true.mp low_ok p hp
      simp only [Bool.and_eq_true, decide_eq_true_eq] at this
      exact ⟨apart_lies this.1.2 h1 h2, m, rfl, apart_lies this.2 (by omega) (by omega)⟩
theorem low_lies {n : Nat} (h : liesN n = true) : Unicode.lowerOf n = [n] := by
  rcases low_cases n with ⟨rfl, _⟩ | e | ⟨e, _⟩
  · exact absurd h (by decide +kernel)
  · exact e
  · rw [h] at e; cases e
theorem low_free {n : Nat} (h : liesN n = false) : ∀ z ∈ Unicode.lowerOf n, liesN z = false := by
  rcases low_cases n with ⟨rfl, e⟩ | e | ⟨_, m, e, hm⟩
  · rw [e]; decide +kernel
  · rw [e]; intro z hz; rw [List.mem_singleton.mp hz]; exact h
  · rw [e]; intro z hz; rw [List.mem_singleton.mp hz]; exact hm
theorem low_ascii : ∀ n, n < 128 → Unicode.lowerOf n = [if 65 ≤ n ∧ n ≤ 90 then n + 32 else n] := by decide +kernel
/-! what a sign folds to -/
noncomputable def foldL (P : Params) (n : Nat) : List Nat := (foldS P n).cps.toList
theorem fold_none {P : Params} {n : Nat} (h : b3V P n = none) : foldL P n = Unicode.lowerOf n := by
  unfold foldL foldS; rw [h]; exact lower_one n
theorem fold_ascii {P : Params} {n : Nat} (h : n < 128) : foldL P n = [if 65 ≤ n ∧ n ≤ 90 then n + 32 else n] := by
  cases e : b3V P n with
  | none => rw [fold_none e]; exact low_ascii n h
  | some v => have := (b3_some e).1; omega
theorem fold_lies {P : Params} {n : Nat} (h : liesN n = true) : foldL P n = [n] := by
  cases e : b3V P n with
  | none => rw [fold_none e]; exact low_lies h
  | some v => have := (b3_some e).2.1; rw [h] at this; cases this
theorem fold_890 (P : Params) : foldL P 890 = [32, 953] := by
  cases e : b3V P 890 with
  | none => have := b3_890 P; rw [e] at this; cases this
  | some v =>
    have := (b3_some (n := 890) e).2.2
    rw [if_pos rfl] at this
    unfold foldL foldS
    rw [show b3V P ((890 : Nat) : Int) = some v from e]
    exact this
theorem fold_free {P : Params} {n : Nat} (h : liesN n = false) (h8 : n ≠ 890) : ∀ z ∈ foldL P n, liesN z = false := by
  cases e : b3V P n with
  | none => rw [fold_none e]; exact low_free h
  | some v =>
    have := (b3_some e).2.2
    rw [if_neg h8] at this
    unfold foldL foldS
    rw [e]
    exact this
/-! the figures -/
def figU : List Nat := [48, 49, 50, 51, 52, 53, 54, 55, 56, 57, 65, 66, 67, 68, 69, 70]
def figLo : List Nat := [48, 49, 50, 51, 52, 53, 54, 55, 56, 57, 97, 98, 99, 100, 101, 102]
theorem digU : ∀ d, d < 16 → (Bytes.toUpper (Bytes.hexDigit d).toUInt8).toNat = figU.getD d 0 := by decide +kernel
theorem figL_eq (n : Nat) (sg : List Nat) : figL n sg = [sg.getD (n / 1048576 % 16) 0, sg.getD (n / 65536 % 16) 0, sg.getD (n / 4096 % 16) 0, sg.getD (n / 256 % 16) 0, sg.getD (n / 16 % 16) 0, sg.getD (n % 16) 0] := by
  unfold figL
  simp [List.range, List.range.loop]
theorem byte_nat (n : Nat) (h : n < 256) : n.toUInt8.toNat = n := by
  show n % 256 = n
  omega
theorem up_fig (n : Nat) (hn : n < 1114112) : (upC [(n / 65536).toUInt8, (n / 256 % 256).toUInt8, (n % 256).toUInt8]).map (·.toNat) = figL n figU := by
  rw [figL_eq]
  have e1 := byte_nat (n / 65536) (by omega)
  have e2 := byte_nat (n / 256 % 256) (by omega)
  have e3 := byte_nat (n % 256) (by omega)
  simp only [upC, hexC, List.flatMap_cons, List.flatMap_nil, List.cons_append, List.nil_append, List.map_cons, List.map_nil, e1, e2, e3]
  rw [digU _ (by omega), digU _ (by omega), digU _ (by omega), digU _ (by omega), digU _ (by omega), digU _ (by omega)]
  rw [show n / 65536 / 16 = n / 1048576 % 16 by omega, show n / 256 % 256 / 16 = n / 4096 % 16 by omega, show n / 256 % 256 % 16 = n / 256 % 16 by omega, show n % 256 / 16 = n / 16 % 16 by omega, show n % 256 % 16 = n % 16 by omega]
/-! sign by sign -/
theorem shield_eq {P : Params} {n : Nat} (hn : n < 1114112) : shieldL P n = if liesN n then 37 :: figL n figU else [n] := by
  unfold shieldL
  rw [up_fig n hn, lies_held P]
  by_cases h : n = 37
  · subst h; rfl
  · have : (n == 37) = false := by simpa using h
    rw [this]
    cases hh : heldB P n <;> simp [h]
theorem getD_lt (sg : List Nat) (hs : sg.length = 16) (d : Nat) (hd : d < 16) : sg.getD d 0 ∈ sg := by
  rw [List.getD_eq_getElem?_getD, List.getElem?_eq_getElem (by omega)]
  exact List.getElem_mem _
theorem mem_figL {n z : Nat} {sg : List Nat} (hs : sg.length = 16) (h : z ∈ figL n sg) : z ∈ sg := by
  rw [figL_eq] at h
  simp only [List.mem_cons, List.not_mem_nil, or_false] at h
  rcases h with rfl | rfl | rfl | rfl | rfl | rfl <;> exact getD_lt sg hs _ (by omega)
theorem figs_free : (∀ z ∈ figU, liesN z = false ∧ z < 128) ∧ ∀ z ∈ figLo, liesN z = false ∧ z < 128 := by decide +kernel
theorem prepL_one (P : Params) (n : Nat) : prepL P [n] = if b1S P n then [] else foldL P n := by
  unfold prepL
  cases h : b1S P n <;> simp [h, foldL]
theorem prepL_append (P : Params) (x y : List Nat) : prepL P (x ++ y) = prepL P x ++ prepL P y := by
  unfold prepL; rw [List.filter_append, List.flatMap_append]
theorem prepL_cons (P : Params) (n : Nat) (x : List Nat) : prepL P (n :: x) = (if b1S P n then [] else foldL P n) ++ prepL P x := by
  rw [← prepL_one, ← prepL_append]; rfl
theorem prepL_flat (P : Params) (f : Nat → List Nat) : ∀ l : List Nat, prepL P (l.flatMap f) = l.flatMap fun n => prepL P (f n)
  | [] => rfl
  | a :: l => by rw [List.flatMap_cons, List.flatMap_cons, prepL_append, prepL_flat P f l]
theorem b1_not {P : Params} {n : Nat} (h : liesN n = false) : b1S P n = false := by
  cases e : b1S P n with
  | false => rfl
  | true => rw [b1_lies e] at h; cases h
theorem held_not {P : Params} {n : Nat} (h : liesN n = false) : heldB P n = false := by
  cases e : heldB P n with
  | false => rfl
  | true => rw [held_lies e] at h; cases h
theorem held_37 (P : Params) : heldB P 37 = false := by rw [held_eq]; decide +kernel
theorem b1_37 (P : Params) : b1S P 37 = false := by rw [show (37 : Int) = ((37 : Nat) : Int) from rfl, b1_eq]; decide +kernel
theorem dig_fold {P : Params} {d : Nat} (hd : d < 16) : (if b1S P (figU.getD d 0 : Nat) then [] else foldL P (figU.getD d 0)) = [figLo.getD d 0] := by
  have hm := figs_free.1 _ (getD_lt figU rfl d hd)
  rw [b1_not hm.1, if_neg (by decide), fold_ascii hm.2]
  have : ∀ d, d < 16 → (if 65 ≤ figU.getD d 0 ∧ figU.getD d 0 ≤ 90 then figU.getD d 0 + 32 else figU.getD d 0) = figLo.getD d 0 := by decide +kernel
  rw [this d hd]
theorem prep_fig (P : Params) (n : Nat) : prepL P (37 :: figL n figU) = 37 :: figL n figLo := by
  rw [figL_eq, figL_eq]
  simp only [prepL_cons]
  rw [dig_fold (by omega), dig_fold (by omega), dig_fold (by omega), dig_fold (by omega), dig_fold (by omega), dig_fold (by omega)]
  rw [show b1S P ((37 : Nat) : Int) = false from b1_37 P, if_neg (by decide), fold_ascii (by decide)]
  rfl
theorem lawFold_lies (P : Params) {n : Nat} (h : liesN n = true) : lawFoldL P n (liesN n) = [n] := by rw [h]; rfl
theorem lawFold_free (P : Params) {n : Nat} (h : liesN n = false) : lawFoldL P n (liesN n) = foldL P n := by
  rw [h]
  unfold lawFoldL
  rw [if_neg (by decide)]
  by_cases hn : n < 128
  · rw [if_pos hn, fold_ascii hn]
  · rw [if_neg hn]; rfl
theorem prep_shield {P : Params} {n : Nat} (hn : n < 1114112) : prepL P (shieldL P n) = if liesN n then 37 :: figL n figLo else lawFoldL P n (liesN n) := by
  rw [shield_eq hn]
  cases h : liesN n with
  | true => rw [if_pos rfl, if_pos rfl]; exact prep_fig P n
  | false =>
    rw [if_neg (by decide), if_neg (by decide), prepL_one, b1_not h, if_neg (by decide)]
    have := lawFold_free P h
    rw [h] at this; exact this.symm
theorem filter_none {f : Nat → Bool} {l : List Nat} (h : ∀ z ∈ l, f z = false) : l.filter f = [] := by
  rw [List.filter_eq_nil_iff]; intro z hz; rw [h z hz]; decide
theorem held_shield {P : Params} {n : Nat} (hn : n < 1114112) : (shieldL P n).filter (heldB P) = [] := by
  rw [shield_eq hn]
  refine filter_none fun z hz => ?_
  cases h : liesN n with
  | true =>
    rw [h, if_pos rfl] at hz
    rcases List.mem_cons.mp hz with rfl | hz
    · exact held_37 P
    · exact held_not (figs_free.1 z (mem_figL rfl hz)).1
  | false =>
    rw [h, if_neg (by decide)] at hz
    rw [List.mem_singleton.mp hz]; exact held_not h
theorem held_small {P : Params} {n : Nat} : (if liesN n then 37 :: figL n figLo else lawFoldL P n (liesN n)).filter (heldB P) = if n = 890 then [32] else [] := by
  cases h : liesN n with
  | true =>
    rw [if_pos rfl, if_neg (by rintro rfl; exact absurd h (by decide +kernel))]
    refine filter_none fun z hz => ?_
    rcases List.mem_cons.mp hz with rfl | hz
    · exact held_37 P
    · exact held_not (figs_free.2 z (mem_figL rfl hz)).1
  | false =>
    rw [if_neg (by decide)]
    have e := lawFold_free P h
    rw [h] at e
    rw [e]
    by_cases h8 : n = 890
    · subst h8
      rw [fold_890, if_pos rfl]
      have h1 : heldB P 32 = true := by rw [held_eq]; decide +kernel
      have h2 : heldB P 953 = false := by rw [held_eq]; decide +kernel
      rw [List.filter_cons_of_pos h1, List.filter_cons_of_neg (by rw [h2]; decide)]; rfl
    · rw [if_neg h8]
      exact filter_none fun z hz => held_not (fold_free h h8 z hz)
theorem fold_no37 {P : Params} {n : Nat} (h : liesN n = false) : ∀ z ∈ foldL P n, z ≠ 37 ∧ b1S P z = false := by
  intro z hz
  by_cases h8 : n = 890
  · subst h8
    rw [fold_890] at hz
    simp only [List.mem_cons, List.not_mem_nil, or_false] at hz
    rcases hz with rfl | rfl
    · exact ⟨by decide, by rw [b1_eq]; decide +kernel⟩
    · exact ⟨by decide, by rw [b1_eq]; decide +kernel⟩
  · have := fold_free h h8 z hz
    exact ⟨by rintro rfl; exact absurd this (by decide +kernel), b1_not this⟩
theorem last_one {P : Params} {n : Nat} : (lawFoldL P n (liesN n)).filter (fun z : Nat => !b1S P z) = prepL P [n] := by
  rw [prepL_one]
  cases h : liesN n with
  | true =>
    rw [show lawFoldL P n true = [n] from rfl]
    cases hb : b1S P n with
    | true => rw [if_pos rfl]; simp [hb]
    | false => rw [if_neg (by decide), fold_lies h]; simp [hb]
  | false =>
    have e := lawFold_free P h
    rw [h] at e
    rw [e, b1_not h, if_neg (by decide)]
    rw [List.filter_eq_self]
    intro z hz
    rw [(fold_no37 h z hz).2]; rfl
/-! the whole -/
theorem flat_congr {f g : Nat → List Nat} : ∀ {l : List Nat}, (∀ n ∈ l, f n = g n) → l.flatMap f = l.flatMap g
  | [], _ => rfl
  | a :: l, h => by rw [List.flatMap_cons, List.flatMap_cons, h a (.head _), flat_congr fun n hn => h n (.tail _ hn)]
theorem filter_flat {p : Nat → Bool} {f : Nat → List Nat} : ∀ l : List Nat, (l.flatMap f).filter p = l.flatMap fun n => (f n).filter p
  | [] => rfl
  | a :: l => by rw [List.flatMap_cons, List.flatMap_cons, List.filter_append, filter_flat l]
theorem law_A (P : Params) {cs : List Nat} (hc : ∀ n ∈ cs, n < 1114112) : cs.flatMap (shieldL P) = cs.flatMap fun n => if liesN n then 37 :: figL n figU else [n] :=
  flat_congr fun n hn => shield_eq (hc n hn)
theorem law_B (P : Params) {cs : List Nat} (hc : ∀ n ∈ cs, n < 1114112) : (cs.flatMap (shieldL P)).filter (heldB P) = [] := by
  rw [filter_flat, flat_congr fun n hn => held_shield (hc n hn)]; simp
theorem law_C (P : Params) {cs : List Nat} (hc : ∀ n ∈ cs, n < 1114112) : prepL P (cs.flatMap (shieldL P)) = cs.flatMap fun n => if liesN n then 37 :: figL n figLo else lawFoldL P n (liesN n) := by
  rw [prepL_flat]; exact flat_congr fun n hn => prep_shield (hc n hn)
theorem count_flat : ∀ cs : List Nat, (cs.flatMap fun n => if n = 890 then [32] else ([] : List Nat)) = List.replicate (cs.count 890) 32
  | [] => rfl
  | a :: cs => by
    rw [List.flatMap_cons, count_flat cs, List.count_cons]
    by_cases h : a = 890
    · subst h; rw [if_pos rfl, if_pos (by decide), List.replicate_succ]; rfl
    · rw [if_neg h, if_neg (by simpa using h)]; rfl
theorem law_D (P : Params) {cs : List Nat} (hc : ∀ n ∈ cs, n < 1114112) : (prepL P (cs.flatMap (shieldL P))).filter (heldB P) = List.replicate (cs.count 890) 32 := by
  rw [law_C P hc, filter_flat, flat_congr fun n hn => held_small, count_flat]
theorem law_F (P : Params) (cs : List Nat) : (cs.flatMap fun n => lawFoldL P n (liesN n)).filter (fun z : Nat => !b1S P z) = prepL P cs := by
  rw [filter_flat, flat_congr fun n hn => last_one, ← prepL_flat P fun n => [n]]
  congr 1
  induction cs with
  | nil => rfl
  | cons a l ih => rw [List.flatMap_cons, ih]; rfl
theorem fmod_in (a k : Int) (hk : 0 < k) : 0 ≤ a.fmod k ∧ a.fmod k < k := ⟨Int.fmod_nonneg_of_pos _ hk, Int.fmod_lt_of_pos _ hk⟩
theorem code_a (r : Int) (h : 0 ≤ r ∧ r < 1112064) : 0 ≤ (if r < 55296 then r else r + 2048) ∧ (if r < 55296 then r else r + 2048) < 1114112 := by split <;> omega
theorem code_b (e o : Int) (h : 32 ≤ e ∧ e ≤ 917631) (ho : -1 ≤ o ∧ o ≤ 1) : 0 ≤ e + o ∧ e + o < 1114112 := by omega
theorem code_o (q : Int) : -1 ≤ (if q = 0 then (0 : Int) else if q = 1 then 1 else -1) ∧ (if q = 0 then (0 : Int) else if q = 1 then 1 else -1) ≤ 1 := by
  split
  · decide
  · split <;> decide
theorem code_c (r q : Int) (h : 0 ≤ r ∧ r < 17) (h' : 0 ≤ q ∧ q < 4) : 0 ≤ 65536 * r + 65532 + q ∧ 65536 * r + 65532 + q < 1114112 := by omega
theorem code_d (r : Int) (h : 0 ≤ r ∧ r < 128) : 0 ≤ r ∧ r < 1114112 := by omega
theorem ends_in : ∀ k, k < 36 → 32 ≤ endsL.getD k 0 ∧ endsL.getD k 0 ≤ 917631 := by decide +kernel
theorem nat36 (r : Int) (h : 0 ≤ r ∧ r < 36) : r.toNat < 36 := by omega
theorem codeOf_in (x : Int) : 0 ≤ codeOf x ∧ codeOf x < 1114112 := by
  unfold codeOf
  split
  · exact code_a _ (fmod_in _ _ (by decide))
  · split
    · exact code_b _ _ (ends_in _ (nat36 _ (fmod_in _ _ (by decide)))) (code_o _)
    · split
      · exact code_c _ _ (fmod_in _ _ (by decide)) (fmod_in _ _ (by decide))
      · exact code_d _ (fmod_in _ _ (by decide))
end Mine
end
section
open PySem PySem.W PyProof.Rows PySem.Builtin
namespace Mine
/-! the blocks that are read back -/
theorem dig_blkU : ∀ a, a < 16 → figU.getD a 0 < 128 ∧ isHexU (upB false (figU.getD a 0)).toNat = true ∧ hexv (upB false (figU.getD a 0)).toNat = a := by decide +kernel
theorem dig_blkL : ∀ a, a < 16 → figLo.getD a 0 < 128 ∧ isHexU (upB true (figLo.getD a 0)).toNat = true ∧ hexv (upB true (figLo.getD a 0)).toNat = a := by decide +kernel
theorem blk_fig {cf : Bool} {sg : List Nat} (h : ∀ a, a < 16 → sg.getD a 0 < 128 ∧ isHexU (upB cf (sg.getD a 0)).toNat = true ∧ hexv (upB cf (sg.getD a 0)).toNat = a) {n : Nat} (hn : n < 1114112) : Blk cf (37 :: figL n sg) n := by
  rw [figL_eq]
  refine .inr ⟨_, _, _, _, _, _, rfl, ?_, ?_, ?_, hn⟩
  · intro z hz
    simp only [List.mem_cons, List.not_mem_nil, or_false] at hz
    rcases hz with rfl | rfl | rfl | rfl | rfl | rfl <;> exact (h _ (by omega)).1
  · intro z hz
    simp only [List.mem_cons, List.not_mem_nil, or_false] at hz
    rcases hz with rfl | rfl | rfl | rfl | rfl | rfl <;> exact (h _ (by omega)).2.1
  · unfold decB
    rw [(h _ (by omega)).2.2, (h _ (by omega)).2.2, (h _ (by omega)).2.2, (h _ (by omega)).2.2, (h _ (by omega)).2.2, (h _ (by omega)).2.2]
    omega
theorem blk_one {cf : Bool} {n : Nat} (h : n ≠ 37) : Blk cf [n] n := .inl ⟨rfl, h⟩
/-- the blocks of the shielded text -/
noncomputable def bs1 (P : Params) (cs : List Nat) : List (List Nat × Nat) := cs.map fun n => (shieldL P n, n)
theorem bs1_text (P : Params) (cs : List Nat) : textL (bs1 P cs) = cs.flatMap (shieldL P) := by
  unfold textL bs1; rw [List.map_map, List.flatMap_def]; rfl
theorem bs1_back (P : Params) (cs : List Nat) : (bs1 P cs).map (·.2) = cs := by
  unfold bs1; rw [List.map_map]; exact List.map_id _
theorem bs1_blk (P : Params) {cs : List Nat} (hc : ∀ n ∈ cs, n < 1114112) : ∀ p ∈ bs1 P cs, Blk false p.1 p.2 := by
  intro p hp
  unfold bs1 at hp
  obtain ⟨n, hn, rfl⟩ := List.mem_map.mp hp
  dsimp only
  rw [shield_eq (hc n hn)]
  cases h : liesN n with
  | true => rw [if_pos rfl]; exact blk_fig dig_blkU (hc n hn)
  | false => rw [if_neg (by decide)]; exact blk_one (by rintro rfl; exact absurd h (by decide +kernel))
/-- the blocks of the prepared one -/
noncomputable def bs2 (P : Params) (cs : List Nat) : List (List Nat × Nat) := cs.flatMap fun n => if liesN n then [(37 :: figL n figLo, n)] else (lawFoldL P n (liesN n)).map fun z => ([z], z)
theorem flat_single (l : List Nat) : ((l.map fun z => (([z], z) : List Nat × Nat)).map (·.1)).flatten = l := by
  rw [List.map_map]
  induction l with
  | nil => rfl
  | cons a l ih => rw [List.map_cons, List.flatten_cons, ih]; rfl
theorem bs2_text (P : Params) : ∀ cs : List Nat, textL (bs2 P cs) = cs.flatMap fun n => if liesN n then 37 :: figL n figLo else lawFoldL P n (liesN n)
  | [] => rfl
  | n :: cs => by
    have ih := bs2_text P cs
    unfold textL bs2 at *
    rw [List.flatMap_cons, List.map_append, List.flatten_append, ih, List.flatMap_cons]
    congr 1
    cases h : liesN n with
    | true => simp
    | false => rw [if_neg (by decide), if_neg (by decide)]; exact flat_single _
theorem bs2_back (P : Params) : ∀ cs : List Nat, (bs2 P cs).map (·.2) = cs.flatMap fun n => lawFoldL P n (liesN n)
  | [] => rfl
  | n :: cs => by
    have ih := bs2_back P cs
    unfold bs2 at *
    rw [List.flatMap_cons, List.map_append, ih, List.flatMap_cons]
    congr 1
    cases h : liesN n with
    | true => rw [if_pos rfl]; rfl
    | false => rw [if_neg (by decide), List.map_map]; exact List.map_id _
theorem bs2_blk (P : Params) {cs : List Nat} (hc : ∀ n ∈ cs, n < 1114112) : ∀ p ∈ bs2 P cs, Blk true p.1 p.2 := by
  intro p hp
  unfold bs2 at hp
  rw [List.mem_flatMap] at hp
  obtain ⟨n, hn, hp⟩ := hp
  cases h : liesN n with
  | true =>
    rw [h, if_pos rfl] at hp
    rw [List.mem_singleton.mp hp]
    exact blk_fig dig_blkL (hc n hn)
  | false =>
    rw [h, if_neg (by decide)] at hp
    obtain ⟨z, hz, rfl⟩ := List.mem_map.mp hp
    have e := lawFold_free P h
    rw [h] at e
    rw [e] at hz
    exact blk_one (fold_no37 h z hz).1
/-! lengths -/
theorem flat_len {f : Nat → List Nat} {c : Nat} (h : ∀ n, (f n).length ≤ c) : ∀ l : List Nat, (l.flatMap f).length ≤ c * l.length
  | [] => by simp
  | a :: l => by
    rw [List.flatMap_cons, List.length_append, List.length_cons, Nat.mul_succ]
    have := flat_len h l
    have := h a
    omega
theorem figL_len (n : Nat) (sg : List Nat) : (figL n sg).length = 6 := by unfold figL; simp
theorem shield_len (P : Params) (n : Nat) : (shieldL P n).length ≤ 7 := by
  unfold shieldL
  split
  · simp
  · show 1 + 6 ≤ 7; decide
theorem lawFold_len (P : Params) (n : Nat) (b : Bool) : (lawFoldL P n b).length ≤ 4 := by
  unfold lawFoldL
  split
  · simp
  · split
    · simp
    · exact fold_len P n
theorem small_len (P : Params) (n : Nat) (b : Bool) : (if b then 37 :: figL n figLo else lawFoldL P n b).length ≤ 7 := by
  cases b with
  | true => rw [if_pos rfl, List.length_cons, figL_len]; decide
  | false => rw [if_neg (by decide)]; exact Nat.le_trans (lawFold_len P n false) (by decide)
theorem great_len (n : Nat) (b : Bool) : (if b then 37 :: figL n figU else [n]).length ≤ 7 := by
  cases b with
  | true => rw [if_pos rfl, List.length_cons, figL_len]; decide
  | false => rw [if_neg (by decide)]; simp
/-- the signs of the text -/
def csOf (ns : List Int) : List Nat := [37, 65, 32, 173, 890, 917569, 65534] ++ (ns.take 7).map fun x => (codeOf x).toNat
theorem csOf_in (ns : List Int) : ∀ n ∈ csOf ns, n < 1114112 := by
  intro n hn
  unfold csOf at hn
  rcases List.mem_append.mp hn with h | h
  · clear hn; revert n; decide
  · obtain ⟨x, _, rfl⟩ := List.mem_map.mp h
    have := codeOf_in x
    omega
theorem csOf_len (ns : List Int) : (csOf ns).length ≤ 14 := by
  unfold csOf
  rw [List.length_append, List.length_map, List.length_take]
  simp
  omega
theorem csOf_ints (ns : List Int) : (csOf ns).map (fun n : Nat => (n : Int)) = [37, 65, 32, 173, 890, 917569, 65534] ++ (ns.take 7).map codeOf := by
  unfold csOf
  rw [List.map_append, List.map_map]
  congr 1
  apply List.map_congr_left
  intro x _
  have := codeOf_in x
  show (((codeOf x).toNat : Nat) : Int) = codeOf x
  omega
theorem count_int (k : Nat) : ∀ cs : List Nat, (cs.map fun n : Nat => (n : Int)).count (k : Int) = cs.count k
  | [] => rfl
  | a :: cs => by
    rw [List.map_cons, List.count_cons, List.count_cons, count_int k cs]
    congr 1
    by_cases h : a = k
    · subst h; simp
    · rw [if_neg (by simp; omega), if_neg (by simpa using h)]
end Mine
end
section
open PySem PySem.W PyProof.Rows PySem.Builtin
namespace Mine
section
variable {w : World} {A : Around} {E : Value → Shared → Prop} {s : Shared} {env : Env} {α : Type}
def PtT (Pt : Nat → Array Value → Prop) (i : Nat) (v : Value) (h : Heap) : Prop := ∃ T vals, v = .ref T ∧ Pt i vals ∧ h.IsTuple T vals
def Pt2 (xs ys : Array Value) (i : Nat) (vals : Array Value) : Prop := ∃ x y, xs[i]? = some x ∧ ys[i]? = some y ∧ vals = #[x, y]
theorem below_new {h h' : Heap} {n : Nat} (hn : n = h.objs.size) {b : Addr} (hb : n ≤ b) : h.get? b = none := by
  cases e : h.get? b with
  | none => rfl
  | some o => exact absurd (Heap.lt_size e) (Nat.not_lt.mpr (hn ▸ hb))
theorem lt9 {n l1 l2 l3 b : Nat} (d1 : l1 < n) (d2 : l2 < n) (d3 : l3 < n) (h : b = n + 5 ∨ b = n + 3 ∨ b = n + 4 ∨ b = n ∨ b = n + 1 ∨ b = n + 2 ∨ b = l1 ∨ b = l2 ∨ b = l3) : b < n + 6 := by omega
theorem lt7 {n l1 l2 b : Nat} (d1 : l1 < n) (d2 : l2 < n) (h : b = n + 4 ∨ b = n + 2 ∨ b = n + 3 ∨ b = n ∨ b = n + 1 ∨ b = l1 ∨ b = l2) : b < n + 5 := by omega
theorem ge5 {n b : Nat} (h : b = n + 5 ∨ b = n + 4 ∨ b = n ∨ b = n + 1 ∨ b = n + 2) : n ≤ b := by omega
theorem ge4 {n b : Nat} (h : b = n + 4 ∨ b = n + 3 ∨ b = n ∨ b = n + 1) : n ≤ b := by omega
theorem srcT_zip3 (hh : A.handled = none) {s₁ : Shared} {n l1 l2 l3 : Nat} {xs ys zs : Array Value} {elts : List PySem.Expr} {k : Nat} {tp : Pos} {as : List α}
    (hn : n = s.heap.objs.size) (d1 : l1 < n) (d2 : l2 < n) (d3 : l3 < n) (hy : ys.size = xs.size) (hz : zs.size = xs.size) (ha : as.length = xs.size)
    (H : Zip3 s₁.heap n l1 l2 l3 0 .none xs ys zs) (hsz : s₁.heap.objs.size = n + 6) (hk : Ext s.heap s₁.heap) :
    SrcT w A E (.ref (n + 5)) s s₁ (.Tuple elts k tp) as (PtT (Pt3 xs ys zs)) := fun Q hQ => by
  refine wpAny_pyIter_zip H.z ?_
  have W := KTurns.ofWalksU (elts := elts) (k := k) (pos := tp) (walks_zip3 (w := w) hh d1 d2 d3 xs ys zs hy hz)
  rw [← ha] at W
  refine hQ _ _ _ _ _ s₁.heap W (fun s₂ Q E st h => wpAny_pyIter_zip st.z h) H (fun b hb => ?_) (fun b hb => ?_) hk
  · show (b : Nat) < s₁.heap.objs.size
    rw [hsz]
    simp only [List.mem_cons, List.not_mem_nil, or_false] at hb
    exact lt9 d1 d2 d3 hb
  · simp only [List.mem_cons, List.not_mem_nil, or_false] at hb
    refine below_new (h' := s₁.heap) hn (b := b) ?_
    exact ge5 hb
theorem apart5 {n l1 l2 : Nat} (d1 : l1 < n) (d2 : l2 < n) : ZipApart (n + 4) (n + 2) (n + 3) n (n + 1) l1 l2 := ktu_apart _ _ _ d1 d2
theorem srcT_zip2 (hh : A.handled = none) {s₁ : Shared} {n l1 l2 : Nat} {xs ys : Array Value} {elts : List PySem.Expr} {k : Nat} {tp : Pos} {as : List α}
    (hn : n = s.heap.objs.size) (d1 : l1 < n) (d2 : l2 < n) (hy : ys.size = xs.size) (ha : as.length = xs.size)
    (hz : IsZip s₁.heap (n + 4) (n + 2) (n + 3) .none) (hTI : IsPair s₁.heap (n + 2) (.ref n) (.ref (n + 1))) (hTO : IsPair s₁.heap (n + 3) .none .none) (h1 : s₁.heap.IsListIter n l1 0) (h2 : s₁.heap.IsListIter (n + 1) l2 0)
    (hl1 : s₁.heap.IsList l1 xs) (hl2 : s₁.heap.IsList l2 ys) (hsz : s₁.heap.objs.size = n + 5) (hk : Ext s.heap s₁.heap) :
    SrcT w A E (.ref (n + 4)) s s₁ (.Tuple elts k tp) as (PtT (Pt2 xs ys)) := fun Q hQ => by
  refine wpAny_pyIter_zip hz ?_
  have W := KTurns.ofWalksU (elts := elts) (k := k) (pos := tp) (WalksT.zip2 (prog := prog) (w := w) hh _ _ _ _ _ _ _ (apart5 d1 d2) xs ys).toU
  rw [hy, Nat.min_self, ← ha] at W
  refine hQ _ _ _ _ _ s₁.heap W (fun s₂ Q E st h => wpAny_pyIter_zip st.1 h) ⟨hz, hTI, ⟨_, _, hTO⟩, h1, h2, hl1, hl2⟩ (fun b hb => ?_) (fun b hb => ?_) hk
  · show (b : Nat) < s₁.heap.objs.size
    rw [hsz]
    simp only [List.mem_cons, List.not_mem_nil, or_false] at hb
    exact lt7 d1 d2 hb
  · simp only [List.mem_cons, List.not_mem_nil, or_false] at hb
    refine below_new (h' := s₁.heap) hn (b := b) ?_
    exact ge4 hb
/-- the call of zip with two lists, as a comprehension's source -/
theorem zip2_src (hh : A.handled = none) {s₀ : Shared} {l1 l2 : Addr} {xs ys : Array Value} {elts : List PySem.Expr} {k : Nat} {tp : Pos} {as : List α} {Q : Value → Shared → Prop}
    (hs : s = { s₀ with heap := s.heap, toks := s.toks }) (hx : Ext s₀.heap s.heap) (hs0 : s₀.heap.objs.size = s.heap.objs.size) (hl1 : s.heap.IsList l1 xs) (hl2 : s.heap.IsList l2 ys) (hy : ys.size = xs.size) (ha : as.length = xs.size)
    (h : ∀ v s₁, SrcT w A E v s₀ s₁ (.Tuple elts k tp) as (PtT (Pt2 xs ys)) → (∃ h' tk, s₁ = { s₀ with heap := h', toks := tk }) → Q v s₁) :
    wpAny (model prog w) A (call (.type "zip") [.ref l1, .ref l2]) Q E s := by
  obtain ⟨h₁, k₁, e⟩ : ∃ h₁ k₁, s = { s₀ with heap := h₁, toks := k₁ } := ⟨_, _, hs⟩
  clear hs
  subst e
  have lt : ∀ {l : Addr} {zs : Array Value}, h₁.IsList l zs → l < h₁.objs.size := fun hl => by obtain ⟨_, e, _⟩ := hl; exact Heap.lt_size e
  refine call_zip_2 hl1 hl2 fun h' hz hTI hTO hi1 hi2 hsz hk => h _ _ ?_ ⟨_, _, rfl⟩
  exact srcT_zip2 hh hs0.symm (lt hl1) (lt hl2) hy ha hz hTI hTO hi1 hi2 (hl1.at fun o e => hk _ o e) (hl2.at fun o e => hk _ o e) hsz fun b o e => hk _ _ (hx b o e)
theorem zip3_src (hh : A.handled = none) {s₀ : Shared} {l1 l2 l3 : Addr} {xs ys zs : Array Value} {elts : List PySem.Expr} {k : Nat} {tp : Pos} {as : List α} {Q : Value → Shared → Prop}
    (hs : s = { s₀ with heap := s.heap, toks := s.toks }) (hx : Ext s₀.heap s.heap) (hs0 : s₀.heap.objs.size = s.heap.objs.size) (hl1 : s.heap.IsList l1 xs) (hl2 : s.heap.IsList l2 ys) (hl3 : s.heap.IsList l3 zs) (hy : ys.size = xs.size) (hz : zs.size = xs.size) (ha : as.length = xs.size)
    (h : ∀ v s₁, SrcT w A E v s₀ s₁ (.Tuple elts k tp) as (PtT (Pt3 xs ys zs)) → (∃ h' tk, s₁ = { s₀ with heap := h', toks := tk }) → Q v s₁) :
    wpAny (model prog w) A (call (.type "zip") [.ref l1, .ref l2, .ref l3]) Q E s := by
  obtain ⟨h₁, k₁, e⟩ : ∃ h₁ k₁, s = { s₀ with heap := h₁, toks := k₁ } := ⟨_, _, hs⟩
  clear hs
  subst e
  have lt : ∀ {l : Addr} {zs : Array Value}, h₁.IsList l zs → l < h₁.objs.size := fun hl => by obtain ⟨_, e, _⟩ := hl; exact Heap.lt_size e
  refine call_zip3 hl1 hl2 hl3 fun h' H hsz hk => h _ _ ?_ ⟨_, _, rfl⟩
  exact srcT_zip3 hh hs0.symm (lt hl1) (lt hl2) (lt hl3) hy hz ha H hsz fun b o e => hk _ _ (hx b o e)
/-! the items laid into the names -/
theorem store_loc {x : Str} {px : Pos} {v : Value} {C : Addr} {m : Str → Option Value} {Q : Unit → Shared → Prop} (hC : env.locals = C) (hx : env.kindOf x = some .local) (hpm : (env.scope.kind == .class || (env.scope.kind == .module && env.locals != env.globals)) = false)
    (hn : s.heap.Ns C m) (h : ∀ h' tk, h'.Ns C (fun z => if z = x then some v else m z) → (∀ b o, b ≠ C → s.heap.get? b = some o → h'.get? b = some o) → Q () { s with heap := h', toks := tk }) :
    wpAny (model prog w) A (assign (.Name x px) env v) Q E s := by
  subst hC
  exact wpAny_assign_Name (wpAny_storeName_local hx hn (fun h' hn' hs' => h h' _ hn' fun b o hb e => hs'.extBut b o hb e) hpm)
theorem assign2 (hh : A.handled = none) {x y : Str} {px py tp : Pos} {k : Nat} {T C : Addr} {a b : Value} {m : Str → Option Value} {Q : Unit → Shared → Prop} (hT : s.heap.IsTuple T #[a, b]) (hC : env.locals = C)
    (hx : env.kindOf x = some .local) (hy : env.kindOf y = some .local) (hpm : (env.scope.kind == .class || (env.scope.kind == .module && env.locals != env.globals)) = false) (hn : s.heap.Ns C m)
    (h : ∀ h' tk, h'.Ns C (fun z => if z = y then some b else if z = x then some a else m z) → (∀ b o, b ≠ C → s.heap.get? b = some o → h'.get? b = some o) → Q () { s with heap := h', toks := tk }) :
    wpAny (model prog w) A (assign (.Tuple [.Name x px, .Name y py] k tp) env (.ref T)) Q E s := by
  refine wpAny_assign_Tuple hh hT rfl rfl fun h₁ e₁ => ?_
  have up : ∀ b o, s.heap.get? b = some o → h₁.get? b = some o := fun b o e => e₁ b o (Nat.ne_of_lt (Heap.lt_size e)) e
  show wpAny _ _ (assignInOrder [assign (.Name x px) env, assign (.Name y py) env] [a, b]) _ _ _
  refine assignInOrder_cons (store_loc hC hx hpm (hn.at' fun o e => up _ o e) fun h₂ t₂ n₂ k₂ => ?_)
  refine assignInOrder_cons (store_loc hC hy hpm n₂ fun h₃ t₃ n₃ k₃ => ?_)
  exact assignInOrder_nil (h h₃ _ n₃ fun b o hb e => k₃ b o hb (k₂ b o hb (up b o e)))
theorem assign3 (hh : A.handled = none) {x y z : Str} {px py pz tp : Pos} {k : Nat} {T C : Addr} {a b c : Value} {m : Str → Option Value} {Q : Unit → Shared → Prop} (hT : s.heap.IsTuple T #[a, b, c]) (hC : env.locals = C)
    (hx : env.kindOf x = some .local) (hy : env.kindOf y = some .local) (hz : env.kindOf z = some .local) (hpm : (env.scope.kind == .class || (env.scope.kind == .module && env.locals != env.globals)) = false) (hn : s.heap.Ns C m)
    (h : ∀ h' tk, h'.Ns C (fun u => if u = z then some c else if u = y then some b else if u = x then some a else m u) → (∀ b o, b ≠ C → s.heap.get? b = some o → h'.get? b = some o) → Q () { s with heap := h', toks := tk }) :
    wpAny (model prog w) A (assign (.Tuple [.Name x px, .Name y py, .Name z pz] k tp) env (.ref T)) Q E s := by
  refine wpAny_assign_Tuple hh hT rfl rfl fun h₁ e₁ => ?_
  have up : ∀ b o, s.heap.get? b = some o → h₁.get? b = some o := fun b o e => e₁ b o (Nat.ne_of_lt (Heap.lt_size e)) e
  show wpAny _ _ (assignInOrder [assign (.Name x px) env, assign (.Name y py) env, assign (.Name z pz) env] [a, b, c]) _ _ _
  refine assignInOrder_cons (store_loc hC hx hpm (hn.at' fun o e => up _ o e) fun h₂ t₂ n₂ k₂ => ?_)
  refine assignInOrder_cons (store_loc hC hy hpm n₂ fun h₃ t₃ n₃ k₃ => ?_)
  refine assignInOrder_cons (store_loc hC hz hpm n₃ fun h₄ t₄ n₄ k₄ => ?_)
  exact assignInOrder_nil (h h₄ _ n₄ fun b o hb e => k₄ b o hb (k₃ b o hb (k₂ b o hb (up b o e))))
theorem paired_at {rel : α → Value → Prop} : ∀ {as : List α} {vs : List Value}, Paired rel as vs → ∀ (i : Nat) (a : α) (v : Value), as[i]? = some a → vs.toArray[i]? = some v → rel a v
  | _, _, .nil, i, a, v, h, _ => by simp at h
  | _, _, .cons h r, 0, a, v, ea, ev => by
    simp only [List.getElem?_cons_zero, Option.some.injEq, List.getElem?_toArray] at ea ev
    subst ea; subst ev; exact h
  | _, _, .cons h r, i + 1, a, v, ea, ev => by
    simp only [List.getElem?_cons_succ, List.getElem?_toArray] at ea ev
    exact paired_at r i a v ea (by rw [List.getElem?_toArray]; exact ev)
/-- a turn over two lists: what is asked of the element -/
theorem turns2 (hh : A.handled = none) {s₁ : Shared} {x y : Str} {px py tp : Pos} {k : Nat} {elt : PySem.Expr} {scope : Scope} {cl : List (Str × Addr)} {as : List α} {vs us : List Value} {r1 r2 out : α → Value → Prop}
    (h1 : Paired r1 as vs) (h2 : Paired r2 as us) (hk : ∀ C, (compEnvC scope cl C env).locals = C) (hx : ∀ C, (compEnvC scope cl C env).kindOf x = some .local) (hy : ∀ C, (compEnvC scope cl C env).kindOf y = some .local)
    (hpm : ∀ C, ((compEnvC scope cl C env).scope.kind == .class || ((compEnvC scope cl C env).scope.kind == .module && (compEnvC scope cl C env).locals != (compEnvC scope cl C env).globals)) = false)
    (hxy : x ≠ y)
    (El : ∀ C a v u s₂ m₂ (E' : Value → Shared → Prop), a ∈ as → r1 a v → r2 a u → s₂.heap.Ns (compEnvC scope cl C env).locals m₂ → m₂ x = some v → m₂ y = some u → Ext s₁.heap s₂.heap →
      wpAny (model prog w) A (eval elt (compEnvC scope cl C env)) (fun y s₃ => out a y ∧ Keeps s₂ s₃) E' s₂) :
    TurnsOf w A s₁ (.Tuple [.Name x px, .Name y py] k tp) elt scope cl env as (PtT (Pt2 vs.toArray us.toArray)) out := by
  rintro C i a v s₂ m₂ E' ha ⟨T, vals, rfl, ⟨v, u, ev, eu, rfl⟩, hT⟩ hn hC hx1
  refine assign2 hh hT rfl (hx C) (hy C) (hpm C) hn fun h' t' n' k' => ⟨⟨h', t', rfl, fun b o hb e => k' b o (by rw [hk C]; exact hb) e, _, by rw [hk C] at n'; exact n'⟩, ?_⟩
  rw [hk C] at n' k'
  refine El C a v u _ _ E' (List.mem_of_getElem? ha) (paired_at h1 i a v ha ev) (paired_at h2 i a u ha eu) (by rw [hk C]; exact n') (by simp [hxy]) (by simp) fun b o e => k' b o ?_ (hx1 b o e)
  rintro rfl; rw [hC] at e; cases e
theorem turns3 (hh : A.handled = none) {s₁ : Shared} {x y z : Str} {px py pz tp : Pos} {k : Nat} {elt : PySem.Expr} {scope : Scope} {cl : List (Str × Addr)} {as : List α} {vs us ws : List Value} {r1 r2 r3 out : α → Value → Prop}
    (h1 : Paired r1 as vs) (h2 : Paired r2 as us) (h3 : Paired r3 as ws) (hk : ∀ C, (compEnvC scope cl C env).locals = C) (hx : ∀ C, (compEnvC scope cl C env).kindOf x = some .local) (hy : ∀ C, (compEnvC scope cl C env).kindOf y = some .local) (hz : ∀ C, (compEnvC scope cl C env).kindOf z = some .local)
    (hpm : ∀ C, ((compEnvC scope cl C env).scope.kind == .class || ((compEnvC scope cl C env).scope.kind == .module && (compEnvC scope cl C env).locals != (compEnvC scope cl C env).globals)) = false)
    (hxy : x ≠ y) (hxz : x ≠ z) (hyz : y ≠ z)
    (El : ∀ C a v u t s₂ m₂ (E' : Value → Shared → Prop), a ∈ as → r1 a v → r2 a u → r3 a t → s₂.heap.Ns (compEnvC scope cl C env).locals m₂ → m₂ x = some v → m₂ y = some u → m₂ z = some t → Ext s₁.heap s₂.heap →
      wpAny (model prog w) A (eval elt (compEnvC scope cl C env)) (fun y s₃ => out a y ∧ Keeps s₂ s₃) E' s₂) :
    TurnsOf w A s₁ (.Tuple [.Name x px, .Name y py, .Name z pz] k tp) elt scope cl env as (PtT (Pt3 vs.toArray us.toArray ws.toArray)) out := by
  rintro C i a v s₂ m₂ E' ha ⟨T, vals, rfl, ⟨v, u, t, ev, eu, et, rfl⟩, hT⟩ hn hC hx1
  refine assign3 hh hT rfl (hx C) (hy C) (hz C) (hpm C) hn fun h' t' n' k' => ⟨⟨h', t', rfl, fun b o hb e => k' b o (by rw [hk C]; exact hb) e, _, by rw [hk C] at n'; exact n'⟩, ?_⟩
  rw [hk C] at n' k'
  refine El C a v u t _ _ E' (List.mem_of_getElem? ha) (paired_at h1 i a v ha ev) (paired_at h2 i a u ha eu) (paired_at h3 i a t ha et) (by rw [hk C]; exact n') (by simp [hxy, hxz]) (by simp [hyz]) (by simp) fun b o e => k' b o ?_ (hx1 b o e)
  rintro rfl; rw [hC] at e; cases e
end
end Mine
end
section
open PySem PySem.W PyProof.Rows PySem.Builtin PyProof.V PySem.Spec
namespace Mine
theorem sp_canLay (k : Nat) : PyData.canLayAll0 (List.replicate k (PyData.str ⟨#[32]⟩)) = true := by
  induction k with
  | zero => rfl
  | succ k ih => rw [List.replicate_succ]; simp only [PyData.canLayAll0, ih, Bool.and_true]; decide +kernel
theorem sp_depth (k : Nat) : PyData.depthAll (List.replicate k (PyData.str ⟨#[32]⟩)) = 0 := by
  induction k with
  | zero => rfl
  | succ k ih => rw [List.replicate_succ]; simp [PyData.depthAll, PyData.depth, ih]
theorem sp_shaped (k : Nat) : SeqAt.shaped (.list (List.replicate k (PyData.str ⟨#[32]⟩))) = true := by
  simp [SeqAt.shaped, PyData.canLay0, PyData.depth, sp_canLay, sp_depth]
theorem sp_same (k : Nat) : PySem.Spec.same (.list (List.replicate k (PyData.str ⟨#[32]⟩))) (.list (List.replicate k (PyData.str ⟨#[32]⟩))) = true := by
  simp only [PySem.Spec.same]
  induction k with
  | zero => rfl
  | succ k ih => rw [List.replicate_succ]; simp only [PySem.Spec.sameAll, PySem.Spec.same, ih, Bool.and_true]; decide +kernel
theorem sp_has (k : Nat) : (Shape.list .str).has (.list (List.replicate k (PyData.str ⟨#[32]⟩))) = true :=
  list_has fun x hx => by rw [List.eq_of_mem_replicate hx]; rfl
theorem sp_carried : ∀ {k : Nat} {vs : List Value}, Paired SignV (List.replicate k 32) vs → CarriedAll vs (List.replicate k (PyData.str ⟨#[32]⟩))
  | 0, _, .nil => .nil
  | k + 1, _, .cons ⟨t, e⟩ r => by subst e; exact .cons (.str _ t) (sp_carried r)
section
variable {w : World} {A : Around} {E : Value → Shared → Prop} {s : Shared} {h₀ : Heap} {L : Addr} {m : Str → Option Value} {news : List (Addr × Obj)}
theorem ne_spaces {a b : Addr} {xs ys : List Value} {k : Nat} {Q : Value → Shared → Prop} (ha : s.heap.IsList a xs.toArray) (hb : s.heap.IsList b ys.toArray) (hx : Paired SignV (List.replicate k 32) xs) (hy : CarriedAll ys (List.replicate k (PyData.str ⟨#[32]⟩))) (hu : A.units + 64 < cLine)
    (h : Q (.bool false) s) : wpAny (model prog w) A (compareOp .NotEq (.ref a) (.ref b)) Q E s :=
  ne_dataH_same (reads_newData ha (sp_carried hx)) (reads_newData hb hy) (sp_shaped k) (sp_shaped k) hu (SeqAt.noMix_of_shape (.list .str) rfl _ _ (sp_has k) (sp_has k)) (by rw [sp_same]; exact h)
theorem ne_nil {a b : Addr} {Q : Value → Shared → Prop} (ha : s.heap.IsList a ([] : List Value).toArray) (hb : s.heap.IsList b ([] : List Value).toArray) (hu : A.units + 64 < cLine)
    (h : Q (.bool false) s) : wpAny (model prog w) A (compareOp .NotEq (.ref a) (.ref b)) Q E s :=
  ne_spaces (k := 0) ha hb .nil .nil hu h
theorem mul_spaces {l : Addr} {t : Tok} {x : Int} {k : Nat} {u : Tok} {Q : Value → Shared → Prop} (Fm : Fr h₀ L s.heap m) (N : News h₀ L s.heap news) (hl : s.heap.IsList l [Value.str (Str.ofString " ") t].toArray) (hx : x = (k : Int)) (hk : k ≤ 1000)
    (h : ∀ h', Fr h₀ L h' m → News h₀ L h' news → (∃ ys : List Value, h'.IsList s.heap.objs.size ys.toArray ∧ CarriedAll ys (List.replicate k (PyData.str ⟨#[32]⟩))) → Q (.ref s.heap.objs.size) { s with heap := h' }) :
    wpAny (model prog w) A (binaryOp .Mult (.ref l) (.int x u)) Q E s := by
  subst hx
  refine mul_list_is (ds := [PyData.str ⟨#[32]⟩]) Fm N hl (.cons (by rw [show Str.ofString " " = ⟨#[32]⟩ by decide +kernel]; exact .str _ t) .nil) (by omega) (by omega) (by simp; omega) fun h' F' N' _ hl' hc' => h h' F' N' ⟨_, hl', ?_⟩
  have e : (List.replicate (k : Int).toNat [PyData.str ⟨#[32]⟩]).flatten = List.replicate k (PyData.str ⟨#[32]⟩) := by
    rw [Int.toNat_natCast, List.flatten_replicate_singleton]
  rw [e] at hc'
  exact hc'
end
end Mine
end
section
open PySem PySem.W PyProof.Rows PySem.Builtin
namespace Mine
theorem g_lcode (w : World) : mgl w "_law_code" = some (.ref 274) := by kernel_rfl
theorem g_llies (w : World) : mgl w "_law_lies" = some (.ref 279) := by kernel_rfl
theorem g_lshield (w : World) : mgl w "_law_shielded" = some (.ref 291) := by kernel_rfl
theorem g_lfig (w : World) : mgl w "_law_figures" = some (.ref 296) := by kernel_rfl
theorem g_lfold (w : World) : mgl w "_law_fold" = some (.ref 303) := by kernel_rfl
theorem g_lprep (w : World) : mgl w "_law_prepared" = some (.ref 308) := by kernel_rfl
theorem g_lback (w : World) : mgl w "_law_back" = some (.ref 315) := by kernel_rfl
theorem n_zip (w : World) : mgl w "zip" = none := by kernel_rfl
theorem b_zip (w : World) : mbl w "zip" = some (.type "zip") := by kernel_rfl
theorem fn274 (w : World) : FnAt w 274 := fnAt_of (at274 _) (by kernel_rfl)
theorem fn279 (w : World) : FnAt w 279 := fnAt_of (at279 _) (by kernel_rfl)
theorem fn291 (w : World) : FnAt w 291 := fnAt_of (at291 _) (by kernel_rfl)
theorem fn296 (w : World) : FnAt w 296 := fnAt_of (at296 _) (by kernel_rfl)
theorem fn303 (w : World) : FnAt w 303 := fnAt_of (at303 _) (by kernel_rfl)
theorem fn308 (w : World) : FnAt w 308 := fnAt_of (at308 _) (by kernel_rfl)
theorem fn315 (w : World) : FnAt w 315 := fnAt_of (at315 _) (by kernel_rfl)
local macro_rules | `(tactic| walk_at "eval Name") => `(tactic| ((with_reducible show wpAny _ _ (eval (Expr.Name _ _) _) _ _ _); first
  | (refine ldg (by (first | assumption | exact Md.ext (by assumption) (Fr.keep (by assumption)))) (by with_reducible first | exact g_lcode _ | exact g_llies _ | exact g_lshield _ | exact g_lfig _ | exact g_lfold _ | exact g_lprep _ | exact g_lback _ | exact g_held _ | exact g_f1 _) ?_)
  | (refine ldb (by (first | assumption | exact Md.ext (by assumption) (Fr.keep (by assumption)))) (by with_reducible first | exact n_chr _ | exact n_zip _) (by with_reducible first | exact b_chr _ | exact b_zip _) ?_)))
local macro_rules | `(tactic| walk_at "callWith ref") => `(tactic| ((with_reducible show wpAny _ _ (callWith _ (Value.ref _) [] (backTo _ (starEach (_ :: _) _)) _) _ _ _); refine callWith_md (by with_reducible first | exact fn274 _ | exact fn279 _ | exact fn291 _ | exact fn296 _ | exact fn303 _ | exact fn308 _ | exact fn315 _ | exact fn286 _ | exact fn134 _) ?_))
theorem ints_paired : ∀ {vs : List Value} {ns : List Int}, IntsAre vs ns → Paired (fun x v => IntV x v) ns vs
  | _, _, .nil => .nil
  | _, _, .cons x t r => .cons ⟨t, rfl⟩ (ints_paired r)
theorem paired_ints {α : Type} {f : α → Int} : ∀ {as : List α} {ys : List Value}, Paired (fun a v => IntV (f a) v) as ys → IntsAre ys (as.map f)
  | _, _, .nil => .nil
  | _, _, .cons (a := a) ⟨t, e⟩ r => by subst e; exact .cons _ t (paired_ints r)
theorem ints_nats : ∀ {cs : List Nat} {vs : List Value}, IntsAre vs (cs.map fun n : Nat => (n : Int)) → Paired (fun (n : Nat) v => IntV (n : Int) v) cs vs
  | [], _, h => by cases h; exact .nil
  | n :: cs, _, h => by
    rw [List.map_cons] at h
    cases h with
    | cons x t r => exact .cons ⟨t, rfl⟩ (ints_nats r)
theorem src_arr {w : World} {A : Around} {E : Value → Shared → Prop} {s : Shared} {α : Type} (hh : A.handled = none) {l : Addr} {arr : Array Value} {as : List α} {rel : α → Value → Prop} (hl : s.heap.IsList l arr) (hp : Paired rel as arr.toList) : SrcAs w A E (.ref l) s as rel :=
  src_list (vs := arr.toList) hh (by rw [Array.toArray_toList]; exact hl) hp
section
variable {w : World} {A : Around} {E : Value → Shared → Prop} {s : Shared} {h₀ : Heap} {L : Addr} {m : Str → Option Value} {news : List (Addr × Obj)}
theorem add_ints {l b : Addr} {its its2 : Array Value} {ns ms : List Int} {Q : Value → Shared → Prop} (F : Fr h₀ L s.heap m) (N : News h₀ L s.heap news) (hl : s.heap.IsList l its) (hb : s.heap.IsList b its2)
    (hi : IntsAre its.toList ns) (hj : IntsAre its2.toList ms) (hsz : ns.length + ms.length ≤ 1000)
    (h : ∀ h' a cvs, Fr h₀ L h' m → News h₀ L h' [(a, { cls := .type "list", data := .seq cvs.toArray })] → IntsAre cvs (ns ++ ms) → Q (.ref a) { s with heap := h' }) :
    wpAny (model prog w) A (binaryOp .Add (.ref l) (.ref b)) Q E s :=
  add_arrays_ints F N hl hb hi hj (fun h' F' N' hI => h h' _ _ F' (fun p hp => N' p (by rw [List.mem_singleton.mp hp]; exact .head _)) hI) (Nat.le_trans hsz (by decide))
theorem join_strsE {D : Addr} {vs : List Value} {xs : List (List Nat)} {y : List Nat} {t : Tok} {Q : Value → Shared → Prop} (hl : s.heap.IsList D vs.toArray) (hp : Paired StrV xs vs) (e : xs.flatten = y) (hw : (xs.map List.length).sum + xs.length ≤ 1048576)
    (h : ∀ t' k, Q (.str (strL y) t') { s with toks := k }) : wpAny (model prog w) A (call (.builtin "str.join") [.str (Str.ofString "") t, .ref D]) Q E s :=
  join_strs hl hp hw (by rw [e]; exact h)
end
theorem flat_ids : ∀ cs : List Nat, (cs.map fun n => [n]).flatten = cs
  | [] => rfl
  | n :: cs => by rw [List.map_cons, List.flatten_cons, flat_ids cs]; rfl
theorem sum_map_le {α : Type} {f : α → List Nat} {c : Nat} (h : ∀ a, (f a).length ≤ c) (l : List α) : ((l.map f).map List.length).sum ≤ c * l.length := by
  rw [List.map_map]; exact sum_le_mul (f := List.length ∘ f) h l
theorem figU_str : Str.ofString "0123456789ABCDEF" = strL figU := by decide +kernel
theorem figLo_str : Str.ofString "0123456789abcdef" = strL figLo := by decide +kernel
section
variable {w : World} {A : Around} {E : Value → Shared → Prop} {s : Shared}
theorem ne_self {x y : Str} {t u : Tok} {Q : Value → Shared → Prop} (e : x = y) (h : Q (.bool false) s) : wpAny (model prog w) A (compareOp .NotEq (.str x t) (.str y u)) Q E s :=
  ne_str (by rw [e, bne_self_eq_false]; exact h)
theorem eq_self' {x y : Str} {t u : Tok} {Q : Value → Shared → Prop} (e : x = y) (h : Q (.bool true) s) : wpAny (model prog w) A (compareOp .Eq (.str x t) (.str y u)) Q E s :=
  eq_str (by rw [e, beq_self_eq_true]; exact h)
end
theorem count_890 (cs : List Nat) : (cs.map fun n : Nat => (n : Int)).count 890 = cs.count 890 := count_int 890 cs
theorem law_backE {w : World} {d u : Nat} {fr : Option (List Env)} {gd : Option (List Code)} {R : Result → Shared → Prop} {s : Shared} (m : Md w s.heap) (hd : d + 3 < recursionLimit) (bs : List (List Nat × Nat)) (cf : Bool) {x y : List Nat}
    (hb : ∀ p ∈ bs, Blk cf p.1 p.2) (hx : textL bs = x) (hy : bs.map (·.2) = y) (hsz : x.length ≤ 10000) (t : Tok)
    (hR : Ret s R (StrV y)) : codeAny (model prog w) (Ar d fr gd u) (.call (.ref 315) ⟨[.str (strL x) t, .bool cf], []⟩) R s := by
  subst hx; subst hy; exact law_back m hd bs cf hb hsz t hR
theorem law_ret {w : World} {d u : Nat} {fr : Option (List Env)} {gd : Option (List Code)} {R : Result → Shared → Prop} {s : Shared} (m : Md w s.heap) (hd : d + 10 < recursionLimit) (hu : u + 300 < cLine) {l : Addr} {vs : List Value} {ns : List Int}
    (hl : s.heap.IsList l vs.toArray) (hi : IntsAre vs ns) (hns : ns.length ≤ 63)
    (hR : Ret s R (fun v => v = .bool true)) : codeAny (model prog w) (Ar d fr gd u) (.call (.ref 320) ⟨[.ref l], []⟩) R s := by
  refine call_plain (binds := [("script", .ref l)]) (show d < recursionLimit by omega) (m _ _ (at320 _)) (by rfl) m.nolimit (m.codeRec (at319 _) (by rfl) (by rfl)) (by rfl) (locs (by rfl)) ?_
  intro h₁ F
  have N : News s.heap s.heap.objs.size h₁ [] := News.nil
  -- codes
  (repeat' ((fail_if_success (with_reducible show wpAny _ _ (eval (Expr.ListComp _ _ _ _) _) _ _ _)); (fail_if_success (with_reducible show wpAny _ _ (exec (Stmt.Assign _ (Expr.ListComp _ _ _ _) _) _) _ _ _)); (fail_if_success (with_reducible show _ ∧ _)); (fail_if_success (with_reducible show ∃ _, _)); first | walk1 | (dsimp only; walk1)))
  (with_reducible apply LC (cl := []) (as := ns.take 7) (rel := fun x v => IntV x v) (out := fun x v => IntV (codeOf x) v) (pz := fun _ => true)); (case hf => exact intV_fun (f := fun a => a) fun a b e => e); (case hlen => exact Nat.le_trans (List.length_take_le 7 ns) (by decide)); (((case hs => intro _; with_unfolding_all rfl); (case hclos => with_unfolding_all rfl); (case hcell => decide); (case hkind => with_unfolding_all rfl); (case hnames => decide); (case hx => with_unfolding_all rfl)))
  (repeat' ((fail_if_success (with_reducible show wpAny _ _ (eval (Expr.ListComp _ _ _ _) _) _ _ _)); (fail_if_success (with_reducible show wpAny _ _ (exec (Stmt.Assign _ (Expr.ListComp _ _ _ _) _) _) _ _ _)); (fail_if_success (with_reducible show _ ∧ _)); (fail_if_success (with_reducible show ∃ _, _)); first | walk1 | (dsimp only; walk1)))
  dsimp only
  refine ⟨src_arr rfl (News.isList (by assumption) (.head _)) (ints_paired (slice_ints_uptoW hi (y := 7) (by decide))), tests_nil, ?_, ?_⟩
  · rintro C a v s₂ m₂ E' ha ⟨ta, rfl⟩ - hns hm hk
    have M2 : Md w s₂.heap := (Md.ext m (Fr.keep (by assumption))).ext hk
    repeat' (first
      | walk1
      | (dsimp only; walk1)
      | exact M2
      | ((with_reducible show wpAny _ _ (call (Value.ref 274) _) _ _ _); refine wpAny_call (law_code M2 (show d + 1 + 1 < recursionLimit by omega) _ _ ?_); rintro v h' tk ⟨t', hv⟩ hk'; subst hv; dsimp only))
    all_goals first | exact ⟨_, rfl⟩ | exact ⟨_, _, rfl, hk'⟩
  intro D ys h' tk hk hD hpl hys
  have F9 := fr_ext (by assumption) hk
  have N9 := news_ext (by assumption) hk
  rw [filter_true] at hys
  replace hys := paired_ints hys
  obtain ⟨dc, nn, sl, N8⟩ := news_list (by assumption) N9 hpl.isList hD
  clear N9 hk hD
  try dsimp only
  refine add_ints (ns := [37, 65, 32, 173, 890, 917569, 65534]) (by assumption) (by assumption) (News.isList (by assumption) (.tail _ (.tail _ (.head _)))) (News.isList (by assumption) (.head _)) (by show IntsAre [_, _, _, _, _, _, _] _; repeat' (first | exact IntsAre.nil | apply IntsAre.cons)) hys (by have := List.length_take_le 7 ns; rw [List.length_map]; simp; omega) ?_
  rw [← csOf_ints]
  intro h2 ac cvs F2 N2 hcs
  have hc := csOf_in ns
  have hcl := csOf_len ns
  generalize csOf ns = cs at hcs hc hcl
  clear hys hpl hns
  (((rename Fr _ _ _ _ => F'); (rename News _ _ _ _ => N'); revert F' N'; (repeat (rename Fr _ _ _ _ => z'; clear z')); (repeat (rename News _ _ _ _ => z'; clear z')); intro F' N'))
  -- text
  (repeat' ((fail_if_success (with_reducible show wpAny _ _ (eval (Expr.ListComp _ _ _ _) _) _ _ _)); (fail_if_success (with_reducible show wpAny _ _ (exec (Stmt.Assign _ (Expr.ListComp _ _ _ _) _) _) _ _ _)); (fail_if_success (with_reducible show _ ∧ _)); (fail_if_success (with_reducible show ∃ _, _)); first | walk1 | (dsimp only; walk1)))
  (with_reducible apply LC (cl := []) (as := cs) (rel := fun (n : Nat) v => IntV (n : Int) v) (out := fun n v => StrV [n] v) (pz := fun _ => true)); (case hf => exact intV_fun fun a b e => Int.ofNat.inj e); (case hlen => exact Nat.le_trans hcl (by decide)); (((case hs => intro _; with_unfolding_all rfl); (case hclos => with_unfolding_all rfl); (case hcell => decide); (case hkind => with_unfolding_all rfl); (case hnames => decide); (case hx => with_unfolding_all rfl)))
  (repeat' ((fail_if_success (with_reducible show wpAny _ _ (eval (Expr.ListComp _ _ _ _) _) _ _ _)); (fail_if_success (with_reducible show wpAny _ _ (exec (Stmt.Assign _ (Expr.ListComp _ _ _ _) _) _) _ _ _)); (fail_if_success (with_reducible show _ ∧ _)); (fail_if_success (with_reducible show ∃ _, _)); first | walk1 | (dsimp only; walk1)))
  try dsimp only
  refine ⟨src_arr rfl (News.isList (by assumption) (.head _)) (ints_nats hcs), tests_nil, ?_, ?_⟩
  · rintro C a v s₂ m₂ E' ha ⟨ta, rfl⟩ - hns hm hk
    have M2 : Md w s₂.heap := (Md.ext m (Fr.keep (by assumption))).ext hk
    have hlt := hc a ha
    repeat' (first
      | walk1
      | (dsimp only; walk1))
    all_goals first | exact ⟨_, rfl⟩ | exact ⟨_, _, rfl, fun _ _ e => e⟩
  intro D ys2 h' tk hk hD hpl hys
  have F9 := fr_ext (by assumption) hk
  have N9 := news_ext (by assumption) hk
  rw [filter_true] at hys
  replace hys := paired_map (f := fun n : Nat => [n]) hys
  try dsimp only
  (((rename Fr _ _ _ _ => F'); (rename News _ _ _ _ => N'); revert F' N'; (repeat (rename Fr _ _ _ _ => z'; clear z')); (repeat (rename News _ _ _ _ => z'; clear z')); intro F' N'))
  repeat' ((fail_if_success (with_reducible show wpAny _ _ (exec (Stmt.Assign _ (Expr.ListComp _ _ _ _) _) _) _ _ _)); first
    | ((with_reducible show wpAny _ _ (call (Value.builtin "str.join") _) _ _ _); refine join_strsE hpl.isList hys (flat_ids cs) (by have := sum_map_le (f := fun n : Nat => [n]) (c := 1) (fun _ => Nat.le_refl _) cs; rw [List.length_map]; omega) (fun t' k => ?_))
    | walk1
    | (dsimp only; walk1))
  clear hys hpl hk hD
  (((rename Fr _ _ _ _ => F'); (rename News _ _ _ _ => N'); revert F' N'; (repeat (rename Fr _ _ _ _ => z'; clear z')); (repeat (rename News _ _ _ _ => z'; clear z')); intro F' N'))
  -- lies
  rename Fr _ _ _ _ => F1
  rename News _ _ _ _ => N1
  (with_reducible apply LCA (cl := []) (h₀ := s.heap) (L := s.heap.objs.size) (m := mOf F1) (as := cs) (rel := fun (n : Nat) v => IntV (n : Int) v) (out := fun n v => BoolV (liesN n) v) (pz := fun _ => true)); (case hf => exact intV_fun fun a b e => Int.ofNat.inj e); (case hlen => exact Nat.le_trans hcl (by decide)); (((case hsw => with_unfolding_all rfl); (case hL => rfl); (case hs => intro _; with_unfolding_all rfl); (case hclos => with_unfolding_all rfl); (case hcell => decide); (case hkind => with_unfolding_all rfl); (case hnames => decide); (case hx => with_unfolding_all rfl); (case hy => with_unfolding_all rfl); (case hpm => with_unfolding_all rfl)))
  (repeat' ((fail_if_success (with_reducible show wpAny _ _ (eval (Expr.ListComp _ _ _ _) _) _ _ _)); (fail_if_success (with_reducible show wpAny _ _ (exec (Stmt.Assign _ (Expr.ListComp _ _ _ _) _) _) _ _ _)); (fail_if_success (with_reducible show _ ∧ _)); (fail_if_success (with_reducible show ∃ _, _)); first | walk1 | (dsimp only; walk1)))
  refine ⟨_, F1, N1, src_arr rfl (News.isList N1 (.head _)) (ints_nats hcs), tests_nil, ?_, ?_⟩
  · rintro C a v s₂ m₂ E' ha ⟨ta, rfl⟩ - hns hm hk
    have M2 : Md w s₂.heap := (Md.ext m (Fr.keep F1)).ext hk
    repeat' (first
      | walk1
      | (dsimp only; walk1)
      | exact M2
      | ((with_reducible show wpAny _ _ (call (Value.ref 279) _) _ _ _); refine wpAny_call (law_lies M2 (show d + 1 + 1 < recursionLimit by omega) (by show u + _ + 100 < cLine; omega) _ _ ?_); rintro v h' tk rfl hk'; dsimp only))
    all_goals first | exact liesB_eq a ▸ rfl | exact ⟨_, _, rfl, hk'⟩
  intro D2 lvs n2 h3 tk3 F2 N2 hlv
  rw [filter_true] at hlv
  delta mOf at F2
  dsimp only at F2 ⊢
  clear F1 N1
  -- shielded
  (repeat' ((fail_if_success (with_reducible show wpAny _ _ (eval (Expr.ListComp _ _ _ _) _) _ _ _)); (fail_if_success (with_reducible show wpAny _ _ (exec (Stmt.Assign _ (Expr.ListComp _ _ _ _) _) _) _ _ _)); (fail_if_success (with_reducible show _ ∧ _)); (fail_if_success (with_reducible show ∃ _, _)); first | walk1 | (dsimp only; walk1)))
  (with_reducible apply LC (cl := []) (as := cs) (rel := SignV) (out := fun n v => StrV (shieldL w.params n) v) (pz := fun _ => true)); (case hf => exact signV_fun); (case hlen => exact Nat.le_trans hcl (by decide)); (((case hs => intro _; with_unfolding_all rfl); (case hclos => with_unfolding_all rfl); (case hcell => decide); (case hkind => with_unfolding_all rfl); (case hnames => decide); (case hx => with_unfolding_all rfl)))
  (repeat' ((fail_if_success (with_reducible show wpAny _ _ (eval (Expr.ListComp _ _ _ _) _) _ _ _)); (fail_if_success (with_reducible show wpAny _ _ (exec (Stmt.Assign _ (Expr.ListComp _ _ _ _) _) _) _ _ _)); (fail_if_success (with_reducible show _ ∧ _)); (fail_if_success (with_reducible show ∃ _, _)); first | walk1 | (dsimp only; walk1)))
  try dsimp only
  refine ⟨src_str rfl, tests_nil, ?_, ?_⟩
  · rintro C a v s₂ m₂ E' ha ⟨ta, rfl⟩ - hns hm hk
    have M2 : Md w s₂.heap := (Md.ext m (Fr.keep (by assumption))).ext hk
    repeat' (first
      | walk1
      | (dsimp only; walk1)
      | exact M2
      | ((with_reducible show wpAny _ _ (call (Value.ref 291) _) _ _ _); refine wpAny_call (law_shielded M2 (show d + 1 + 3 < recursionLimit by omega) _ (hc a ha) _ ?_); rintro v h' tk ⟨t', rfl⟩ hk'; dsimp only))
    all_goals first | exact ⟨_, rfl⟩ | exact ⟨_, _, rfl, hk'⟩
  intro D3 ys3 h' tk hk hD hpl hys
  have F9 := fr_ext (by assumption) hk
  have N9 := news_ext (by assumption) hk
  rw [filter_true] at hys
  replace hys := paired_map (f := shieldL w.params) hys
  try dsimp only
  (((rename Fr _ _ _ _ => F'); (rename News _ _ _ _ => N'); revert F' N'; (repeat (rename Fr _ _ _ _ => z'; clear z')); (repeat (rename News _ _ _ _ => z'; clear z')); intro F' N'))
  repeat' ((fail_if_success (with_reducible show wpAny _ _ (exec (Stmt.Assign _ (Expr.ListComp _ _ _ _) _) _) _ _ _)); first
    | ((with_reducible show wpAny _ _ (call (Value.builtin "str.join") _) _ _ _); refine join_strsE hpl.isList hys (show List.flatten _ = cs.flatMap (shieldL w.params) by rw [List.flatMap_def]) (by have := sum_map_le (f := shieldL w.params) (c := 7) (shield_len _) cs; rw [List.length_map]; omega) (fun t' k => ?_))
    | walk1
    | (dsimp only; walk1))
  clear hys hpl hk hD
  (((rename Fr _ _ _ _ => F'); (rename News _ _ _ _ => N'); revert F' N'; (repeat (rename Fr _ _ _ _ => z'; clear z')); (repeat (rename News _ _ _ _ => z'; clear z')); intro F' N'))
  -- great
  rename Fr _ _ _ _ => F1
  rename News _ _ _ _ => N1
  have hlv' := hlv.length
  have hcs' := (ints_nats hcs).length
  (with_reducible apply LCTA (cl := []) (h₀ := s.heap) (L := s.heap.objs.size) (m := mOf F1) (as := cs) (P := PtT (Pt2 cvs.toArray lvs.toArray)) (out := fun n v => StrV (if liesN n then 37 :: figL n figU else [n]) v) (F := F1) (N := N1)); (case hlen => exact Nat.le_trans hcl (by decide)); (((case hsw => with_unfolding_all rfl); (case hL => rfl); (case hs => intro _; with_unfolding_all rfl); (case hclos => with_unfolding_all rfl); (case hcell => decide); (case hkind => with_unfolding_all rfl); (case hnames => decide); (case hy => with_unfolding_all rfl); (case hpm => with_unfolding_all rfl)))
  case h =>
    repeat' ((fail_if_success (with_reducible show _ ∧ _)); (fail_if_success (with_reducible show wpAny _ _ (call (Value.type _) _) _ _ _)); first
      | walk1
      | (dsimp only; walk1))
    try dsimp only
    refine zip2_src ?_ ?_ ?_ ?_ ?_ ?_ ?_ ?_ (fun v s₁ h1 h2 => And.symm ⟨h1, h2⟩)
    · rfl
    · rfl
    · exact fun _ _ e => e
    · rfl
    · exact News.isList N1 (.tail _ (.head _))
    · exact News.isList N1 (.head _)
    · simp; omega
    · simp; omega
  case T =>
    refine turns2 rfl (ints_nats hcs) hlv (fun C => rfl) (fun C => by with_unfolding_all rfl) (fun C => by with_unfolding_all rfl) (fun C => by with_unfolding_all rfl) (by decide) ?_
    rintro C a v v2 s₂ m₂ E' ha ⟨ta, rfl⟩ hb hns hm1 hm2 hk
    replace hb : v2 = .bool (liesN a) := hb
    subst hb
    have M2 : Md w s₂.heap := (Md.ext m (Fr.keep F1)).ext hk
    have hlt := hc a ha
    repeat' (first
      | walk1
      | (dsimp only; walk1)
      | exact M2
      | ((with_reducible show wpAny _ _ (call (Value.ref 296) _) _ _ _); rw [figU_str]; refine wpAny_call (law_figures (by exact M2) (show d + 1 + 1 < recursionLimit by omega) _ hlt figU rfl _ _ ?_); rintro v h' tk ⟨t', rfl⟩ hk'; dsimp only))
    all_goals first | (rw [if_pos (by assumption)]; exact ⟨_, rfl⟩) | (rw [if_neg (by simp_all)]; exact ⟨_, rfl⟩) | exact ⟨_, _, rfl, hk'⟩ | exact ⟨_, _, rfl, fun _ _ e => e⟩
  case hQ =>
  intro D4 gvs n4 h4 tk4 F2 N2 hgv
  delta mOf at F2
  dsimp only at F2 ⊢
  clear F1 N1
  have hgv2 := paired_map (f := fun n => if liesN n = true then 37 :: figL n figU else [n]) hgv
  have eA := law_A w.params hc
  have eB := law_B w.params hc
  have eC := law_C w.params hc
  have eD := law_D w.params hc
  have eE1 := bs1_text w.params cs
  have eE2 := bs2_text w.params cs
  have lsh : (cs.flatMap (shieldL w.params)).length ≤ 98 := by have := flat_len (shield_len w.params) cs; omega
  have lpr : (cs.flatMap fun n => if liesN n then 37 :: figL n figLo else lawFoldL w.params n (liesN n)).length ≤ 98 := by
    have := flat_len (f := fun n => if liesN n then 37 :: figL n figLo else lawFoldL w.params n (liesN n)) (c := 7) (fun n => small_len w.params n (liesN n)) cs; omega
  rw [List.flatMap_def (f := fun n => if liesN n = true then 37 :: figL n figU else [n])] at eA
  generalize hsh : cs.flatMap (shieldL w.params) = sh at F2 eA eB eC eD eE1 lsh
  generalize hpr : (cs.flatMap fun n => if liesN n then 37 :: figL n figLo else lawFoldL w.params n (liesN n)) = pr at eC eE2 lpr
  have hbad : ¬ (false = true) := by decide
  -- the first test
  repeat' ((fail_if_success (with_reducible show wpAny _ _ (eval (Expr.ListComp _ _ _ _) _) _ _ _)); first
    | (exfalso; exact hbad (by with_reducible assumption))
    | ((with_reducible show wpAny _ _ (call (Value.builtin "str.join") _) _ _ _); refine join_strsE (News.isList (by assumption) (.head _)) hgv2 eA.symm (by have := sum_map_le (f := fun n => if liesN n = true then 37 :: figL n figU else [n]) (c := 7) (fun n => great_len n (liesN n)) cs; rw [List.length_map]; omega) (fun t' k => ?_))
    | ((with_reducible show wpAny _ _ (compareOp CmpOp.NotEq (Value.str _ _) (Value.str _ _)) _ _ _); refine ne_self rfl ?_)
    | walk1
    | (dsimp only; walk1))
  rw [eC] at eD
  (with_reducible apply LC (cl := []) (as := sh) (rel := SignV) (out := SignV) (pz := fun n => heldB w.params n)); (case hf => exact signV_fun); (case hlen => exact Nat.le_trans lsh (by decide)); (((case hs => intro _; with_unfolding_all rfl); (case hclos => with_unfolding_all rfl); (case hcell => decide); (case hkind => with_unfolding_all rfl); (case hnames => decide); (case hx => with_unfolding_all rfl)))
  (repeat' ((fail_if_success (with_reducible show wpAny _ _ (eval (Expr.ListComp _ _ _ _) _) _ _ _)); (fail_if_success (with_reducible show wpAny _ _ (exec (Stmt.Assign _ (Expr.ListComp _ _ _ _) _) _) _ _ _)); (fail_if_success (with_reducible show _ ∧ _)); (fail_if_success (with_reducible show ∃ _, _)); first | walk1 | (dsimp only; walk1)))
  try dsimp only
  refine ⟨src_str rfl, ?_, ?_, ?_⟩
  · rintro C a v s₂ m₂ E' ha ⟨ta, rfl⟩ hns hm hk
    have M2 : Md w s₂.heap := (Md.ext m (Fr.keep F2)).ext hk
    repeat' (first
      | walk1
      | (dsimp only; walk1)
      | exact M2
      | ((with_reducible show wpAny _ _ (call (Value.ref 286) _) _ _ _); refine wpAny_call (law_held (by exact M2) (show d + 1 + 1 < recursionLimit by omega) _ _ ?_); rintro v h' tk rfl hk'; dsimp only))
    all_goals first | rfl | exact ⟨_, _, rfl, hk'⟩
  · rintro C a v s₂ m₂ E' ha ⟨ta, rfl⟩ - hns hm hk
    repeat' (first
      | walk1
      | (dsimp only; walk1))
    all_goals first | exact ⟨_, rfl⟩ | exact ⟨_, _, rfl, fun _ _ e => e⟩
  intro D5 ys5 h' tk hk hD hpl hys
  have F9 := fr_ext F2 hk
  have N9 := news_ext N2 hk
  rw [eB] at hys
  cases hys
  obtain ⟨dc5, nn5, sl5, N8⟩ := news_list F2 N9 hpl.isList hD
  clear F2 N2
  clear N9 hk hD hpl hgv hgv2 eA
  try dsimp only
  repeat' ((fail_if_success (with_reducible show wpAny _ _ (exec (Stmt.Assign _ (Expr.ListComp _ _ _ _) _) _) _ _ _)); first
    | (exfalso; exact hbad (by with_reducible assumption))
    | ((with_reducible show wpAny _ _ (compareOp CmpOp.NotEq (Value.ref _) (Value.ref _)) _ _ _); refine ne_nil (by is_list) (by is_list) (by show u + _ + 64 < cLine; omega) ?_)
    | ((with_reducible show wpAny _ _ (call (Value.ref 308) _) _ _ _); refine wpAny_call (law_prepared (by (first | assumption | exact Md.ext (by assumption) (Fr.keep (by assumption)))) (show d + 1 + 1 < recursionLimit by omega) sh (by omega) _ ?_); rintro v h' tk ⟨t', hv⟩ hk; rw [eC] at hv; replace hv : v = .str (strL pr) t' := hv; subst hv; (have F' := fr_ext (by assumption) hk); (have N' := news_ext (by assumption) hk); clear hk; (((rename Fr _ _ _ _ => F'); (rename News _ _ _ _ => N'); revert F' N'; (repeat (rename Fr _ _ _ _ => z'; clear z')); (repeat (rename News _ _ _ _ => z'; clear z')); intro F' N')); dsimp only)
    | (first | assumption | exact Md.ext (by assumption) (Fr.keep (by assumption)))
    | walk1
    | (dsimp only; walk1))
  -- folds
  rename Fr _ _ _ _ => F1
  rename News _ _ _ _ => N1
  replace N1 : News _ _ _ _ := fun p hp => N1 p (.tail _ (.tail _ (.tail _ hp)))
  (with_reducible apply LCTA (cl := []) (h₀ := s.heap) (L := s.heap.objs.size) (m := mOf F1) (as := cs) (P := PtT (Pt2 cvs.toArray lvs.toArray)) (out := fun n v => StrV (lawFoldL w.params n (liesN n)) v) (F := F1) (N := N1)); (case hlen => exact Nat.le_trans hcl (by decide)); (((case hsw => with_unfolding_all rfl); (case hL => rfl); (case hs => intro _; with_unfolding_all rfl); (case hclos => with_unfolding_all rfl); (case hcell => decide); (case hkind => with_unfolding_all rfl); (case hnames => decide); (case hy => with_unfolding_all rfl); (case hpm => with_unfolding_all rfl)))
  case h =>
    repeat' ((fail_if_success (with_reducible show _ ∧ _)); (fail_if_success (with_reducible show wpAny _ _ (call (Value.type _) _) _ _ _)); first
      | walk1
      | (dsimp only; walk1))
    try dsimp only
    refine zip2_src ?_ ?_ ?_ ?_ ?_ ?_ ?_ ?_ (fun v s₁ h1 h2 => And.symm ⟨h1, h2⟩)
    · rfl
    · rfl
    · exact fun _ _ e => e
    · rfl
    · exact News.isList N1 (.tail _ (.head _))
    · exact News.isList N1 (.head _)
    · simp; omega
    · simp; omega
  case T =>
    refine turns2 rfl (ints_nats hcs) hlv (fun C => rfl) (fun C => by with_unfolding_all rfl) (fun C => by with_unfolding_all rfl) (fun C => by with_unfolding_all rfl) (by decide) ?_
    rintro C a v v2 s₂ m₂ E' ha ⟨ta, rfl⟩ hb hns hm1 hm2 hk
    replace hb : v2 = .bool (liesN a) := hb
    subst hb
    have M2 : Md w s₂.heap := (Md.ext m (Fr.keep F1)).ext hk
    have hlt := hc a ha
    repeat' (first
      | walk1
      | (dsimp only; walk1)
      | exact M2
      | ((with_reducible show wpAny _ _ (call (Value.ref 303) _) _ _ _); refine wpAny_call (law_fold (by exact M2) (show d + 1 + 1 < recursionLimit by omega) _ hlt _ _ ?_); rintro v h' tk ⟨t', rfl⟩ hk'; dsimp only))
    all_goals first | exact ⟨_, rfl⟩ | exact ⟨_, _, rfl, hk'⟩
  case hQ =>
  intro D6 fvs n6 h6 tk6 F2 N2 hfv
  delta mOf at F2
  dsimp only at F2 ⊢
  clear F1 N1
  have hfv' := hfv.length
  -- small
  (repeat' ((fail_if_success (with_reducible show wpAny _ _ (eval (Expr.ListComp _ _ _ _) _) _ _ _)); (fail_if_success (with_reducible show wpAny _ _ (exec (Stmt.Assign _ (Expr.ListComp _ _ _ _) _) _) _ _ _)); (fail_if_success (with_reducible show _ ∧ _)); (fail_if_success (with_reducible show ∃ _, _)); first | walk1 | (dsimp only; walk1)))
  rename Fr _ _ _ _ => F1
  rename News _ _ _ _ => N1
  (with_reducible apply LCTA (cl := []) (h₀ := s.heap) (L := s.heap.objs.size) (m := mOf F1) (as := cs) (P := PtT (Pt3 cvs.toArray lvs.toArray fvs.toArray)) (out := fun n v => StrV (if liesN n then 37 :: figL n figLo else lawFoldL w.params n (liesN n)) v) (F := F1) (N := N1)); (case hlen => exact Nat.le_trans hcl (by decide)); (((case hsw => with_unfolding_all rfl); (case hL => rfl); (case hs => intro _; with_unfolding_all rfl); (case hclos => with_unfolding_all rfl); (case hcell => decide); (case hkind => with_unfolding_all rfl); (case hnames => decide); (case hy => with_unfolding_all rfl); (case hpm => with_unfolding_all rfl)))
  case h =>
    repeat' ((fail_if_success (with_reducible show _ ∧ _)); (fail_if_success (with_reducible show wpAny _ _ (call (Value.type _) _) _ _ _)); first
      | walk1
      | (dsimp only; walk1))
    try dsimp only
    refine zip3_src ?_ ?_ ?_ ?_ ?_ ?_ ?_ ?_ ?_ ?_ (fun v s₁ h1 h2 => And.symm ⟨h1, h2⟩)
    · rfl
    · rfl
    · exact fun _ _ e => e
    · rfl
    · exact News.isList N1 (.tail _ (.tail _ (.head _)))
    · exact News.isList N1 (.tail _ (.head _))
    · exact News.isList N1 (.head _)
    · simp; omega
    · simp; omega
    · simp; omega
  case T =>
    refine turns3 rfl (ints_nats hcs) hlv hfv (fun C => rfl) (fun C => by with_unfolding_all rfl) (fun C => by with_unfolding_all rfl) (fun C => by with_unfolding_all rfl) (fun C => by with_unfolding_all rfl) (by decide) (by decide) (by decide) ?_
    rintro C a v v2 v3 s₂ m₂ E' ha ⟨ta, rfl⟩ hb ⟨tc, rfl⟩ hns hm1 hm2 hm3 hk
    replace hb : v2 = .bool (liesN a) := hb
    subst hb
    have M2 : Md w s₂.heap := (Md.ext m (Fr.keep F1)).ext hk
    have hlt := hc a ha
    repeat' (first
      | walk1
      | (dsimp only; walk1)
      | exact M2
      | ((with_reducible show wpAny _ _ (call (Value.ref 296) _) _ _ _); rw [figLo_str]; refine wpAny_call (law_figures (by exact M2) (show d + 1 + 1 < recursionLimit by omega) _ hlt figLo rfl _ _ ?_); rintro v h' tk ⟨t', rfl⟩ hk'; dsimp only))
    all_goals first | (rw [if_pos (by assumption)]; exact ⟨_, rfl⟩) | (rw [if_neg (by simp_all)]; exact ⟨_, rfl⟩) | exact ⟨_, _, rfl, hk'⟩ | exact ⟨_, _, rfl, fun _ _ e => e⟩
  case hQ =>
  intro D7 svs n7 h7 tk7 F2 N2 hsv
  delta mOf at F2
  dsimp only at F2 ⊢
  clear F1 N1
  have hsv2 := paired_map (f := fun n => if liesN n = true then 37 :: figL n figLo else lawFoldL w.params n (liesN n)) hsv
  have eA2 : (cs.map fun n => if liesN n = true then 37 :: figL n figLo else lawFoldL w.params n (liesN n)).flatten = pr := by rw [← hpr, List.flatMap_def]
  -- the second test
  repeat' ((fail_if_success (with_reducible show wpAny _ _ (eval (Expr.ListComp _ _ _ _) _) _ _ _)); first
    | (exfalso; exact hbad (by with_reducible assumption))
    | ((with_reducible show wpAny _ _ (call (Value.builtin "str.join") _) _ _ _); refine join_strsE (News.isList (by assumption) (.head _)) hsv2 eA2 (by have := sum_map_le (f := fun n => if liesN n = true then 37 :: figL n figLo else lawFoldL w.params n (liesN n)) (c := 7) (fun n => small_len w.params n (liesN n)) cs; rw [List.length_map]; omega) (fun t' k => ?_))
    | ((with_reducible show wpAny _ _ (compareOp CmpOp.NotEq (Value.str _ _) (Value.str _ _)) _ _ _); refine ne_self rfl ?_)
    | walk1
    | (dsimp only; walk1))
  (with_reducible apply LC (cl := []) (as := pr) (rel := SignV) (out := SignV) (pz := fun n => heldB w.params n)); (case hf => exact signV_fun); (case hlen => exact Nat.le_trans lpr (by decide)); (((case hs => intro _; with_unfolding_all rfl); (case hclos => with_unfolding_all rfl); (case hcell => decide); (case hkind => with_unfolding_all rfl); (case hnames => decide); (case hx => with_unfolding_all rfl)))
  (repeat' ((fail_if_success (with_reducible show wpAny _ _ (eval (Expr.ListComp _ _ _ _) _) _ _ _)); (fail_if_success (with_reducible show wpAny _ _ (exec (Stmt.Assign _ (Expr.ListComp _ _ _ _) _) _) _ _ _)); (fail_if_success (with_reducible show _ ∧ _)); (fail_if_success (with_reducible show ∃ _, _)); first | walk1 | (dsimp only; walk1)))
  try dsimp only
  refine ⟨src_str rfl, ?_, ?_, ?_⟩
  · rintro C a v s₂ m₂ E' ha ⟨ta, rfl⟩ hns hm hk
    have M2 : Md w s₂.heap := (Md.ext m (Fr.keep F2)).ext hk
    repeat' (first
      | walk1
      | (dsimp only; walk1)
      | exact M2
      | ((with_reducible show wpAny _ _ (call (Value.ref 286) _) _ _ _); refine wpAny_call (law_held (by exact M2) (show d + 1 + 1 < recursionLimit by omega) _ _ ?_); rintro v h' tk rfl hk'; dsimp only))
    all_goals first | rfl | exact ⟨_, _, rfl, hk'⟩
  · rintro C a v s₂ m₂ E' ha ⟨ta, rfl⟩ - hns hm hk
    repeat' (first
      | walk1
      | (dsimp only; walk1))
    all_goals first | exact ⟨_, rfl⟩ | exact ⟨_, _, rfl, fun _ _ e => e⟩
  intro D8 ys8 h' tk hk hD hpl hys
  have F9 := fr_ext F2 hk
  have N9 := news_ext N2 hk
  rw [eD] at hys
  obtain ⟨dc8, nn8, sl8, N8⟩ := news_list F2 N9 hpl.isList hD
  clear F2 N2 N9 hk hD hpl hsv hsv2 eA2
  have hfv2 := paired_map (f := fun n => lawFoldL w.params n (liesN n)) hfv
  have eF := law_F w.params cs
  have eG := bs2_back w.params cs
  have lfo : (cs.flatMap fun n => lawFoldL w.params n (liesN n)).length ≤ 98 := by
    have := flat_len (f := fun n => lawFoldL w.params n (liesN n)) (c := 4) (fun n => lawFold_len w.params n (liesN n)) cs; omega
  have eH : (cs.map fun n => lawFoldL w.params n (liesN n)).flatten = cs.flatMap fun n => lawFoldL w.params n (liesN n) := by rw [List.flatMap_def]
  have eW : ((cs.map fun n => lawFoldL w.params n (liesN n)).map List.length).sum + (cs.map fun n => lawFoldL w.params n (liesN n)).length ≤ 1048576 := by
    have := sum_map_le (f := fun n => lawFoldL w.params n (liesN n)) (c := 4) (fun n => lawFold_len w.params n (liesN n)) cs; rw [List.length_map]; omega
  generalize (cs.flatMap fun n => lawFoldL w.params n (liesN n)) = fo at eF eG lfo eH
  have hct := List.count_le_length (a := 890) (l := cs)
  try dsimp only
  repeat' ((fail_if_success (with_reducible show wpAny _ _ (eval (Expr.ListComp _ _ _ _) _) _ _ _)); first
    | (exfalso; exact hbad (by with_reducible assumption))
    | ((with_reducible show wpAny _ _ (call (Value.builtin "list.count") _) _ _ _); refine count_list_ints (by is_list) hcs ?_)
    | ((with_reducible show wpAny _ _ (binaryOp Operator.Mult (Value.ref _) (Value.int _ _)) _ _ _); refine mul_spaces (k := cs.count 890) (by assumption) (by assumption) (by is_list) (by rw [count_890]) (by omega) (fun h' F' N' hy => ?_); obtain ⟨ys', hyl, hyc⟩ := hy)
    | ((with_reducible show wpAny _ _ (compareOp CmpOp.NotEq (Value.ref _) (Value.ref _)) _ _ _); refine ne_spaces (k := cs.count 890) (by is_list) hyl hys hyc (by show u + _ + 64 < cLine; omega) ?_)
    | ((with_reducible show wpAny _ _ (call (Value.builtin "str.join") _) _ _ _); refine join_strsE (by is_list) hfv2 eH eW (fun t' k => ?_))
    | ((with_reducible show wpAny _ _ (compareOp CmpOp.NotEq (Value.str _ _) (Value.str _ _)) _ _ _); refine ne_self rfl ?_)
    | ((with_reducible show wpAny _ _ (call (Value.ref 315) [_, Value.bool false]) _ _ _); refine wpAny_call (law_backE (by (first | assumption | exact Md.ext (by assumption) (Fr.keep (by assumption)))) (show d + 1 + 3 < recursionLimit by omega) (bs1 w.params cs) false (bs1_blk w.params hc) eE1 (bs1_back w.params cs) (by omega) _ ?_); rintro v h' tk ⟨t', hv⟩ hk; replace hv : v = .str (strL cs) t' := hv; subst hv; (have F' := fr_ext (by assumption) hk); (have N' := news_ext (by assumption) hk); clear hk; (((rename Fr _ _ _ _ => F'); (rename News _ _ _ _ => N'); revert F' N'; (repeat (rename Fr _ _ _ _ => z'; clear z')); (repeat (rename News _ _ _ _ => z'; clear z')); intro F' N')); dsimp only)
    | ((with_reducible show wpAny _ _ (call (Value.ref 315) [_, Value.bool true]) _ _ _); refine wpAny_call (law_backE (by (first | assumption | exact Md.ext (by assumption) (Fr.keep (by assumption)))) (show d + 1 + 3 < recursionLimit by omega) (bs2 w.params cs) true (bs2_blk w.params hc) eE2 eG (by omega) _ ?_); rintro v h' tk ⟨t', hv⟩ hk; replace hv : v = .str (strL fo) t' := hv; subst hv; (have F' := fr_ext (by assumption) hk); (have N' := news_ext (by assumption) hk); clear hk; (((rename Fr _ _ _ _ => F'); (rename News _ _ _ _ => N'); revert F' N'; (repeat (rename Fr _ _ _ _ => z'; clear z')); (repeat (rename News _ _ _ _ => z'; clear z')); intro F' N')); dsimp only)
    | (first | assumption | exact Md.ext (by assumption) (Fr.keep (by assumption)))
    | walk1
    | (dsimp only; walk1))
  (with_reducible apply LC (cl := []) (as := fo) (rel := SignV) (out := fun n v => StrV [n] v) (pz := fun n : Nat => !b1S w.params n)); (case hf => exact signV_fun); (case hlen => exact Nat.le_trans lfo (by decide)); (((case hs => intro _; with_unfolding_all rfl); (case hclos => with_unfolding_all rfl); (case hcell => decide); (case hkind => with_unfolding_all rfl); (case hnames => decide); (case hx => with_unfolding_all rfl)))
  repeat' ((fail_if_success (with_reducible show _ ∧ _)); first
    | ((with_reducible show wpAny _ _ (call (Value.builtin "str.join") _) _ _ _); refine join_strsE (by is_list) hfv2 eH eW (fun t' k => ?_))
    | walk1
    | (dsimp only; walk1))
  rename Fr _ _ _ _ => F2
  rename News _ _ _ _ => N2
  try dsimp only
  refine ⟨src_str rfl, ?_, ?_, ?_⟩
  · rintro C a v s₂ m₂ E' ha ⟨ta, rfl⟩ hns hm hk
    have M2 : Md w s₂.heap := (Md.ext m (Fr.keep F2)).ext hk
    repeat' (first
      | walk1
      | (dsimp only; walk1)
      | exact M2
      | ((with_reducible show wpAny _ _ (call (Value.ref 134) _) _ _ _); refine wpAny_call (in_table_b1 (by exact M2) (show d + 1 < recursionLimit by omega) _ _ ?_); rintro v h' tk hv hk'; subst hv; dsimp only))
    all_goals first | rfl | exact ⟨_, _, rfl, hk'⟩
  · rintro C a v s₂ m₂ E' ha ⟨ta, rfl⟩ - hns hm hk
    repeat' (first
      | walk1
      | (dsimp only; walk1))
    all_goals first | exact ⟨_, rfl⟩ | exact ⟨_, _, rfl, fun _ _ e => e⟩
  intro D9 ys9 h' tk hk hD hpl hys2
  have F9 := fr_ext F2 hk
  have N9 := news_ext N2 hk
  rw [eF] at hys2
  replace hys2 := paired_map (f := fun n : Nat => [n]) hys2
  have lpc : (prepL w.params cs).length ≤ 1000 := by rw [← eF]; exact Nat.le_trans (List.length_filter_le _ _) (by omega)
  clear F2 N2 hk hD
  try dsimp only
  repeat' (first
    | ((with_reducible show wpAny _ _ (call (Value.builtin "str.join") _) _ _ _); refine join_strsE hpl.isList hys2 (flat_ids _) (by have := sum_map_le (f := fun n : Nat => [n]) (c := 1) (fun _ => Nat.le_refl _) (prepL w.params cs); rw [List.length_map]; omega) (fun t' k => ?_))
    | ((with_reducible show wpAny _ _ (compareOp CmpOp.Eq (Value.str _ _) (Value.str _ _)) _ _ _); refine eq_self' rfl ?_)
    | ((with_reducible show wpAny _ _ (call (Value.ref 308) _) _ _ _); refine wpAny_call (law_prepared (by (first | assumption | exact Md.ext (by assumption) (Fr.keep (by assumption)))) (show d + 1 + 1 < recursionLimit by omega) cs (by omega) _ ?_); rintro v h' tk ⟨t', hv⟩ hk; replace hv : v = .str (strL (prepL w.params cs)) t' := hv; subst hv; (have F' := fr_ext (by assumption) hk); (have N' := news_ext (by assumption) hk); clear hk; (((rename Fr _ _ _ _ => F'); (rename News _ _ _ _ => N'); revert F' N'; (repeat (rename Fr _ _ _ _ => z'; clear z')); (repeat (rename News _ _ _ _ => z'; clear z')); intro F' N')); dsimp only)
    | (first | assumption | exact Md.ext (by assumption) (Fr.keep (by assumption)))
    | walk1
    | (dsimp only; walk1))
  try dsimp only
  exact hR _ _ _ rfl (Fr.keep (by assumption))
end Mine
end
section
open PySem PySem.W PyProof.Rows
namespace Mine
theorem said : OpenLaw.wellSaid PySem.Challenge.rw_pa0017_01 = true := by
  unfold OpenLaw.wellSaid OpenRow.wellSaid OpenRow.partSaid looksOpen
  repeat' (with_reducible refine look_both ?_ ?_)
  · rw [PySem.W.Fast.te11788848310118352699, PySem.W.Fast.te2368527892694137696]; decide +kernel
  · rw [PySem.W.Fast.te9807087744658564304, PySem.W.Fast.te2368527892694137696, PySem.W.Fast.te12862048085361865435]; decide +kernel
  · rw [PySem.W.Fast.te8377067652309620493, PySem.W.Fast.te2368527892694137696]; decide +kernel
  · rw [PySem.W.R.allR_eq, PySem.W.Fast.te18344453789297297638, PySem.W.Fast.te2368527892694137696, PySem.W.Fast.te3471404346716756564, PySem.W.Fast.sDec_eq, PySem.W.Fast.te14412699480532031325]; decide +kernel
  · rw [PySem.W.Fast.te8326940854005059898, PySem.W.R.allR_eq, PySem.W.Fast.te5923862056798008813, PySem.W.Fast.te2368527892694137696, PySem.W.Fast.te3471404346716756564, PySem.W.Fast.sDec_eq, PySem.W.Fast.te17691160309236699985, PySem.W.R.filterR_eq, PySem.W.Fast.te13343964577679436407]; decide +kernel
  · rw [PySem.W.Fast.te17119622794617984870, PySem.W.Fast.te2368527892694137696, PySem.W.Fast.te17868728402115742887]; decide +kernel
  · rw [PySem.W.Fast.te2368527892694137696]; decide +kernel
  · rw [PySem.W.Fast.te2368527892694137696]; decide +kernel
  · rw [PySem.W.Fast.te2368527892694137696, PySem.W.R.allR_eq, PySem.W.Fast.te9706382859710513879]; decide +kernel
  · rw [PySem.W.R.allR_eq, PySem.W.Fast.te2368527892694137696, PySem.W.Fast.te3471404346716756564, PySem.W.Fast.sDec_eq, PySem.W.Fast.te18344453789297297638, PySem.W.S.strDecS_eq, PySem.W.Fast.te2357444279172408678]; decide +kernel
  · rw [PySem.W.R.mapR_eq, PySem.W.Fast.te2368527892694137696, PySem.W.Fast.sDec_eq]; decide +kernel
  · rw [PySem.W.R.allR_eq, PySem.W.Fast.te2368527892694137696, PySem.W.Fast.te4857012375875476094, PySem.W.Fast.named_eq, PySem.W.Fast.te3471404346716756564, PySem.W.Fast.sDec_eq, PySem.W.Fast.te18344453789297297638]; decide +kernel
  · rw [PySem.W.Fast.te13582783067957832011, PySem.W.Fast.te2368527892694137696]; decide +kernel
  · rw [PySem.W.Fast.te5318747976498570220, PySem.W.Fast.te2368527892694137696]; decide +kernel
  · rw [PySem.W.Fast.te5318747976498570220, PySem.W.Fast.te2368527892694137696]; decide +kernel
  · rw [PySem.W.R.allR_eq, PySem.W.Fast.te2368527892694137696, PySem.W.Fast.te5318747976498570220]; decide +kernel
  · rw [PySem.W.R.allR_eq, PySem.W.Fast.te2368527892694137696, PySem.W.Fast.te4579403493507170074, PySem.W.R.anyR_eq, PySem.W.Fast.te4274047373036748609]; decide +kernel
  · rw [PySem.W.R.allR_eq, PySem.W.Fast.te2368527892694137696]; decide +kernel
  · rw [PySem.W.Fast.te2368527892694137696]; decide +kernel
  · rw [PySem.W.Fast.te3471404346716756564, PySem.W.Fast.sDec_eq, PySem.W.Fast.te18344453789297297638, PySem.W.Fast.te2368527892694137696]; decide +kernel
  · rw [PySem.W.Fast.te3471404346716756564, PySem.W.Fast.sDec_eq, PySem.W.Fast.te12749700546528644094, PySem.W.Fast.te2368527892694137696]; decide +kernel
  · decide +kernel
  · rw [PySem.W.R.allR_eq, PySem.W.Fast.te10501279942588096481]; decide +kernel
  · rw [PySem.W.Fast.te8179353310426384613]; decide +kernel
  · decide +kernel
  · decide +kernel
  · rw [PySem.W.Fast.te8326940854005059898, PySem.W.Fast.te797321630700447069, PySem.W.Fast.te9572597257264208301]; decide +kernel
  · rw [PySem.W.Fast.te9558739934217749035]; decide +kernel
  · rw [PySem.W.Fast.te16286561074155671207]; decide +kernel
  · rw [PySem.W.R.allR_eq, PySem.W.Fast.sDec_eq]; decide +kernel
  · rw [PySem.W.R.allR_eq, PySem.W.Fast.te797321630700447069, PySem.W.Fast.named_eq, PySem.W.Fast.sDec_eq, PySem.W.Fast.te6984425678791042302]; decide +kernel
  · rw [PySem.W.R.allR_eq, PySem.W.Fast.te17095254045102204799, PySem.W.Fast.te12879404354523853263, PySem.W.Fast.te6984425678791042302]; decide +kernel
  · rw [PySem.W.R.allR_eq, PySem.W.Fast.te17095254045102204799, PySem.W.Fast.te12879404354523853263, PySem.W.Fast.te6984425678791042302, PySem.W.Fast.te482687673346738481, PySem.W.Fast.sDec_eq]; decide +kernel
  · rw [PySem.W.Fast.te17119622794617984870, PySem.W.Fast.te3471404346716756564, PySem.W.Fast.sDec_eq, PySem.W.Fast.te9572597257264208301]; decide +kernel
  · rw [PySem.W.Fast.te3471404346716756564, PySem.W.Fast.sDec_eq, PySem.W.Fast.te10792542408131684335]; decide +kernel
  · rw [PySem.W.Fast.te7723801398212525404, PySem.W.Fast.sDec_eq, PySem.W.Fast.te10792542408131684335]; decide +kernel
  · rw [PySem.W.R.allR_eq, PySem.W.Fast.te10792542408131684335, PySem.W.Fast.named_eq]; decide +kernel
  · rw [PySem.W.Fast.te17119622794617984870, PySem.W.Fast.te3471404346716756564, PySem.W.Fast.sDec_eq, PySem.W.Fast.te10792542408131684335]; decide +kernel
  · rw [PySem.W.Fast.te17119622794617984870, PySem.W.Fast.sDec_eq]; decide +kernel
end Mine
end
section
open PySem PySem.W PyProof.Rows PySem.Builtin
namespace Mine
theorem md_of (w : World) (s : Shared) (h : Yf s = Ya w) : Md w s.heap := by
  have h' : s.heap = H1 w.params := h
  rw [h']; exact fun b o e => e
theorem law_at (w : World) : mgl w "law" = some (.ref 320) := by kernel_rfl
end Mine
theorem PySem.Challenge.cw_pa0017_01_holds : PySem.Challenge.rw_pa0017_01.Holds := by
  w_on
  refine holds_law Mine.said fun said => ?_
  refine holds_open (q := Mine.qv) (loose := Mine.loose) (Xt := Mine.Xt) (XP := fun _ _ => True) (Yf := Mine.Yf) (Ya := Mine.Ya) (YP := Mine.Md) (N := 39670) Mine.left Mine.md_of (fun w h h' m k => m.ext k) (fun _ _ => True.intro) (fun _ _ _ _ _ => True.intro) (by rfl) (by rfl) (by rfl) (fun s _ => recFacts_nil rfl) (by rfl) (by first | assumption | decide +kernel) (by decide +kernel) ⟨rfl, rfl, rfl, rfl, rfl, by decide +kernel⟩ ?hw ?hc
  case hw => w_witness2
  case hc =>
    intro w s₀ s₁ mg mb G Y a o pm cd doc dV kV ho hd hcd hD hmg hg args vals as hpre hlay hrd hwl hlo
    have e : mg = Mine.mgl w := (G.T.g.eq_nsMap).trans (Mine.Md.g Y).eq_nsMap.symm
    have ha : a = 320 := by
      have h3 : Mine.mgl w "law" = some (.ref a) := e ▸ hmg
      exact (Value.ref.inj (Option.some.inj ((Mine.law_at w).symm.trans h3))).symm
    subst ha
    clear ho hd hcd hD hmg e
    wrow_args hpre hlay hrd hwl hlo
    rename IntsAre _ _ => hI
    rename Heap.IsList _ _ _ => hL
    refine enter_call (Mine.law_ret (d := 1 + claimMargin) (u := 4) (fr := some []) (gd := some []) Y (by decide +kernel) (by decide +kernel) hL hI (by omega) ?_)
    intro v h' tk hv hk
    subst hv
    exact GoodW.toG ⟨.inl ⟨_, .bool true, [], rfl, raisesW_false (by wrow_none_raised), .bool true, by wrow_post, fun _ => ⟨List.nodup_nil, fun a ha => nomatch ha⟩⟩, hk, rfl, hg⟩
end
