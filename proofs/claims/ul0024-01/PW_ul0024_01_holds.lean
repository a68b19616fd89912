import PyProof.Rows.All
import Wide.All
import OpenK.AllK
import Wide.FinOn
import Lean
import PySem.Challenge.RW_ul0024_01
open PySem PySem.W PyProof.Rows
set_option maxRecDepth 100000
set_option Elab.async false
namespace Mine
/-- m goes, within b steps, from s at q to s' at q' and yields a, in the top's own frame -/
def Goes (p : Program) (w : World) (n₀ : Nat) (ann : Option Value) (c : Code) (F : PySem.Frame) {α : Type} (b : Nat) (m : Sem α) (s : Shared) (q : Pos) (a : α) (s' : Shared) (q' : Pos) : Prop :=
  ∀ (K : α → Sem Fin) (H : Value → Sem Fin) (gd : Bool → Bool) (lv : List Value → List Value),
    ∃ n, n ≤ b ∧ segGo treeTable p w n₀ ann 1 n s ⟨m.wrap K H gd lv, c, q, [F]⟩ = some (s', ⟨K a, c, q', [F]⟩)
section
variable {p : Program} {w : World} {n₀ : Nat} {ann : Option Value} {c : Code} {F : PySem.Frame} {α β : Type}
theorem segGo_add {tb : String → Option Builtin} {b : Nat} : ∀ {n n' : Nat} {s s₁ s₂ : Shared} {t t₁ t₂ : Thread}, segGo tb p w n₀ ann b n s t = some (s₁, t₁) → segGo tb p w n₀ ann b n' s₁ t₁ = some (s₂, t₂) →
    segGo tb p w n₀ ann b (n + n') s t = some (s₂, t₂)
  | 0, n', s, s₁, s₂, t, t₁, t₂, h, k => by
    obtain ⟨rfl, rfl⟩ : s = s₁ ∧ t = t₁ := by simpa [segGo] using h
    rw [Nat.zero_add]; exact k
  | n + 1, n', s, s₁, s₂, t, t₁, t₂, h, k => by
    rw [show n + 1 + n' = n + n' + 1 by omega]
    unfold segGo at h ⊢
    cases he : endAt b t with
    | some f => rw [he] at h; cases h
    | none =>
      rw [he] at h
      cases hk : stepOk n₀ ann t with
      | false => rw [hk] at h; cases h
      | true =>
        rw [hk] at h
        cases hs : step (denote tb) p w s t with
        | halt o s₂ => rw [hs] at h; cases h
        | go s₂ t₂ => rw [hs] at h; exact segGo_add h k
theorem goes_pure {a : α} {s : Shared} {q : Pos} : Goes p w n₀ ann c F 0 (pure a) s q a s q :=
  fun K _ _ _ => ⟨0, Nat.le_refl _, rfl⟩
theorem goes_le {b b' : Nat} {m : Sem α} {s s' : Shared} {q q' : Pos} {a : α} (h : Goes p w n₀ ann c F b m s q a s' q') (hb : b ≤ b') : Goes p w n₀ ann c F b' m s q a s' q' :=
  fun K H gd lv => let ⟨n, hn, e⟩ := h K H gd lv; ⟨n, Nat.le_trans hn hb, e⟩
theorem goes_bind {b b' : Nat} {m : Sem α} {f : α → Sem β} {s s₁ s₂ : Shared} {q q₁ q₂ : Pos} {a : α} {r : β}
    (h : Goes p w n₀ ann c F b m s q a s₁ q₁) (k : Goes p w n₀ ann c F b' (f a) s₁ q₁ r s₂ q₂) : Goes p w n₀ ann c F (b + b') (m >>= f) s q r s₂ q₂ :=
  fun K H gd lv => by
    obtain ⟨n, hn, e⟩ := h (fun a => (f a).wrap K H gd lv) H (fun g => gd g) (fun l => lv l)
    obtain ⟨n', hn', e'⟩ := k K H gd lv
    refine ⟨n + n', by omega, ?_⟩
    rw [Sem.bind_eq_wrap', Sem.wrap_wrap]
    exact segGo_add e e'
theorem goes_keep {b : Nat} {m : Sem α} {vs : List Value} {s s' : Shared} {q q' : Pos} {a : α} (h : Goes p w n₀ ann c F b m s q a s' q') : Goes p w n₀ ann c F b (m.keep vs) s q a s' q' :=
  fun K H gd lv => by rw [Sem.keep_eq_wrap, Sem.wrap_wrap]; exact h _ _ _ _
theorem goes_holding {b : Nat} {m : Sem α} {vs : List Value} {s s' : Shared} {q q' : Pos} {a : α} (h : Goes p w n₀ ann c F b m s q a s' q') : Goes p w n₀ ann c F b (holding vs m) s q a s' q' := by
  unfold holding
  split
  · exact h
  · exact goes_keep h
theorem goes_onRaise {b : Nat} {m : Sem α} {x : Value → Sem Unit} {s s' : Shared} {q q' : Pos} {a : α} (h : Goes p w n₀ ann c F b m s q a s' q') : Goes p w n₀ ann c F b (m.onRaise x) s q a s' q' :=
  fun K H gd lv => by rw [Sem.onRaise_eq_wrap, Sem.wrap_wrap]; exact h _ _ _ _
theorem goes_rule {tag : String} {s : Shared} {q : Pos} : Goes p w n₀ ann c F 1 (rule tag) s q () s q :=
  fun K _ _ _ => ⟨1, Nat.le_refl _, rfl⟩
theorem goes_at {q' : Pos} {s : Shared} {q : Pos} : Goes p w n₀ ann c F 1 (standAt q') s q () s q' :=
  fun K _ _ _ => ⟨1, Nat.le_refl _, rfl⟩
theorem goes_point {s : Shared} {q : Pos} : Goes p w n₀ ann c F 1 point s q () s q :=
  fun K _ _ _ => ⟨1, Nat.le_refl _, rfl⟩
theorem goes_fresh {s : Shared} {q : Pos} : Goes p w n₀ ann c F 1 fresh s q s.toks { s with toks := s.toks + 1 } q :=
  fun K _ _ _ => ⟨1, Nat.le_refl _, rfl⟩
theorem goes_ask {s : Shared} {q : Pos} : Goes p w n₀ ann c F 1 ask s q ⟨p, w.params⟩ s q :=
  fun K _ _ _ => ⟨1, Nat.le_refl _, rfl⟩
theorem goes_loadPart {a : Addr} {part : Option Value} {o : Obj} {s : Shared} {q : Pos} (h : s.heap.get? a = some o) : Goes p w n₀ ann c F 1 (loadPart a part) s q o s q :=
  fun K H gd lv => ⟨1, Nat.le_refl _, by
    obtain ⟨heap, gens, drawn, toks, os⟩ := s
    show (match step (denote treeTable) p w ⟨heap, gens, drawn, toks, os⟩ ⟨.load a part fun x => K x, c, q, [F]⟩ with | .go s' t' => some (s', t') | .halt _ _ => none) = _
    simp only [step, show heap.get? a = some o from h]⟩
theorem goes_load {a : Addr} {o : Obj} {s : Shared} {q : Pos} (h : s.heap.get? a = some o) : Goes p w n₀ ann c F 1 (load a) s q o s q := goes_loadPart (part := none) h
theorem goes_updatePart {a : Addr} {part : Option Value} {f : Obj → Obj} {o : Obj} {s : Shared} {q : Pos} (h : s.heap.get? a = some o) (ha : n₀ ≤ a) :
    Goes p w n₀ ann c F 1 (updatePart a part f) s q () { s with heap := s.heap.update a f } q :=
  fun K H gd lv => ⟨1, Nat.le_refl _, by
    obtain ⟨heap, gens, drawn, toks, os⟩ := s
    show (match stepOk n₀ ann ⟨.update a part f fun x => K x, c, q, [F]⟩ with | false => none | true => (match step (denote treeTable) p w ⟨heap, gens, drawn, toks, os⟩ ⟨.update a part f fun x => K x, c, q, [F]⟩ with | .go s' t' => some (s', t') | .halt _ _ => none)) = _
    have hk : stepOk n₀ ann ⟨.update a part f fun x => K x, c, q, [F]⟩ = true := by
      show (Thread.calm _ && (Nat.ble n₀ a || a == mainNs || a == cStatics || ann == some (.ref a))) = true
      rw [Nat.ble_eq_true_of_le ha]; rfl
    rw [hk]
    simp only [step, show heap.get? a = some o from h, Option.isSome_some, if_true]⟩
theorem goes_alloc {o : Obj} {s : Shared} {q : Pos} : Goes p w n₀ ann c F 1 (alloc o) s q s.heap.objs.size { s with heap := s.heap.push o } q :=
  fun K _ _ _ => ⟨1, Nat.le_refl _, rfl⟩
end
abbrev hashCall (k : Int) (t : Tok) : Sem (Option Value) := callSpecialIfBoundUnlessNone? (.int k t) "__hash__" (do rule "hash.unhashable"; raiseError "TypeError" s!"unhashable type: '{← typeNameOf (.int k t)}'")
section
variable {p : Program} {w : World} {n₀ : Nat} {ann : Option Value} {bd : List Stmt} {env : Env} {F : PySem.Frame} {k : Int} {t : Tok}
theorem hashCall_row (bb : Bool) (w : World) :
  ∀ (s : Shared) (q : Pos) (K : Option Value → Sem Fin) (H : Value → Sem Fin) (gd : Bool → Bool) (lv : List Value → List Value),
    segGo treeTable p (w.withFollow "special-get-raises" bb) n₀ ann 1 5 s ⟨(hashCall k t).wrap K H gd lv, .body bd env, q, [F]⟩ = some ({ s with toks := s.toks + 1 }, ⟨K (some (.int (rawHash k) s.toks)), .body bd env, q, [F]⟩) := by
  intro s q K H gd lv
  cases bb <;> kernel_rfl
theorem goes_hashCall {s : Shared} {q : Pos} : Goes p w n₀ ann (.body bd env) F 5 (hashCall k t) s q (some (.int (rawHash k) s.toks)) { s with toks := s.toks + 1 } q :=
  fun K H gd lv => ⟨5, Nat.le_refl _, byRow2 "special-get-raises" (P := fun w => ∀ (s : Shared) (q : Pos) (K : Option Value → Sem Fin) (H : Value → Sem Fin) (gd : Bool → Bool) (lv : List Value → List Value),
    segGo treeTable p w n₀ ann 1 5 s ⟨(hashCall k t).wrap K H gd lv, .body bd env, q, [F]⟩ = some ({ s with toks := s.toks + 1 }, ⟨K (some (.int (rawHash k) s.toks)), .body bd env, q, [F]⟩))
    (hashCall_row false) (hashCall_row true) w s q K H gd lv⟩
theorem special_hash : specialOf (.int k t) "__hash__" = pure (some (.builtin "int.__hash__")) := by
  show typeLookup (.type "int") "__hash__" = _
  rw [typeLookup_type, builtinLookup_eq_fast]; kernel_rfl
theorem goes_pyHash {s : Shared} {q : Pos} : Goes p w n₀ ann (.body bd env) F 5 (pyHash (.int k t)) s q (hashInt k) { s with toks := s.toks + 1 } q := by
  have hr := rawHash_range k
  show Goes _ _ _ _ _ _ _ (pyHashByItsType (.int k t)) _ _ _ _ _
  unfold pyHashByItsType
  rw [special_hash]
  refine goes_bind (b := 0) (b' := 5) (a := ()) goes_pure ?_
  refine goes_bind (b := 0) (b' := 5) goes_pure ?_
  show Goes _ _ _ _ _ _ _ (if (some (Value.builtin "int.__hash__") == some Value.none) = true then _ else _) _ _ _ _ _
  rw [if_neg (by rw [beq_builtin_none]; exact Bool.false_ne_true)]
  refine goes_bind (b := 0) (b' := 5) goes_pure ?_
  refine goes_bind (b := 5) (b' := 0) goes_hashCall ?_
  show Goes _ _ _ _ _ _ _ (if (decide (-(2 : Int) ^ 63 ≤ rawHash k) && decide (rawHash k < 2 ^ 63)) = true then _ else _) _ _ _ _ _
  rw [if_pos (by rw [decide_eq_true hr.1, decide_eq_true hr.2]; rfl)]
  exact goes_pure
theorem places_none {es : Array DictEntry} {h : Int} (hn : ∀ e ∈ es.toList, e.hash ≠ h) : placesWithHash es.size (fun i => es[i]?.map (·.hash)) h = [] := by
  unfold placesWithHash
  rw [List.filter_eq_nil_iff]
  intro i hi
  rw [List.mem_range] at hi
  have := hn es[i] (by simp)
  simp [hi, this]
theorem goes_dictFind_none {d : Addr} {o : Obj} {es : Array DictEntry} {n : Nat} {h : Int} {c : Code} {s : Shared} {q : Pos} (ho : s.heap.get? d = some o) (hd : o.data = .dict es n) (hn : ∀ e ∈ es.toList, e.hash ≠ h) :
    Goes p w n₀ ann c F 1 (dictFind d (.int k t) h) s q none s q := by
  show Goes p w n₀ ann c F 1 (dictEntries d (keyPart (.int k t)) >>= _) s q none s q
  refine goes_bind (b := 1) (b' := 0) (a := es) (s₁ := s) (q₁ := q) ?_ ?_
  · refine goes_bind (b := 1) (b' := 0) (goes_loadPart ho) ?_
    rw [hd]; exact goes_pure
  · have hp := places_none hn
    simp only [hp]
    exact goes_pure
theorem goes_updateKeys {d : Addr} {o : Obj} {es : Array DictEntry} {n : Nat} {c : Code} {part : Option Value} {s : Shared} {q : Pos} {e : DictEntry} (ho : s.heap.get? d = some { cls := .type "dict", data := .dict es n }) (ha : n₀ ≤ d)
    (hz : es.size ≤ 1000) :
    Goes p w n₀ ann c F 3 (updateDictKeys d (·.push e) part) s q () { s with heap := s.heap.update d (Obj.mapDictKeys (·.push e)) } q := by
  unfold updateDictKeys
  refine goes_bind (b := 1) (b' := 2) (goes_loadPart ho) ?_
  refine goes_bind (b := 1) (b' := 1) (goes_updatePart ho ha) ?_
  unfold lookBehind
  refine goes_bind (b := 1) (b' := 0) (goes_loadPart (o := { cls := .type "dict", data := .dict (es.push e) (n + 1) }) ?_) ?_
  · exact Heap.get?_update_self (Obj.mapDictKeys (·.push e)) ho rfl
  · show Goes p w n₀ ann c F 0 (match (if (es.push e).size > sizeLine + 1 then some "dict:memory" else none) with | some what => unsupported what | _ => pure ()) _ _ _ _ _
    rw [if_neg (by rw [Array.size_push, sizeLine_eq]; omega)]
    exact goes_pure
end
/-- a heap with one place kept open -/
structure Hole (hp : Obj → Heap) (d : Addr) : Prop where
  get : ∀ o, o.isFreed = false → (hp o).get? d = some o
  upd : ∀ o f, (hp o).update d f = hp (f o)
def HH (hb : Heap) (m : Obj) (subs : List Obj) : Heap := ⟨hb.objs ++ (m :: subs).toArray, hb.life⟩
theorem hh_push0 (hb : Heap) (m : Obj) : hb.push m = HH hb m [] := by
  obtain ⟨objs, life⟩ := hb
  show Heap.mk (objs.push m) life = Heap.mk (objs ++ [m].toArray) life
  congr 1
theorem hh_push (hb : Heap) (m o : Obj) (subs : List Obj) : (HH hb m subs).push o = HH hb m (subs ++ [o]) := by
  obtain ⟨objs, life⟩ := hb
  show Heap.mk ((objs ++ (m :: subs).toArray).push o) life = Heap.mk (objs ++ (m :: (subs ++ [o])).toArray) life
  congr 1
  apply Array.toList_inj.mp
  simp
theorem hh_size (hb : Heap) (m : Obj) (subs : List Obj) : (HH hb m subs).objs.size = hb.objs.size + 1 + subs.length := by
  show (hb.objs ++ (m :: subs).toArray).size = _
  simp; omega
theorem get_of_at {h : Heap} {a : Addr} {o : Obj} (e : h.objs[a]? = some o) (hf : o.isFreed = false) : h.get? a = some o := by
  unfold Heap.get?
  rw [e]
  obtain ⟨c, d, dt, sl⟩ := o
  cases dt <;> first | rfl | cases hf
theorem hole_main (hb : Heap) (subs : List Obj) : Hole (fun o => HH hb o subs) hb.objs.size where
  get o hf := get_of_at (by show (hb.objs ++ (o :: subs).toArray)[hb.objs.size]? = _; simp) hf
  upd o f := by
    show Heap.mk ((hb.objs ++ (o :: subs).toArray).modify hb.objs.size f) hb.life = Heap.mk (hb.objs ++ (f o :: subs).toArray) hb.life
    congr 1
    apply Array.ext_getElem?
    intro i
    rw [Array.getElem?_modify]
    by_cases h : hb.objs.size = i
    · subst h; simp
    · rw [if_neg h]
      by_cases h2 : i < hb.objs.size
      · rw [Array.getElem?_append_left h2, Array.getElem?_append_left h2]
      · rw [Array.getElem?_append_right (by omega), Array.getElem?_append_right (by omega)]
        obtain ⟨j, hj⟩ : ∃ j, i - hb.objs.size = j + 1 := ⟨i - hb.objs.size - 1, by omega⟩
        simp [hj]
theorem hole_sub (hb : Heap) (m : Obj) (subs : List Obj) : Hole (fun o => HH hb m (subs ++ [o])) (hb.objs.size + 1 + subs.length) where
  get o hf := get_of_at (by
    show (hb.objs ++ (m :: (subs ++ [o])).toArray)[hb.objs.size + 1 + subs.length]? = _
    rw [Array.getElem?_append_right (by omega), show hb.objs.size + 1 + subs.length - hb.objs.size = subs.length + 1 by omega]
    simp) hf
  upd o f := by
    show Heap.mk ((hb.objs ++ (m :: (subs ++ [o])).toArray).modify (hb.objs.size + 1 + subs.length) f) hb.life = Heap.mk (hb.objs ++ (m :: (subs ++ [f o])).toArray) hb.life
    congr 1
    apply Array.ext_getElem?
    intro i
    rw [Array.getElem?_modify]
    by_cases h2 : i < hb.objs.size
    · rw [if_neg (by omega), Array.getElem?_append_left h2, Array.getElem?_append_left h2]
    · rw [Array.getElem?_append_right (by omega), Array.getElem?_append_right (by omega)]
      by_cases h : hb.objs.size + 1 + subs.length = i
      · subst h
        rw [if_pos rfl, show hb.objs.size + 1 + subs.length - hb.objs.size = subs.length + 1 by omega]
        simp
      · rw [if_neg h]
        generalize hj : i - hb.objs.size = j
        cases j with
        | zero => simp
        | succ j =>
          have : j ≠ subs.length := by omega
          by_cases h3 : j < subs.length
          · simp [List.getElem?_append_left h3]
          · simp [List.getElem?_append_right (show subs.length ≤ j by omega), show j - subs.length ≠ 0 by omega]
abbrev En := Int × Str
def entsFrom : Nat → List En → List DictEntry
  | _, [] => []
  | T, e :: r => ⟨hashInt e.1, .int e.1 T, .str e.2 (T + 1)⟩ :: entsFrom (T + 3) r
def entsFlat : Nat → List En → List DictEntry
  | _, [] => []
  | T, e :: r => ⟨hashInt e.1, .int e.1 T, .str e.2 (T + 1)⟩ :: entsFlat (T + 2) r
def dObj (l : List DictEntry) : Obj := { cls := .type "dict", data := .dict l.toArray l.length }
theorem dObj_push (l : List DictEntry) (e : DictEntry) : Obj.mapDictKeys (·.push e) (dObj l) = dObj (l ++ [e]) := by
  unfold dObj Obj.mapDictKeys
  simp
def onePair (pos : Pos) (e : En) : Sem Value × Sem Value := (mkInt e.1, do let x ← mkText e.2; standAt pos; pure x)
section
variable {p : Program} {w : World} {n₀ : Nat} {ann : Option Value} {bd : List Stmt} {env : Env} {F : PySem.Frame} {hp : Obj → Heap} {d : Addr} {gens : Array GenState} {drawn : Drawn} {os : OsState}
/-- the hashes of the entries -/
def Fresh (acc : List DictEntry) (k : Int) : Prop := ∀ e ∈ acc, e.hash ≠ hashInt k
theorem goes_dictSet (X : Hole hp d) (hd : n₀ ≤ d) {acc : List DictEntry} {k : Int} {t : Tok} {v : Value} {T : Nat} {q : Pos} (hf : Fresh acc k) (hz : acc.length ≤ 1000) :
    Goes p w n₀ ann (.body bd env) F 10 (dictSet d (.int k t) v) ⟨hp (dObj acc), gens, drawn, T, os⟩ q () ⟨hp (dObj (acc ++ [⟨hashInt k, .int k t, v⟩])), gens, drawn, T + 1, os⟩ q := by
  unfold dictSet
  refine goes_holding ?_
  refine goes_bind (b := 5) (b' := 5) goes_pyHash ?_
  unfold dictSetHashed
  refine goes_holding ?_
  have ho : (hp (dObj acc)).get? d = some (dObj acc) := X.get _ rfl
  refine goes_bind (b := 1) (b' := 4) (goes_dictFind_none (s := ⟨hp (dObj acc), gens, drawn, T + 1, os⟩) ho rfl hf) ?_
  refine goes_bind (b := 1) (b' := 3) goes_rule ?_
  have := goes_updateKeys (p := p) (w := w) (n₀ := n₀) (ann := ann) (F := F) (c := .body bd env) (part := keyPart (.int k t)) (s := ⟨hp (dObj acc), gens, drawn, T + 1, os⟩) (q := q) (o := dObj acc) (e := ⟨hashInt k, .int k t, v⟩) ho hd (by simpa using hz)
  rw [show (hp (dObj acc)).update d (Obj.mapDictKeys (·.push ⟨hashInt k, .int k t, v⟩)) = hp (dObj (acc ++ [⟨hashInt k, .int k t, v⟩])) by rw [X.upd, dObj_push]] at this
  exact this
theorem goes_putLong (X : Hole hp d) (hd : n₀ ≤ d) {pos : Pos} : ∀ (es : List En) (acc : List DictEntry) (T : Nat) (q : Pos), (∀ e ∈ es, Fresh acc e.1) → es.Pairwise (fun a b => hashInt a.1 ≠ hashInt b.1) → acc.length + es.length ≤ 1000 →
    ∃ q', (es ≠ [] → q' = pos) ∧ (es = [] → q' = q) ∧ Goes p w n₀ ann (.body bd env) F (13 * es.length) (forIn (es.map (onePair pos)) PUnit.unit fun (x : Sem Value × Sem Value) (_ : PUnit) => (do
        let kv ← x.1
        let vv ← holding [kv] x.2
        holding [kv, vv] (dictSet d kv vv)
        pure (ForInStep.yield PUnit.unit) : Sem (ForInStep PUnit)))
      ⟨hp (dObj acc), gens, drawn, T, os⟩ q PUnit.unit ⟨hp (dObj (acc ++ entsFrom T es)), gens, drawn, T + 3 * es.length, os⟩ q'
  | [], acc, T, q, _, _, _ => ⟨q, fun h => absurd rfl h, fun _ => rfl, by
      rw [show acc ++ entsFrom T [] = acc from List.append_nil acc]
      exact goes_pure⟩
  | e :: r, acc, T, q, h1, h2, h3 => by
    rw [List.length_cons] at h3
    obtain ⟨h2a, h2b⟩ := List.pairwise_cons.mp h2
    obtain ⟨q', a, b, g⟩ := goes_putLong X hd r (acc ++ [⟨hashInt e.1, .int e.1 T, .str e.2 (T + 1)⟩]) (T + 3) pos (fun e' he' x hx => by
      rcases List.mem_append.mp hx with hx | hx
      · exact h1 e' (.tail _ he') x hx
      · obtain rfl := List.mem_singleton.mp hx
        exact h2a e' he') h2b (by simp; omega)
    have q'eq : q' = pos := by
      by_cases hr : r = []
      · exact b hr
      · exact a hr
    subst q'eq
    refine ⟨q', fun _ => rfl, fun h => (nomatch h), ?_⟩
    rw [List.map_cons, List.forIn_cons]
    rw [show acc ++ entsFrom T (e :: r) = acc ++ [⟨hashInt e.1, .int e.1 T, .str e.2 (T + 1)⟩] ++ entsFrom (T + 3) r by simp [entsFrom]]
    rw [show T + 3 * (e :: r).length = T + 3 + 3 * r.length by simp; omega]
    refine goes_le (b := 13 + 13 * r.length) ?_ (by simp; omega)
    refine goes_bind (b := 13) (b' := 13 * r.length) (a := ForInStep.yield PUnit.unit) (s₁ := ⟨hp (dObj (acc ++ [⟨hashInt e.1, .int e.1 T, .str e.2 (T + 1)⟩])), gens, drawn, T + 3, os⟩) (q₁ := q') ?_ g
    refine goes_bind (b := 1) (b' := 12) (a := .int e.1 T) (s₁ := ⟨hp (dObj acc), gens, drawn, T + 1, os⟩) (q₁ := q) (goes_bind (b := 1) (b' := 0) goes_fresh goes_pure) ?_
    refine goes_bind (b := 2) (b' := 10) (a := .str e.2 (T + 1)) (s₁ := ⟨hp (dObj acc), gens, drawn, T + 2, os⟩) (q₁ := q') (goes_holding (goes_bind (b := 1) (b' := 1) (goes_bind (b := 1) (b' := 0) goes_fresh goes_pure) (goes_bind (b := 1) (b' := 0) goes_at goes_pure))) ?_
    refine goes_bind (b := 10) (b' := 0) (goes_holding (goes_dictSet X hd (h1 e (.head _)) (by omega))) ?_
    exact goes_pure
end
section
variable {p : Program} {w : World} {n₀ : Nat} {ann : Option Value} {bd : List Stmt} {env : Env} {F : PySem.Frame} {hp : Obj → Heap} {d : Addr} {gens : Array GenState} {drawn : Drawn} {os : OsState}
theorem fresh_nil (k : Int) : Fresh [] k := fun _ h => nomatch h
theorem goes_subLong {h h' : Heap} {pos : Pos} {es : List En} {T : Nat} {q : Pos} (X : Hole hp h.objs.size) (e0 : h.push (dObj []) = hp (dObj [])) (hd : n₀ ≤ h.objs.size) (hl : 15 < es.length) (hz : es.length ≤ 1000)
    (h2 : es.Pairwise (fun a b => hashInt a.1 ≠ hashInt b.1)) :
    Goes p w n₀ ann (.body bd env) F (2 + 13 * es.length) (subDict (es.map (onePair pos))) ⟨h, gens, drawn, T, os⟩ q h.objs.size ⟨hp (dObj (entsFrom T es)), gens, drawn, T + 3 * es.length, os⟩ pos := by
  unfold subDict
  refine goes_le (b := 1 + (1 + 13 * es.length + 0)) ?_ (by omega)
  refine goes_bind (b := 1) (a := h.objs.size) (s₁ := ⟨hp (dObj []), gens, drawn, T, os⟩) (q₁ := q) ?_ ?_
  · have := goes_alloc (p := p) (w := w) (n₀ := n₀) (ann := ann) (F := F) (c := .body bd env) (o := dObj []) (s := ⟨h, gens, drawn, T, os⟩) (q := q)
    rw [show h.push (dObj []) = hp (dObj []) from e0] at this
    exact this
  · refine goes_bind (b := 1 + 13 * es.length) (b' := 0) (a := PUnit.unit) (s₁ := ⟨hp (dObj (entsFrom T es)), gens, drawn, T + 3 * es.length, os⟩) (q₁ := pos) (goes_holding ?_) goes_pure
    rw [if_neg (by rw [List.length_map]; omega)]
    refine goes_bind (b := 1) (b' := 13 * es.length) goes_rule ?_
    obtain ⟨q', a, _, g⟩ := goes_putLong (p := p) (w := w) (n₀ := n₀) (ann := ann) (bd := bd) (env := env) (F := F) (gens := gens) (drawn := drawn) (os := os) X hd (pos := pos) es [] T q (fun _ _ => fresh_nil _) h2 (by simpa using hz)
    obtain rfl := a (by rintro rfl; simp at hl)
    rw [List.nil_append] at g
    refine goes_le (b := 13 * es.length + 0) (goes_bind g ?_) (by omega)
    exact goes_pure
theorem goes_evalPairs {pos : Pos} {h : Heap} : ∀ (es : List En) (T : Nat) (q : Pos), ∃ q', (es ≠ [] → q' = pos) ∧ (es = [] → q' = q) ∧
    Goes p w n₀ ann (.body bd env) F (3 * es.length) (evalPairs (es.map (onePair pos))) ⟨h, gens, drawn, T, os⟩ q ((es.zipIdx 0).map fun x => (.int x.1.1 (T + 2 * x.2), .str x.1.2 (T + 2 * x.2 + 1))) ⟨h, gens, drawn, T + 2 * es.length, os⟩ q'
  | [], T, q => ⟨q, fun h => absurd rfl h, fun _ => rfl, goes_pure⟩
  | e :: r, T, q => by
    obtain ⟨q', a, b, g⟩ := goes_evalPairs (h := h) r (T + 2) pos
    have q'eq : q' = pos := by
      by_cases hr : r = []
      · exact b hr
      · exact a hr
    subst q'eq
    refine ⟨q', fun _ => rfl, fun h => (nomatch h), ?_⟩
    rw [List.map_cons]
    unfold onePair
    unfold evalPairs
    refine goes_le (b := 1 + (2 + (3 * r.length + 0))) ?_ (by simp; omega)
    refine goes_bind (b := 1) (a := .int e.1 T) (s₁ := ⟨h, gens, drawn, T + 1, os⟩) (q₁ := q) (goes_bind (b := 1) (b' := 0) goes_fresh goes_pure) ?_
    refine goes_bind (b := 2) (a := .str e.2 (T + 1)) (s₁ := ⟨h, gens, drawn, T + 2, os⟩) (q₁ := q') (goes_holding (goes_bind (b := 1) (b' := 1) (goes_bind (b := 1) (b' := 0) goes_fresh goes_pure) (goes_bind (b := 1) (b' := 0) goes_at goes_pure))) ?_
    refine goes_bind (b := 3 * r.length) (b' := 0) (goes_holding g) ?_
    rw [show T + 2 * (e :: r).length = T + 2 + 2 * r.length by simp; omega]
    have el : (List.zipIdx r 0).map (fun x => (Value.int x.1.1 (T + 2 + 2 * x.2), Value.str x.1.2 (T + 2 + 2 * x.2 + 1))) = (List.zipIdx r 1).map (fun x => (Value.int x.1.1 (T + 2 * x.2), Value.str x.1.2 (T + 2 * x.2 + 1))) := by
      rw [List.zipIdx_succ, List.map_map]
      refine List.map_congr_left fun x _ => ?_
      simp only [Function.comp, Prod.map, id, Prod.mk.injEq, Value.int.injEq, Value.str.injEq, true_and]
      obtain ⟨y, j⟩ := x
      dsimp only [Prod.map, id]
      constructor <;> (show @Eq Nat _ _) <;> omega
    rw [el]
    exact goes_pure
theorem goes_putFlat (X : Hole hp d) (hd : n₀ ≤ d) {q : Pos} : ∀ (es : List En) (acc : List DictEntry) (T0 i T : Nat), (∀ e ∈ es, Fresh acc e.1) → es.Pairwise (fun a b => hashInt a.1 ≠ hashInt b.1) → acc.length + es.length ≤ 1000 →
    Goes p w n₀ ann (.body bd env) F (10 * es.length) (forIn ((es.zipIdx i).map fun x => (Value.int x.1.1 (T0 + 2 * x.2), Value.str x.1.2 (T0 + 2 * x.2 + 1))) PUnit.unit fun (x : Value × Value) (_ : PUnit) => (do
        dictSet d x.1 x.2
        pure (ForInStep.yield PUnit.unit) : Sem (ForInStep PUnit)))
      ⟨hp (dObj acc), gens, drawn, T, os⟩ q PUnit.unit ⟨hp (dObj (acc ++ entsFlat (T0 + 2 * i) es)), gens, drawn, T + es.length, os⟩ q
  | [], acc, T0, i, T, _, _, _ => by
      rw [show acc ++ entsFlat (T0 + 2 * i) [] = acc from List.append_nil acc]
      exact goes_pure
  | e :: r, acc, T0, i, T, h1, h2, h3 => by
    rw [List.length_cons] at h3
    obtain ⟨h2a, h2b⟩ := List.pairwise_cons.mp h2
    have g := goes_putFlat (q := q) X hd r (acc ++ [⟨hashInt e.1, .int e.1 (T0 + 2 * i), .str e.2 (T0 + 2 * i + 1)⟩]) T0 (i + 1) (T + 1) (fun e' he' x hx => by
      rcases List.mem_append.mp hx with hx | hx
      · exact h1 e' (.tail _ he') x hx
      · obtain rfl := List.mem_singleton.mp hx
        exact h2a e' he') h2b (by simp; omega)
    rw [List.zipIdx_cons, List.map_cons, List.forIn_cons]
    rw [show acc ++ entsFlat (T0 + 2 * i) (e :: r) = acc ++ [⟨hashInt e.1, .int e.1 (T0 + 2 * i), .str e.2 (T0 + 2 * i + 1)⟩] ++ entsFlat (T0 + 2 * (i + 1)) r by simp [entsFlat, Nat.mul_add, Nat.add_assoc]]
    rw [show T + (e :: r).length = T + 1 + r.length by simp; omega]
    refine goes_le (b := 10 + 10 * r.length) ?_ (by simp; omega)
    refine goes_bind (b := 10) (a := ForInStep.yield PUnit.unit) (s₁ := ⟨hp (dObj (acc ++ [⟨hashInt e.1, .int e.1 (T0 + 2 * i), .str e.2 (T0 + 2 * i + 1)⟩])), gens, drawn, T + 1, os⟩) (q₁ := q) ?_ g
    exact goes_bind (b := 10) (b' := 0) (goes_dictSet X hd (h1 e (.head _)) (by omega)) goes_pure
theorem goes_subFlat {h : Heap} {pos : Pos} {es : List En} {T : Nat} {q : Pos} (X : Hole hp h.objs.size) (e0 : h.push (dObj []) = hp (dObj [])) (hd : n₀ ≤ h.objs.size) (hl : es.length ≤ 15) (hne : es ≠ [])
    (h2 : es.Pairwise (fun a b => hashInt a.1 ≠ hashInt b.1)) :
    Goes p w n₀ ann (.body bd env) F (1 + 13 * es.length) (subDict (es.map (onePair pos))) ⟨h, gens, drawn, T, os⟩ q h.objs.size ⟨hp (dObj (entsFlat T es)), gens, drawn, T + 3 * es.length, os⟩ pos := by
  unfold subDict
  refine goes_le (b := 1 + (13 * es.length + 0)) ?_ (by omega)
  refine goes_bind (b := 1) (a := h.objs.size) (s₁ := ⟨hp (dObj []), gens, drawn, T, os⟩) (q₁ := q) ?_ ?_
  · have := goes_alloc (p := p) (w := w) (n₀ := n₀) (ann := ann) (F := F) (c := .body bd env) (o := dObj []) (s := ⟨h, gens, drawn, T, os⟩) (q := q)
    rw [show h.push (dObj []) = hp (dObj []) from e0] at this
    exact this
  · refine goes_bind (b := 13 * es.length) (b' := 0) (a := PUnit.unit) (s₁ := ⟨hp (dObj (entsFlat T es)), gens, drawn, T + 3 * es.length, os⟩) (q₁ := pos) (goes_holding ?_) goes_pure
    rw [if_pos (by rw [List.length_map]; omega)]
    obtain ⟨q', a, _, g⟩ := goes_evalPairs (p := p) (w := w) (n₀ := n₀) (ann := ann) (bd := bd) (env := env) (F := F) (gens := gens) (drawn := drawn) (os := os) (pos := pos) (h := hp (dObj [])) es T q
    obtain rfl := a hne
    refine goes_le (b := 3 * es.length + 10 * es.length) (goes_bind g (goes_holding ?_)) (by omega)
    have g2 := goes_putFlat (p := p) (w := w) (n₀ := n₀) (ann := ann) (bd := bd) (env := env) (F := F) (gens := gens) (drawn := drawn) (os := os) (q := q') X hd es [] T 0 (T + 2 * es.length) (fun _ _ => fresh_nil _) h2 (by simp; omega)
    rw [List.nil_append, Nat.mul_zero, Nat.add_zero, show T + 2 * es.length + es.length = T + 3 * es.length by omega] at g2
    refine goes_le (b := 10 * es.length + 0) (goes_bind g2 ?_) (by omega)
    exact goes_pure
end
theorem sub_dict_dict : isSubtype (.type "dict") (.type "dict") = pure true := by rw [isSubtype_type]; kernel_rfl
theorem iter_dict : typeLookup (.type "dict") "__iter__" = pure (some (.builtin "dict.__iter__")) := by rw [typeLookup_type, builtinLookup_eq_fast]; kernel_rfl
section
variable {p : Program} {w : World} {n₀ : Nat} {ann : Option Value} {bd : List Stmt} {env : Env} {F : PySem.Frame} {hp : Obj → Heap} {d : Addr} {gens : Array GenState} {drawn : Drawn} {os : OsState}
theorem goes_typeOf {c : Code} {a : Addr} {o : Obj} {s : Shared} {q : Pos} (h : s.heap.get? a = some o) : Goes p w n₀ ann c F 1 (typeOf (.ref a)) s q o.cls s q :=
  goes_bind (b := 1) (b' := 0) (goes_loadPart h) goes_pure
theorem goes_entries {c : Code} {a : Addr} {o : Obj} {es : Array DictEntry} {n : Nat} {part : Option Value} {s : Shared} {q : Pos} (h : s.heap.get? a = some o) (hd : o.data = .dict es n) : Goes p w n₀ ann c F 1 (dictEntries a part) s q es s q := by
  refine goes_bind (b := 1) (b' := 0) (goes_loadPart h) ?_
  rw [hd]; exact goes_pure
theorem goes_epoch {c : Code} {a : Addr} {o : Obj} {es : Array DictEntry} {n : Nat} {part : Option Value} {s : Shared} {q : Pos} (h : s.heap.get? a = some o) (hd : o.data = .dict es n) : Goes p w n₀ ann c F 1 (dictEpoch a part) s q n s q := by
  refine goes_bind (b := 1) (b' := 0) (goes_loadPart h) ?_
  rw [hd]; exact goes_pure
theorem goes_dictPut (X : Hole hp d) (hd : n₀ ≤ d) {c : Code} {acc : List DictEntry} {k : Int} {t : Tok} {v : Value} {T : Nat} {q : Pos} (hf : Fresh acc k) (hz : acc.length ≤ 1000) :
    Goes p w n₀ ann c F 4 (dictPut d (hashInt k) (.int k t) v) ⟨hp (dObj acc), gens, drawn, T, os⟩ q () ⟨hp (dObj (acc ++ [⟨hashInt k, .int k t, v⟩])), gens, drawn, T, os⟩ q := by
  have ho : (hp (dObj acc)).get? d = some (dObj acc) := X.get _ rfl
  unfold dictPut
  refine goes_bind (b := 1) (b' := 3) (goes_dictFind_none (s := ⟨hp (dObj acc), gens, drawn, T, os⟩) ho rfl hf) ?_
  have := goes_updateKeys (p := p) (w := w) (n₀ := n₀) (ann := ann) (F := F) (c := c) (part := none) (s := ⟨hp (dObj acc), gens, drawn, T, os⟩) (q := q) (o := dObj acc) (e := ⟨hashInt k, .int k t, v⟩) ho hd (by simpa using hz)
  rw [show (hp (dObj acc)).update d (Obj.mapDictKeys (·.push ⟨hashInt k, .int k t, v⟩)) = hp (dObj (acc ++ [⟨hashInt k, .int k t, v⟩])) by rw [X.upd, dObj_push]] at this
  exact this
/-- entries that a written int bears -/
def IntEnts (l : List DictEntry) : Prop := ∀ e ∈ l, ∃ k t, e.key = .int k t ∧ e.hash = hashInt k
def Apart (acc l : List DictEntry) : Prop := ∀ a ∈ acc, ∀ b ∈ l, a.hash ≠ b.hash
theorem goes_mergeLoop (X : Hole hp d) (hd : n₀ ≤ d) {c : Code} {a : Addr} {l : List DictEntry} {T : Nat} {q : Pos} (ha : ∀ o, (hp o).get? a = some (dObj l)) (hi : IntEnts l) (hn : l.Pairwise fun x y => x.hash ≠ y.hash) {f : Nat → PUnit → Sem (ForInStep PUnit)}
    (hf : ∀ i (hi' : i < l.length) (acc : List DictEntry) (b : Nat) (s' : Shared), (Goes p w n₀ ann c F b (dictPut d l[i].hash l[i].key l[i].val) ⟨hp (dObj acc), gens, drawn, T, os⟩ q () ⟨hp (dObj (acc ++ [l[i]])), gens, drawn, T, os⟩ q) → Goes p w n₀ ann c F (b + 2) (f i PUnit.unit) ⟨hp (dObj acc), gens, drawn, T, os⟩ q (ForInStep.yield PUnit.unit) ⟨hp (dObj (acc ++ [l[i]])), gens, drawn, T, os⟩ q) :
    ∀ (m i : Nat) (acc : List DictEntry), i + m = l.length → Apart acc (l.drop i) → acc.length + m ≤ 1000 →
    Goes p w n₀ ann c F (6 * m) (forIn (List.range' i m) PUnit.unit f) ⟨hp (dObj acc), gens, drawn, T, os⟩ q PUnit.unit ⟨hp (dObj (acc ++ l.drop i)), gens, drawn, T, os⟩ q
  | 0, i, acc, e, _, _ => by
    rw [List.drop_eq_nil_of_le (by omega), List.append_nil]
    exact goes_pure
  | m + 1, i, acc, e, hA, hz => by
    have hil : i < l.length := by omega
    rw [List.range'_succ, List.forIn_cons]
    rw [List.drop_eq_getElem_cons hil] at hA ⊢
    obtain ⟨k, t, hk, hh⟩ := hi l[i] (List.getElem_mem hil)
    have hfr : Fresh acc k := fun x hx => by rw [← hh]; exact hA x hx _ (.head _)
    have g1 : Goes p w n₀ ann c F 4 (dictPut d l[i].hash l[i].key l[i].val) ⟨hp (dObj acc), gens, drawn, T, os⟩ q () ⟨hp (dObj (acc ++ [l[i]])), gens, drawn, T, os⟩ q := by
      have := goes_dictPut (p := p) (w := w) (n₀ := n₀) (ann := ann) (F := F) (gens := gens) (drawn := drawn) (os := os) X hd (c := c) (acc := acc) (k := k) (t := t) (v := l[i].val) (T := T) (q := q) hfr (by omega)
      have el : l[i] = ⟨hashInt k, .int k t, l[i].val⟩ := by
        generalize l[i] = e at hk hh
        obtain ⟨a, b, c⟩ := e
        simp at hk hh ⊢
        exact ⟨hh, hk⟩
      rw [hh, hk]
      rw [← el] at this
      exact this
    have hA2 : Apart (acc ++ [l[i]]) (l.drop (i + 1)) := by
      intro x hx y hy
      rcases List.mem_append.mp hx with hx | hx
      · exact hA x hx y (.tail _ hy)
      · obtain rfl := List.mem_singleton.mp hx
        have := List.pairwise_iff_getElem.mp hn
        obtain ⟨j, hj, rfl⟩ := List.mem_iff_getElem.mp hy
        rw [List.getElem_drop]
        exact this i (i + 1 + j) hil (by simp at hj; omega) (by omega)
    have g := goes_mergeLoop X hd (T := T) (q := q) ha hi hn hf m (i + 1) (acc ++ [l[i]]) (by omega) hA2 (by simp; omega)
    rw [show acc ++ l[i] :: List.drop (i + 1) l = acc ++ [l[i]] ++ l.drop (i + 1) by simp]
    refine goes_le (b := 6 + 6 * m) ?_ (by omega)
    exact goes_bind (b := 4 + 2) (hf i hil acc 4 ⟨hp (dObj (acc ++ [l[i]])), gens, drawn, T, os⟩ g1) g
theorem goes_merge (X : Hole hp d) (hd : n₀ ≤ d) {c : Code} {a : Addr} {acc l : List DictEntry} {T : Nat} {q : Pos} (ha : ∀ o, (hp o).get? a = some (dObj l)) (hne : (a == sysModules) = false) (hacc : acc ≠ []) (hi : IntEnts l) (hn : l.Pairwise fun x y => x.hash ≠ y.hash) (hA : Apart acc l)
    (hz : acc.length + l.length ≤ 1000) :
    Goes p w n₀ ann c F (6 * l.length + 10) (mergeMapping d (.ref a) false) ⟨hp (dObj acc), gens, drawn, T, os⟩ q () ⟨hp (dObj (acc ++ l)), gens, drawn, T, os⟩ q := by
  have ho : (hp (dObj acc)).get? d = some (dObj acc) := X.get _ rfl
  unfold mergeMapping
  refine goes_le (b := 1 + (1 + (1 + (1 + (1 + (6 * l.length + 0)))))) ?_ (by omega)
  refine goes_bind (b := 1) (a := true) (s₁ := ⟨hp (dObj acc), gens, drawn, T, os⟩) (q₁ := q) ?_ ?_
  · refine goes_bind (b := 1) (b' := 0) (goes_typeOf (ha _)) ?_
    show Goes _ _ _ _ _ _ _ (isSubtype (.type "dict") (.type "dict")) _ _ _ _ _
    rw [sub_dict_dict]; exact goes_pure
  rw [if_pos rfl]
  refine goes_bind (b := 1) (a := some (.builtin "dict.__iter__")) (s₁ := ⟨hp (dObj acc), gens, drawn, T, os⟩) (q₁ := q) ?_ ?_
  · refine goes_bind (b := 1) (b' := 0) (goes_typeOf (ha _)) ?_
    show Goes _ _ _ _ _ _ _ (typeLookup (.type "dict") "__iter__") _ _ _ _ _
    rw [iter_dict]; exact goes_pure
  rw [show ((some (Value.builtin "dict.__iter__") : Option Value) == some (.builtin "dict.__iter__")) = true by exact beq_self_eq_true _]
  show Goes _ _ _ _ _ _ _ (if (a == sysModules) = true then _ else _) _ _ _ _ _
  rw [hne, if_neg Bool.false_ne_true]
  refine goes_bind (b := 1) (goes_entries ho rfl) ?_
  rw [if_neg (by cases acc with | nil => exact absurd rfl hacc | cons x r => simp)]
  refine goes_bind (b := 1) (goes_entries (ha _) rfl) ?_
  refine goes_bind (b := 1) (goes_epoch (ha _) rfl) ?_
  refine goes_bind (b := 6 * l.length) (b' := 0) (a := PUnit.unit) (s₁ := ⟨hp (dObj (acc ++ l)), gens, drawn, T, os⟩) (q₁ := q) ?_ goes_pure
  rw [List.size_toArray, List.range_eq_range']
  refine goes_mergeLoop (p := p) (w := w) (n₀ := n₀) (ann := ann) (F := F) (gens := gens) (drawn := drawn) (os := os) X hd (c := c) (T := T) (q := q) ha hi hn ?_ l.length 0 acc (by omega) hA hz
  intro i hi' acc b s' g
  have hs : ∀ (o : Obj), Goes p w n₀ ann c F 1 (dictEntries a) ⟨hp o, gens, drawn, T, os⟩ q l.toArray ⟨hp o, gens, drawn, T, os⟩ q := fun o => goes_entries (ha _) rfl
  refine goes_le (b := 1 + (b + (1 + 0))) ?_ (by omega)
  refine goes_bind (b := 1) (hs _) ?_
  rw [show l.toArray[i]? = some l[i] by simp [hi']]
  refine goes_bind (b := b) (a := ()) (s₁ := ⟨hp (dObj (acc ++ [l[i]])), gens, drawn, T, os⟩) (q₁ := q) (goes_holding g) ?_
  refine goes_bind (b := 1) (b' := 0) (goes_epoch (ha _) rfl) ?_
  rw [if_neg (by simp)]
  exact goes_pure
end
abbrev Pr := Sem Value × Sem Value
abbrev LoopSt := Option Addr × List Pr
theorem forIn_few (f : (Option (Sem Value) × Sem Value) → LoopSt → Sem (ForInStep LoopSt)) (m : Option Addr) (rest : List (Option (Sem Value) × Sem Value))
    (hf : ∀ (x : Pr) (run : List Pr), run.length + 1 < 17 → f (some x.1, x.2) (m, run) = pure (.yield (m, run ++ [x]))) :
    ∀ (items run : List Pr), run.length + items.length < 17 → forIn (items.map (fun x => (some x.1, x.2)) ++ rest) (m, run) f = forIn rest (m, run ++ items) f
  | [], run, _ => by simp
  | x :: r, run, h => by
    rw [List.map_cons, List.cons_append, List.forIn_cons, hf x run (by simp at h; omega), pure_bind]
    have := forIn_few f m rest hf r (run ++ [x]) (by simp at h ⊢; omega)
    simpa using this
theorem forIn_chunk (f : (Option (Sem Value) × Sem Value) → LoopSt → Sem (ForInStep LoopSt)) (m : Option Addr) (fl : List Pr → Option Addr → Sem (Option Addr)) (rest : List (Option (Sem Value) × Sem Value))
    (hf : ∀ (x : Pr) (run : List Pr), run.length + 1 < 17 → f (some x.1, x.2) (m, run) = pure (.yield (m, run ++ [x])))
    (hf2 : ∀ (x : Pr) (run : List Pr), run.length + 1 = 17 → f (some x.1, x.2) (m, run) = (do let m' ← fl (run ++ [x]) m; pure (.yield (m', []))))
    (items : List Pr) (h : items.length = 17) : forIn (items.map (fun x => (some x.1, x.2)) ++ rest) (m, []) f = (do let m' ← fl items m; forIn rest (m', []) f) := by
  obtain ⟨init, x, rfl⟩ : ∃ init x, items = init ++ [x] := ⟨items.dropLast, items.getLast (by rintro rfl; simp at h), (List.dropLast_concat_getLast _).symm⟩
  have hl : init.length = 16 := by simp at h; omega
  rw [List.map_append, List.append_assoc, forIn_few f m _ hf init [] (by simp; omega), List.nil_append]
  rw [List.map_cons, List.map_nil, List.cons_append, List.nil_append, List.forIn_cons, hf2 x init (by omega), bind_assoc]
  simp only [pure_bind]
def flushD (run : List Pr) (main : Option Addr) : Sem (Option Addr) := do
    if run.isEmpty then return main
    match main with
    | none => return some (← subDict run)
    | some d =>
      let sub ← holding [.ref d] (subDict run)
      (holding [.ref d, .ref sub] (mergeMapping d (.ref sub) false)).onRaise fun x => do let _ ← holding [.ref d, x] (runValue (.builtin "proto.let_go" {}))
      return some d
theorem entsFrom_hash : ∀ (T : Nat) (c : List En), (entsFrom T c).map (·.hash) = c.map fun e => hashInt e.1
  | _, [] => rfl
  | T, e :: r => by simp [entsFrom, entsFrom_hash (T + 3) r]
theorem entsFlat_hash : ∀ (T : Nat) (c : List En), (entsFlat T c).map (·.hash) = c.map fun e => hashInt e.1
  | _, [] => rfl
  | T, e :: r => by simp [entsFlat, entsFlat_hash (T + 2) r]
theorem entsFrom_len (T : Nat) (c : List En) : (entsFrom T c).length = c.length := by
  have := congrArg List.length (entsFrom_hash T c); simpa using this
theorem entsFlat_len (T : Nat) (c : List En) : (entsFlat T c).length = c.length := by
  have := congrArg List.length (entsFlat_hash T c); simpa using this
theorem entsFrom_int : ∀ (T : Nat) (c : List En), IntEnts (entsFrom T c)
  | _, [] => fun _ h => nomatch h
  | T, e :: r => fun x hx => by
    rcases List.mem_cons.mp hx with rfl | hx
    · exact ⟨_, _, rfl, rfl⟩
    · exact entsFrom_int _ r x hx
theorem entsFlat_int : ∀ (T : Nat) (c : List En), IntEnts (entsFlat T c)
  | _, [] => fun _ h => nomatch h
  | T, e :: r => fun x hx => by
    rcases List.mem_cons.mp hx with rfl | hx
    · exact ⟨_, _, rfl, rfl⟩
    · exact entsFlat_int _ r x hx
theorem entsFrom_append : ∀ (T : Nat) (a b : List En), entsFrom T (a ++ b) = entsFrom T a ++ entsFrom (T + 3 * a.length) b
  | T, [], b => by simp [entsFrom]
  | T, e :: r, b => by
    simp only [List.cons_append, entsFrom, entsFrom_append (T + 3) r b, List.length_cons]
    rw [show T + 3 + 3 * r.length = T + 3 * (r.length + 1) by omega]
/-- hashes apart, of what stands and of what comes -/
def Dist (acc : List DictEntry) (es : List En) : Prop := (acc.map (·.hash) ++ es.map fun e => hashInt e.1).Pairwise (· ≠ ·)
theorem Dist.parts {acc : List DictEntry} {es : List En} (h : Dist acc es) : (acc.map (·.hash)).Pairwise (· ≠ ·) ∧ es.Pairwise (fun a b => hashInt a.1 ≠ hashInt b.1) ∧ ∀ a ∈ acc, ∀ e ∈ es, a.hash ≠ hashInt e.1 := by
  obtain ⟨a, b, c⟩ := List.pairwise_append.mp h
  exact ⟨a, List.pairwise_map.mp b, fun x hx e he => c _ (List.mem_map_of_mem hx) _ (List.mem_map_of_mem he)⟩
theorem pairwise_of_hash {l : List DictEntry} {c : List En} (e : l.map (·.hash) = c.map fun e => hashInt e.1) (h : c.Pairwise fun a b => hashInt a.1 ≠ hashInt b.1) : l.Pairwise fun x y => x.hash ≠ y.hash := by
  have : (l.map (·.hash)).Pairwise (· ≠ ·) := by rw [e]; exact List.pairwise_map.mpr h
  exact List.pairwise_map.mp this
theorem apart_of_hash {acc l : List DictEntry} {c : List En} (e : l.map (·.hash) = c.map fun e => hashInt e.1) (h : ∀ a ∈ acc, ∀ e ∈ c, a.hash ≠ hashInt e.1) : Apart acc l := by
  intro a ha b hb
  have : b.hash ∈ l.map (·.hash) := List.mem_map_of_mem hb
  rw [e] at this
  obtain ⟨x, hx, he⟩ := List.mem_map.mp this
  rw [← he]; exact h a ha x hx
section
variable {p : Program} {w : World} {n₀ : Nat} {ann : Option Value} {bd : List Stmt} {env : Env} {F : PySem.Frame} {gens : Array GenState} {drawn : Drawn} {os : OsState}
theorem goes_flushLong {hb : Heap} {acc : List DictEntry} {subs : List Obj} {pos : Pos} {es : List En} {T : Nat} {q : Pos} (hd : n₀ ≤ hb.objs.size) (h2 : 2 ≤ hb.objs.size) (hl : es.length = 17) (hacc : acc ≠ []) (D : Dist acc es) (hz : acc.length + es.length ≤ 1000) :
    Goes p w n₀ ann (.body bd env) F 1000 (flushD (es.map (onePair pos)) (some hb.objs.size)) ⟨HH hb (dObj acc) subs, gens, drawn, T, os⟩ q (some hb.objs.size)
      ⟨HH hb (dObj (acc ++ entsFrom T es)) (subs ++ [dObj (entsFrom T es)]), gens, drawn, T + 3 * es.length, os⟩ pos := by
  obtain ⟨D1, D2, D3⟩ := D.parts
  unfold flushD
  rw [if_neg (by cases es with | nil => simp at hl | cons => simp)]
  refine goes_le (b := (2 + 13 * es.length) + ((6 * es.length + 10) + 0)) ?_ (by omega)
  have s1 : (HH hb (dObj acc) subs).objs.size = hb.objs.size + 1 + subs.length := hh_size hb (dObj acc) subs
  refine goes_bind (a := hb.objs.size + 1 + subs.length) (s₁ := ⟨HH hb (dObj acc) (subs ++ [dObj (entsFrom T es)]), gens, drawn, T + 3 * es.length, os⟩) (q₁ := pos) (goes_holding ?_) ?_
  · have := goes_subLong (p := p) (w := w) (n₀ := n₀) (ann := ann) (bd := bd) (env := env) (F := F) (gens := gens) (drawn := drawn) (os := os) (hp := fun o => HH hb (dObj acc) (subs ++ [o])) (h := HH hb (dObj acc) subs) (h' := hb) (pos := pos) (es := es) (T := T) (q := q)
      (by rw [s1]; exact hole_sub hb (dObj acc) subs) (hh_push hb _ _ _) (by rw [s1]; omega) (by omega) (by omega) D2
    rw [s1] at this
    exact this
  · refine goes_bind (a := ()) (s₁ := ⟨HH hb (dObj (acc ++ entsFrom T es)) (subs ++ [dObj (entsFrom T es)]), gens, drawn, T + 3 * es.length, os⟩) (q₁ := pos) (goes_onRaise (goes_holding ?_)) goes_pure
    have := goes_merge (p := p) (w := w) (n₀ := n₀) (ann := ann) (F := F) (gens := gens) (drawn := drawn) (os := os) (hp := fun o => HH hb o (subs ++ [dObj (entsFrom T es)])) (d := hb.objs.size) (hole_main hb _) hd (c := .body bd env) (a := hb.objs.size + 1 + subs.length) (acc := acc) (l := entsFrom T es) (T := T + 3 * es.length) (q := pos)
      (fun o => (hole_sub hb o subs).get _ rfl) (by rw [beq_eq_false_iff_ne]; show ¬ (@Eq Nat (hb.objs.size + 1 + subs.length) 1); omega) hacc (entsFrom_int _ _) (pairwise_of_hash (entsFrom_hash T es) D2) (apart_of_hash (entsFrom_hash T es) D3) (by rw [entsFrom_len]; omega)
    rw [entsFrom_len] at this
    exact this
theorem goes_flushFlat {hb : Heap} {acc : List DictEntry} {subs : List Obj} {pos : Pos} {es : List En} {T : Nat} {q : Pos} (hd : n₀ ≤ hb.objs.size) (h2 : 2 ≤ hb.objs.size) (hl : es.length ≤ 15) (hne : es ≠ []) (hacc : acc ≠ []) (D : Dist acc es) (hz : acc.length + es.length ≤ 1000) :
    Goes p w n₀ ann (.body bd env) F 1000 (flushD (es.map (onePair pos)) (some hb.objs.size)) ⟨HH hb (dObj acc) subs, gens, drawn, T, os⟩ q (some hb.objs.size)
      ⟨HH hb (dObj (acc ++ entsFlat T es)) (subs ++ [dObj (entsFlat T es)]), gens, drawn, T + 3 * es.length, os⟩ pos := by
  obtain ⟨D1, D2, D3⟩ := D.parts
  unfold flushD
  rw [if_neg (by cases es with | nil => exact absurd rfl hne | cons => simp)]
  refine goes_le (b := (1 + 13 * es.length) + ((6 * es.length + 10) + 0)) ?_ (by omega)
  have s1 : (HH hb (dObj acc) subs).objs.size = hb.objs.size + 1 + subs.length := hh_size hb (dObj acc) subs
  refine goes_bind (a := hb.objs.size + 1 + subs.length) (s₁ := ⟨HH hb (dObj acc) (subs ++ [dObj (entsFlat T es)]), gens, drawn, T + 3 * es.length, os⟩) (q₁ := pos) (goes_holding ?_) ?_
  · have := goes_subFlat (p := p) (w := w) (n₀ := n₀) (ann := ann) (bd := bd) (env := env) (F := F) (gens := gens) (drawn := drawn) (os := os) (hp := fun o => HH hb (dObj acc) (subs ++ [o])) (h := HH hb (dObj acc) subs) (pos := pos) (es := es) (T := T) (q := q)
      (by rw [s1]; exact hole_sub hb (dObj acc) subs) (hh_push hb _ _ _) (by rw [s1]; omega) (by omega) hne D2
    rw [s1] at this
    exact this
  · refine goes_bind (a := ()) (s₁ := ⟨HH hb (dObj (acc ++ entsFlat T es)) (subs ++ [dObj (entsFlat T es)]), gens, drawn, T + 3 * es.length, os⟩) (q₁ := pos) (goes_onRaise (goes_holding ?_)) goes_pure
    have := goes_merge (p := p) (w := w) (n₀ := n₀) (ann := ann) (F := F) (gens := gens) (drawn := drawn) (os := os) (hp := fun o => HH hb o (subs ++ [dObj (entsFlat T es)])) (d := hb.objs.size) (hole_main hb _) hd (c := .body bd env) (a := hb.objs.size + 1 + subs.length) (acc := acc) (l := entsFlat T es) (T := T + 3 * es.length) (q := pos)
      (fun o => (hole_sub hb o subs).get _ rfl) (by rw [beq_eq_false_iff_ne]; show ¬ (@Eq Nat (hb.objs.size + 1 + subs.length) 1); omega) hacc (entsFlat_int _ _) (pairwise_of_hash (entsFlat_hash T es) D2) (apart_of_hash (entsFlat_hash T es) D3) (by rw [entsFlat_len]; omega)
    rw [entsFlat_len] at this
    exact this
theorem goes_flushFirst {hb : Heap} {pos : Pos} {es : List En} {T : Nat} {q : Pos} (hd : n₀ ≤ hb.objs.size) (hl : es.length = 17) (D : Dist [] es) :
    Goes p w n₀ ann (.body bd env) F 1000 (flushD (es.map (onePair pos)) none) ⟨hb, gens, drawn, T, os⟩ q (some hb.objs.size)
      ⟨HH hb (dObj (entsFrom T es)) [], gens, drawn, T + 3 * es.length, os⟩ pos := by
  obtain ⟨D1, D2, D3⟩ := D.parts
  unfold flushD
  rw [if_neg (by cases es with | nil => simp at hl | cons => simp)]
  refine goes_le (b := (2 + 13 * es.length) + 0) ?_ (by omega)
  exact goes_bind (goes_subLong (p := p) (w := w) (n₀ := n₀) (ann := ann) (bd := bd) (env := env) (F := F) (gens := gens) (drawn := drawn) (os := os) (hp := fun o => HH hb o []) (h := hb) (h' := hb) (pos := pos) (es := es) (T := T) (q := q)
      (hole_main hb []) (hh_push0 hb _) hd (by omega) (by omega) D2) goes_pure
def subsOf : Nat → List (List En) → List Obj
  | _, [] => []
  | T, c :: r => dObj (entsFrom T c) :: subsOf (T + 3 * c.length) r
theorem Dist.step {acc : List DictEntry} {l : List DictEntry} {c r : List En} (e : l.map (·.hash) = c.map fun e => hashInt e.1) (D : Dist acc (c ++ r)) : Dist acc c ∧ Dist (acc ++ l) r := by
  unfold Dist at *
  constructor
  · rw [List.map_append, ← List.append_assoc] at D
    exact (List.pairwise_append.mp D).1
  · rw [List.map_append, e, List.append_assoc, ← List.map_append]; exact D
theorem goes_chunks {hb : Heap} {pos : Pos} (hd : n₀ ≤ hb.objs.size) (h2 : 2 ≤ hb.objs.size) {last : List En} (hlast : last.length < 17) {f : (Option (Sem Value) × Sem Value) → LoopSt → Sem (ForInStep LoopSt)}
    (hf : ∀ (m : Option Addr) (x : Pr) (run : List Pr), run.length + 1 < 17 → f (some x.1, x.2) (m, run) = pure (.yield (m, run ++ [x])))
    (hf2 : ∀ (m : Option Addr) (x : Pr) (run : List Pr), run.length + 1 = 17 → f (some x.1, x.2) (m, run) = (do let m' ← flushD (run ++ [x]) m; pure (.yield (m', [])))) :
    ∀ (cs : List (List En)) (acc : List DictEntry) (subs : List Obj) (T : Nat), (∀ c ∈ cs, c.length = 17) → acc ≠ [] → Dist acc (cs.flatten ++ last) → acc.length + (cs.flatten ++ last).length ≤ 1000 →
      Goes p w n₀ ann (.body bd env) F (1000 * cs.length) (forIn (((cs.flatten ++ last).map (onePair pos)).map fun x => (some x.1, x.2)) ((some hb.objs.size, []) : LoopSt) f) ⟨HH hb (dObj acc) subs, gens, drawn, T, os⟩ pos (some hb.objs.size, last.map (onePair pos))
        ⟨HH hb (dObj (acc ++ entsFrom T cs.flatten)) (subs ++ subsOf T cs), gens, drawn, T + 3 * cs.flatten.length, os⟩ pos
  | [], acc, subs, T, _, _, _, _ => by
    have := forIn_few f (some hb.objs.size) [] (hf _) (last.map (onePair pos)) [] (by simpa using hlast)
    rw [List.append_nil, List.nil_append] at this
    simp only [List.flatten_nil, List.nil_append, entsFrom, subsOf, List.append_nil, List.length_nil, Nat.mul_zero, Nat.add_zero]
    rw [this]
    exact goes_pure
  | c :: r, acc, subs, T, hc, hacc, D, hz => by
    have hc1 : c.length = 17 := hc c (.head _)
    rw [List.flatten_cons, List.append_assoc] at D hz ⊢
    obtain ⟨Da, Db⟩ := D.step (entsFrom_hash T c)
    rw [List.map_append, List.map_append, forIn_chunk f (some hb.objs.size) flushD _ (hf _) (hf2 _) (c.map (onePair pos)) (by simpa using hc1)]
    refine goes_le (b := 1000 + 1000 * r.length) ?_ (by simp; omega)
    refine goes_bind (goes_flushLong hd h2 hc1 hacc Da (by simp only [List.length_append] at hz; omega)) ?_
    have := goes_chunks (pos := pos) hd h2 hlast hf hf2 r (acc ++ entsFrom T c) (subs ++ [dObj (entsFrom T c)]) (T + 3 * c.length) (fun x hx => hc x (.tail _ hx)) (by simp [hacc]) Db (by simp only [List.length_append, entsFrom_len] at hz ⊢; omega)
    rw [entsFrom_append, ← List.append_assoc, show subs ++ subsOf T (c :: r) = subs ++ [dObj (entsFrom T c)] ++ subsOf (T + 3 * c.length) r by simp [subsOf], show T + 3 * (c ++ r.flatten).length = T + 3 * c.length + 3 * r.flatten.length by simp only [List.length_append]; omega]
    exact this
theorem goes_display {hb : Heap} {pos : Pos} (hd : n₀ ≤ hb.objs.size) (h2 : 2 ≤ hb.objs.size) {first last : List En} {cs : List (List En)} {T : Nat} {q : Pos} (hfirst : first.length = 17) (hcs : ∀ c ∈ cs, c.length = 17) (hlast : last.length ≤ 15) (hne : last ≠ [])
    (D : Dist [] (first ++ (cs.flatten ++ last))) (hz : (first ++ (cs.flatten ++ last)).length ≤ 1000) :
    Goes p w n₀ ann (.body bd env) F (1000 * (cs.length + 2)) (dictDisplay (((first ++ (cs.flatten ++ last)).map (onePair pos)).map fun x => (some x.1, x.2))) ⟨hb, gens, drawn, T, os⟩ q (.ref hb.objs.size)
      ⟨HH hb (dObj (entsFrom T (first ++ cs.flatten) ++ entsFlat (T + 3 * (first ++ cs.flatten).length) last)) (subsOf (T + 3 * 17) cs ++ [dObj (entsFlat (T + 3 * (first ++ cs.flatten).length) last)]), gens, drawn, T + 3 * (first ++ (cs.flatten ++ last)).length, os⟩ pos := by
  obtain ⟨Da, Db⟩ := Dist.step (entsFrom_hash T first) D
  rw [List.nil_append] at Db
  unfold dictDisplay
  dsimp only
  refine goes_le (b := (1000 + 1000 * cs.length) + (1000 + 0)) ?_ (by omega)
  have hzz : 17 + (cs.flatten.length + last.length) ≤ 1000 := by simp only [List.length_append, hfirst] at hz; omega
  refine goes_bind (a := ((some hb.objs.size, last.map (onePair pos)) : LoopSt)) (s₁ := ⟨HH hb (dObj (entsFrom T (first ++ cs.flatten))) (subsOf (T + 3 * 17) cs), gens, drawn, T + 3 * (first ++ cs.flatten).length, os⟩) (q₁ := pos) ?_ ?_
  · rw [List.map_append, List.map_append]
    rw [forIn_chunk _ none flushD _ ?h1 ?h2 (first.map (onePair pos)) (by simpa using hfirst)]
    case h1 =>
      intro x run h
      have hne : ((run ++ [(x.1, x.2)]).length == 17) = false := by simp; omega
      simp only [hne, Bool.false_eq_true, if_false]
    case h2 =>
      intro x run h
      have hne : ((run ++ [(x.1, x.2)]).length == 17) = true := by simp; omega
      simp only [hne, if_true]
      rfl
    refine goes_bind (goes_flushFirst hd hfirst Da) ?_
    have := goes_chunks (p := p) (w := w) (n₀ := n₀) (ann := ann) (bd := bd) (env := env) (F := F) (gens := gens) (drawn := drawn) (os := os) (hb := hb) (pos := pos) hd h2 (last := last) (by omega) (f := ?f) ?h1 ?h2 cs (entsFrom T first) [] (T + 3 * first.length) hcs (by rintro e; have := congrArg List.length e; rw [entsFrom_len] at this; simp [hfirst] at this) Db (by rw [entsFrom_len]; simp only [List.length_append]; omega)
    rw [entsFrom_append, show T + 3 * (first ++ cs.flatten).length = T + 3 * first.length + 3 * cs.flatten.length by simp only [List.length_append]; omega]
    rw [List.nil_append, hfirst] at this
    rw [hfirst]
    exact this
    · intro m x run h
      have hne : ((run ++ [(x.1, x.2)]).length == 17) = false := by simp; omega
      simp only [hne, Bool.false_eq_true, if_false]
    · intro m x run h
      have hne : ((run ++ [(x.1, x.2)]).length == 17) = true := by simp; omega
      simp only [hne, if_true]
      rfl
  · have Dl : Dist (entsFrom T (first ++ cs.flatten)) last := by
      rw [← List.append_assoc] at D
      exact (Dist.step (entsFrom_hash T (first ++ cs.flatten)) D).2
    have := goes_flushFlat (p := p) (w := w) (n₀ := n₀) (ann := ann) (bd := bd) (env := env) (F := F) (gens := gens) (drawn := drawn) (os := os) (hb := hb) (pos := pos) (es := last) (acc := entsFrom T (first ++ cs.flatten)) (subs := subsOf (T + 3 * 17) cs) (T := T + 3 * (first ++ cs.flatten).length) (q := pos) hd h2 hlast hne
      (by rintro e; have := congrArg List.length e; rw [entsFrom_len] at this; simp [hfirst] at this) Dl (by rw [entsFrom_len]; simp only [List.length_append, hfirst]; omega)
    rw [show T + 3 * (first ++ cs.flatten).length + 3 * last.length = T + 3 * (first ++ (cs.flatten ++ last)).length by simp only [List.length_append]; omega] at this
    exact goes_bind this goes_pure
end
noncomputable section
noncomputable abbrev P0 : Program := PySem.Challenge.pw_ul0024_01
noncomputable def defAt (i : Nat) : Option (Arguments × List Stmt × Scope) := match P0.main.body[i]? with
  | some (.FunctionDef _ a b _ _ _ sc _ _ _) => some (a, b, sc)
  | _ => none
noncomputable def parOf (i : Nat) : Arguments := ((defAt i).map (·.1)).getD default
noncomputable def bodyOf (i : Nat) : List Stmt := ((defAt i).map (·.2.1)).getD []
noncomputable def scOf (i : Nat) : Scope := ((defAt i).map (·.2.2)).getD default
noncomputable def stAt (k : Nat) : Stmt := P0.main.body.getD k (.Pass default)
noncomputable def b3D : List (Option Expr) × List Expr × Pos := match stAt 14 with
  | .Assign _ (.Dict ks vs q) _ => (ks, vs, q)
  | _ => ([], [], default)
noncomputable def b3E : List En := (b3D.1.zip b3D.2.1).filterMap fun x => match x with
  | (some (.Constant (.int k) _ _), .Constant (.str s) _ _) => some (k, s)
  | _ => none
noncomputable def chunks : Nat → List En → List (List En)
  | 0, _ => []
  | n + 1, l => l.take 17 :: chunks n (l.drop 17)
noncomputable def b3F : List En := b3E.take 17
noncomputable def b3C : List (List En) := chunks 37 (b3E.drop 17)
noncomputable def b3L : List En := b3E.drop 646
noncomputable def b3Ents : List DictEntry := entsFrom 358 (b3F ++ b3C.flatten) ++ entsFlat (358 + 3 * (b3F ++ b3C.flatten).length) b3L
noncomputable def o89 : Obj := dObj b3Ents
noncomputable def subsL : List Obj := subsOf (358 + 3 * 17) b3C ++ [dObj (entsFlat (358 + 3 * (b3F ++ b3C.flatten).length) b3L)]
noncomputable def sb (i : Nat) : Obj := subsL.getD i default
noncomputable abbrev o0 (P : Params) : Obj := boot_o_0 P
noncomputable abbrev o1 (P : Params) : Obj := boot_o_1 P
noncomputable abbrev o2 (P : Params) : Obj := boot_o_2 P
noncomputable abbrev o4 (P : Params) : Obj := boot_o_4 P
noncomputable abbrev o5 (P : Params) : Obj := boot_o_5 P
noncomputable abbrev o6 (P : Params) : Obj := boot_o_6 P
noncomputable abbrev o7 (P : Params) : Obj := boot_o_7 P
noncomputable abbrev o8 (P : Params) : Obj := boot_o_8 P
noncomputable abbrev o9 (P : Params) : Obj := boot_o_9 P
noncomputable abbrev o10 (P : Params) : Obj := boot_o_10 P
noncomputable def o11 (P : Params) : Obj := ⟨(.type "tuple"), none, (.seq #[] 0), #[]⟩
noncomputable def o13 (P : Params) : Obj := ⟨(.type "code"), none, (.fields #[(.str (Str.ofString "<module>") 182), (.str (Str.ofString "<module>") 183), (.str (Str.ofString "/claim/cut.py") 184), (.int 1 0), (.int 0 0), (.int 0 0), (.int 0 0), (.int 0 0), (.ref 11), (.bool false), (.int 181 0), (.ref 12), .none, .none, .none, .none, (.int 185 0), (.int 1 0), (.str (Str.ofString "/claim/cut.py") 186)]), #[]⟩
noncomputable def o14 (P : Params) : Obj := ⟨(.type "frame"), none, .plain, #[(some (.ref 13)), (some (.ref 3)), (some (.ref 3)), none, (some (.str (Str.ofString "__main__") 164)), none, (some (.ref 0))]⟩
noncomputable def o15 (P : Params) : Obj := ⟨(.type "tuple"), none, (.seq #[] 0), #[]⟩
noncomputable def o16 (P : Params) : Obj := ⟨.none, none, (.fields #[]), #[]⟩
noncomputable def o17 (P : Params) : Obj := ⟨(.type "tuple"), none, (.seq #[(.str (Str.ofString "a") 192), (.str (Str.ofString "b") 193)] 0), #[]⟩
noncomputable def o18 (P : Params) : Obj := ⟨(.type "tuple"), none, (.seq #[] 0), #[]⟩
noncomputable def o19 (P : Params) : Obj := ⟨.none, none, (.func { name := (Str.ofString "_strcoll"), qualname := (Str.ofString "_strcoll"), params := parOf 1, body := .stmts (bodyOf 1), scope := scOf 1, globals := 0, closure := [], defaults := .none, kwdefaults := .none, doc := .none, pyModule := .none, annotations := none, code := .none, closureTuple := .none, builtins := 0 }), #[]⟩
noncomputable def o20 (P : Params) : Obj := ⟨(.type "code"), none, (.fields #[(.str (Str.ofString "_strcoll") 189), (.str (Str.ofString "_strcoll") 190), (.str (Str.ofString "/claim/cut.py") 191), (.int 2 0), (.int 2 0), (.int 0 0), (.int 0 0), (.int 3 0), (.ref 15), (.bool true), (.int 181 0), (.ref 16), .none, (.ref 17), (.ref 18), (.ref 19), (.int 194 0), (.int 2 0), (.str (Str.ofString "/claim/cut.py") 195)]), #[]⟩
noncomputable def o21 (P : Params) : Obj := ⟨(.type "function"), none, (.func { name := (Str.ofString "_strcoll"), qualname := (Str.ofString "_strcoll"), params := parOf 1, body := .stmts (bodyOf 1), scope := scOf 1, globals := 3, closure := [], defaults := .none, kwdefaults := .none, doc := .none, pyModule := (.str (Str.ofString "cpy313.locale") 187), annotations := none, code := (.ref 20), closureTuple := .none, builtins := 0 }), #[]⟩
noncomputable def o22 (P : Params) : Obj := ⟨(.type "tuple"), none, (.seq #[] 0), #[]⟩
noncomputable def o23 (P : Params) : Obj := ⟨.none, none, (.fields #[]), #[]⟩
noncomputable def o24 (P : Params) : Obj := ⟨(.type "tuple"), none, (.seq #[(.str (Str.ofString "s") 200), (.str (Str.ofString "amount") 201), (.str (Str.ofString "lpos") 202), (.str (Str.ofString "rpos") 203)] 0), #[]⟩
noncomputable def o25 (P : Params) : Obj := ⟨(.type "tuple"), none, (.seq #[] 0), #[]⟩
noncomputable def o26 (P : Params) : Obj := ⟨.none, none, (.func { name := (Str.ofString "_strip_padding"), qualname := (Str.ofString "_strip_padding"), params := parOf 2, body := .stmts (bodyOf 2), scope := scOf 2, globals := 0, closure := [], defaults := .none, kwdefaults := .none, doc := .none, pyModule := .none, annotations := none, code := .none, closureTuple := .none, builtins := 0 }), #[]⟩
noncomputable def o27 (P : Params) : Obj := ⟨(.type "code"), none, (.fields #[(.str (Str.ofString "_strip_padding") 197), (.str (Str.ofString "_strip_padding") 198), (.str (Str.ofString "/claim/cut.py") 199), (.int 4 0), (.int 2 0), (.int 0 0), (.int 0 0), (.int 3 0), (.ref 22), (.bool true), (.int 181 0), (.ref 23), .none, (.ref 24), (.ref 25), (.ref 26), (.int 204 0), (.int 4 0), (.str (Str.ofString "/claim/cut.py") 205)]), #[]⟩
noncomputable def o28 (P : Params) : Obj := ⟨(.type "function"), none, (.func { name := (Str.ofString "_strip_padding"), qualname := (Str.ofString "_strip_padding"), params := parOf 2, body := .stmts (bodyOf 2), scope := scOf 2, globals := 3, closure := [], defaults := .none, kwdefaults := .none, doc := .none, pyModule := (.str (Str.ofString "cpy313.locale") 187), annotations := none, code := (.ref 27), closureTuple := .none, builtins := 0 }), #[]⟩
noncomputable def o29 (P : Params) : Obj := ⟨(.type "tuple"), none, (.seq #[] 0), #[]⟩
noncomputable def o30 (P : Params) : Obj := ⟨.none, none, (.fields #[]), #[]⟩
noncomputable def o31 (P : Params) : Obj := ⟨(.type "tuple"), none, (.seq #[(.str (Str.ofString "a") 214), (.str (Str.ofString "b") 215), (.str (Str.ofString "n") 216), (.str (Str.ofString "pad") 217), (.str (Str.ofString "half_n") 218), (.str (Str.ofString "mask") 219), (.str (Str.ofString "b1") 220), (.str (Str.ofString "b2") 221), (.str (Str.ofString "q1") 222), (.str (Str.ofString "r") 223), (.str (Str.ofString "q2") 224)] 0), #[]⟩
noncomputable def o32 (P : Params) : Obj := ⟨(.type "tuple"), none, (.seq #[] 0), #[]⟩
noncomputable def o33 (P : Params) : Obj := ⟨.none, none, (.func { name := (Str.ofString "_div2n1n"), qualname := (Str.ofString "_div2n1n"), params := parOf 5, body := .stmts (bodyOf 5), scope := scOf 5, globals := 0, closure := [], defaults := .none, kwdefaults := .none, doc := .none, pyModule := .none, annotations := none, code := .none, closureTuple := .none, builtins := 0 }), #[]⟩
noncomputable def o34 (P : Params) : Obj := ⟨(.type "code"), none, (.fields #[(.str (Str.ofString "_div2n1n") 211), (.str (Str.ofString "_div2n1n") 212), (.str (Str.ofString "/claim/cut.py") 213), (.int 16 0), (.int 3 0), (.int 0 0), (.int 0 0), (.int 3 0), (.ref 29), (.bool true), (.int 181 0), (.ref 30), .none, (.ref 31), (.ref 32), (.ref 33), (.int 225 0), (.int 16 0), (.str (Str.ofString "/claim/cut.py") 226)]), #[]⟩
noncomputable def o35 (P : Params) : Obj := ⟨(.type "function"), none, (.func { name := (Str.ofString "_div2n1n"), qualname := (Str.ofString "_div2n1n"), params := parOf 5, body := .stmts (bodyOf 5), scope := scOf 5, globals := 3, closure := [], defaults := .none, kwdefaults := .none, doc := .none, pyModule := (.str (Str.ofString "cpy313._pylong") 207), annotations := none, code := (.ref 34), closureTuple := .none, builtins := 0 }), #[]⟩
noncomputable def o36 (P : Params) : Obj := ⟨(.type "tuple"), none, (.seq #[] 0), #[]⟩
noncomputable def o37 (P : Params) : Obj := ⟨.none, none, (.fields #[]), #[]⟩
noncomputable def o38 (P : Params) : Obj := ⟨(.type "tuple"), none, (.seq #[(.str (Str.ofString "a12") 231), (.str (Str.ofString "a3") 232), (.str (Str.ofString "b") 233), (.str (Str.ofString "b1") 234), (.str (Str.ofString "b2") 235), (.str (Str.ofString "n") 236), (.str (Str.ofString "q") 237), (.str (Str.ofString "r") 238)] 0), #[]⟩
noncomputable def o39 (P : Params) : Obj := ⟨(.type "tuple"), none, (.seq #[] 0), #[]⟩
noncomputable def o40 (P : Params) : Obj := ⟨.none, none, (.func { name := (Str.ofString "_div3n2n"), qualname := (Str.ofString "_div3n2n"), params := parOf 6, body := .stmts (bodyOf 6), scope := scOf 6, globals := 0, closure := [], defaults := .none, kwdefaults := .none, doc := .none, pyModule := .none, annotations := none, code := .none, closureTuple := .none, builtins := 0 }), #[]⟩
noncomputable def o41 (P : Params) : Obj := ⟨(.type "code"), none, (.fields #[(.str (Str.ofString "_div3n2n") 228), (.str (Str.ofString "_div3n2n") 229), (.str (Str.ofString "/claim/cut.py") 230), (.int 32 0), (.int 6 0), (.int 0 0), (.int 0 0), (.int 3 0), (.ref 36), (.bool true), (.int 181 0), (.ref 37), .none, (.ref 38), (.ref 39), (.ref 40), (.int 239 0), (.int 32 0), (.str (Str.ofString "/claim/cut.py") 240)]), #[]⟩
noncomputable def o42 (P : Params) : Obj := ⟨(.type "function"), none, (.func { name := (Str.ofString "_div3n2n"), qualname := (Str.ofString "_div3n2n"), params := parOf 6, body := .stmts (bodyOf 6), scope := scOf 6, globals := 3, closure := [], defaults := .none, kwdefaults := .none, doc := .none, pyModule := (.str (Str.ofString "cpy313._pylong") 207), annotations := none, code := (.ref 41), closureTuple := .none, builtins := 0 }), #[]⟩
noncomputable def o43 (P : Params) : Obj := ⟨(.type "tuple"), none, (.seq #[] 0), #[]⟩
noncomputable def o44 (P : Params) : Obj := ⟨.none, none, (.fields #[]), #[]⟩
noncomputable def o45 (P : Params) : Obj := ⟨(.type "tuple"), none, (.seq #[(.str (Str.ofString "a") 245), (.str (Str.ofString "n") 246)] 0), #[]⟩
noncomputable def o46 (P : Params) : Obj := ⟨(.type "tuple"), none, (.seq #[(.str (Str.ofString "n") 247), (.str (Str.ofString "a_digits") 248), (.str (Str.ofString "inner") 249)] 0), #[]⟩
noncomputable def o47 (P : Params) : Obj := ⟨.none, none, (.func { name := (Str.ofString "_int2digits"), qualname := (Str.ofString "_int2digits"), params := parOf 7, body := .stmts (bodyOf 7), scope := scOf 7, globals := 0, closure := [], defaults := .none, kwdefaults := .none, doc := .none, pyModule := .none, annotations := none, code := .none, closureTuple := .none, builtins := 0 }), #[]⟩
noncomputable def o48 (P : Params) : Obj := ⟨(.type "code"), none, (.fields #[(.str (Str.ofString "_int2digits") 242), (.str (Str.ofString "_int2digits") 243), (.str (Str.ofString "/claim/cut.py") 244), (.int 42 0), (.int 2 0), (.int 0 0), (.int 0 0), (.int 3 0), (.ref 43), (.bool true), (.int 181 0), (.ref 44), .none, (.ref 45), (.ref 46), (.ref 47), (.int 250 0), (.int 42 0), (.str (Str.ofString "/claim/cut.py") 251)]), #[]⟩
noncomputable def o49 (P : Params) : Obj := ⟨(.type "function"), none, (.func { name := (Str.ofString "_int2digits"), qualname := (Str.ofString "_int2digits"), params := parOf 7, body := .stmts (bodyOf 7), scope := scOf 7, globals := 3, closure := [], defaults := .none, kwdefaults := .none, doc := .none, pyModule := (.str (Str.ofString "cpy313._pylong") 207), annotations := none, code := (.ref 48), closureTuple := .none, builtins := 0 }), #[]⟩
noncomputable def o50 (P : Params) : Obj := ⟨(.type "tuple"), none, (.seq #[] 0), #[]⟩
noncomputable def o51 (P : Params) : Obj := ⟨.none, none, (.fields #[]), #[]⟩
noncomputable def o52 (P : Params) : Obj := ⟨(.type "tuple"), none, (.seq #[(.str (Str.ofString "digits") 256), (.str (Str.ofString "n") 257)] 0), #[]⟩
noncomputable def o53 (P : Params) : Obj := ⟨(.type "tuple"), none, (.seq #[(.str (Str.ofString "digits") 258), (.str (Str.ofString "n") 259), (.str (Str.ofString "inner") 260)] 0), #[]⟩
noncomputable def o54 (P : Params) : Obj := ⟨.none, none, (.func { name := (Str.ofString "_digits2int"), qualname := (Str.ofString "_digits2int"), params := parOf 8, body := .stmts (bodyOf 8), scope := scOf 8, globals := 0, closure := [], defaults := .none, kwdefaults := .none, doc := .none, pyModule := .none, annotations := none, code := .none, closureTuple := .none, builtins := 0 }), #[]⟩
noncomputable def o55 (P : Params) : Obj := ⟨(.type "code"), none, (.fields #[(.str (Str.ofString "_digits2int") 253), (.str (Str.ofString "_digits2int") 254), (.str (Str.ofString "/claim/cut.py") 255), (.int 58 0), (.int 2 0), (.int 0 0), (.int 0 0), (.int 3 0), (.ref 50), (.bool true), (.int 181 0), (.ref 51), .none, (.ref 52), (.ref 53), (.ref 54), (.int 261 0), (.int 58 0), (.str (Str.ofString "/claim/cut.py") 262)]), #[]⟩
noncomputable def o56 (P : Params) : Obj := ⟨(.type "function"), none, (.func { name := (Str.ofString "_digits2int"), qualname := (Str.ofString "_digits2int"), params := parOf 8, body := .stmts (bodyOf 8), scope := scOf 8, globals := 3, closure := [], defaults := .none, kwdefaults := .none, doc := .none, pyModule := (.str (Str.ofString "cpy313._pylong") 207), annotations := none, code := (.ref 55), closureTuple := .none, builtins := 0 }), #[]⟩
noncomputable def o57 (P : Params) : Obj := ⟨(.type "tuple"), none, (.seq #[] 0), #[]⟩
noncomputable def o58 (P : Params) : Obj := ⟨.none, none, (.fields #[]), #[]⟩
noncomputable def o59 (P : Params) : Obj := ⟨(.type "tuple"), none, (.seq #[(.str (Str.ofString "a") 267), (.str (Str.ofString "b") 268), (.str (Str.ofString "n") 269), (.str (Str.ofString "a_digits") 270), (.str (Str.ofString "r") 271), (.str (Str.ofString "q_digits") 272), (.str (Str.ofString "a_digit") 273), (.str (Str.ofString "q_digit") 274), (.str (Str.ofString "q") 275)] 0), #[]⟩
noncomputable def o60 (P : Params) : Obj := ⟨(.type "tuple"), none, (.seq #[] 0), #[]⟩
noncomputable def o61 (P : Params) : Obj := ⟨.none, none, (.func { name := (Str.ofString "_divmod_pos"), qualname := (Str.ofString "_divmod_pos"), params := parOf 9, body := .stmts (bodyOf 9), scope := scOf 9, globals := 0, closure := [], defaults := .none, kwdefaults := .none, doc := .none, pyModule := .none, annotations := none, code := .none, closureTuple := .none, builtins := 0 }), #[]⟩
noncomputable def o62 (P : Params) : Obj := ⟨(.type "code"), none, (.fields #[(.str (Str.ofString "_divmod_pos") 264), (.str (Str.ofString "_divmod_pos") 265), (.str (Str.ofString "/claim/cut.py") 266), (.int 67 0), (.int 2 0), (.int 0 0), (.int 0 0), (.int 3 0), (.ref 57), (.bool true), (.int 181 0), (.ref 58), .none, (.ref 59), (.ref 60), (.ref 61), (.int 276 0), (.int 67 0), (.str (Str.ofString "/claim/cut.py") 277)]), #[]⟩
noncomputable def o63 (P : Params) : Obj := ⟨(.type "function"), none, (.func { name := (Str.ofString "_divmod_pos"), qualname := (Str.ofString "_divmod_pos"), params := parOf 9, body := .stmts (bodyOf 9), scope := scOf 9, globals := 3, closure := [], defaults := .none, kwdefaults := .none, doc := .none, pyModule := (.str (Str.ofString "cpy313._pylong") 207), annotations := none, code := (.ref 62), closureTuple := .none, builtins := 0 }), #[]⟩
noncomputable def o64 (P : Params) : Obj := ⟨(.type "tuple"), none, (.seq #[] 0), #[]⟩
noncomputable def o65 (P : Params) : Obj := ⟨.none, none, (.fields #[]), #[]⟩
noncomputable def o66 (P : Params) : Obj := ⟨(.type "tuple"), none, (.seq #[(.str (Str.ofString "a") 282), (.str (Str.ofString "b") 283), (.str (Str.ofString "q") 284), (.str (Str.ofString "r") 285)] 0), #[]⟩
noncomputable def o67 (P : Params) : Obj := ⟨(.type "tuple"), none, (.seq #[] 0), #[]⟩
noncomputable def o68 (P : Params) : Obj := ⟨.none, none, (.func { name := (Str.ofString "int_divmod"), qualname := (Str.ofString "int_divmod"), params := parOf 10, body := .stmts (bodyOf 10), scope := scOf 10, globals := 0, closure := [], defaults := .none, kwdefaults := .none, doc := .none, pyModule := .none, annotations := none, code := .none, closureTuple := .none, builtins := 0 }), #[]⟩
noncomputable def o69 (P : Params) : Obj := ⟨(.type "code"), none, (.fields #[(.str (Str.ofString "int_divmod") 279), (.str (Str.ofString "int_divmod") 280), (.str (Str.ofString "/claim/cut.py") 281), (.int 78 0), (.int 2 0), (.int 0 0), (.int 0 0), (.int 3 0), (.ref 64), (.bool true), (.int 181 0), (.ref 65), .none, (.ref 66), (.ref 67), (.ref 68), (.int 286 0), (.int 78 0), (.str (Str.ofString "/claim/cut.py") 287)]), #[]⟩
noncomputable def o70 (P : Params) : Obj := ⟨(.type "function"), none, (.func { name := (Str.ofString "int_divmod"), qualname := (Str.ofString "int_divmod"), params := parOf 10, body := .stmts (bodyOf 10), scope := scOf 10, globals := 3, closure := [], defaults := .none, kwdefaults := .none, doc := .none, pyModule := (.str (Str.ofString "cpy313._pylong") 207), annotations := none, code := (.ref 69), closureTuple := .none, builtins := 0 }), #[]⟩
noncomputable def o71 (P : Params) : Obj := ⟨(.type "list"), none, (.seq #[(.int 173 291), (.int 847 292), (.int 6150 293), (.int 6155 294), (.int 6156 295), (.int 6157 296), (.int 8203 297), (.int 8204 298), (.int 8205 299), (.int 8288 300), (.int 65279 301)] 0), #[]⟩
noncomputable def o72 (P : Params) : Obj := ⟨(.type "range"), none, (.fields #[(.int 65024 302), (.int 65040 303), (.int 1 304)]), #[]⟩
noncomputable def o73 (P : Params) : Obj := ⟨(.type "list"), none, (.seq #[(.int 65024 307), (.int 65025 308), (.int 65026 309), (.int 65027 310), (.int 65028 311), (.int 65029 312), (.int 65030 313), (.int 65031 314), (.int 65032 315), (.int 65033 316), (.int 65034 317), (.int 65035 318), (.int 65036 319), (.int 65037 320), (.int 65038 321), (.int 65039 322)] 18), #[]⟩
noncomputable def o74 (P : Params) : Obj := ⟨(.type "range_iterator"), none, (.fields #[(.int 65040 0), (.int 0 0), (.int 1 0)]), #[]⟩
noncomputable def o75 (P : Params) : Obj := ⟨(.type "tuple"), none, (.seq #[] 0), #[]⟩
noncomputable def o76 (P : Params) : Obj := ⟨(.type "StopIteration"), none, (.fields #[(.ref 75), .none, .none, .none, (.bool false), .none]), #[]⟩
noncomputable def o77 (P : Params) : Obj := ⟨(.type "list"), none, (.seq #[(.int 173 291), (.int 847 292), (.int 6150 293), (.int 6155 294), (.int 6156 295), (.int 6157 296), (.int 8203 297), (.int 8204 298), (.int 8205 299), (.int 8288 300), (.int 65279 301), (.int 65024 307), (.int 65025 308), (.int 65026 309), (.int 65027 310), (.int 65028 311), (.int 65029 312), (.int 65030 313), (.int 65031 314), (.int 65032 315), (.int 65033 316), (.int 65034 317), (.int 65035 318), (.int 65036 319), (.int 65037 320), (.int 65038 321), (.int 65039 322)] 0), #[]⟩
noncomputable def o78 (P : Params) : Obj := ⟨(.type "set"), none, (.set #[(65024, (.int 65024 307)), (65025, (.int 65025 308)), (65026, (.int 65026 309)), (65027, (.int 65027 310)), (65028, (.int 65028 311)), (65029, (.int 65029 312)), (6150, (.int 6150 293)), (65030, (.int 65030 313)), (65031, (.int 65031 314)), (65032, (.int 65032 315)), (65033, (.int 65033 316)), (6155, (.int 6155 294)), (6156, (.int 6156 295)), (6157, (.int 6157 296)), (8203, (.int 8203 297)), (8204, (.int 8204 298)), (8205, (.int 8205 299)), (65034, (.int 65034 317)), (65035, (.int 65035 318)), (65036, (.int 65036 319)), (65037, (.int 65037 320)), (65038, (.int 65038 321)), (65039, (.int 65039 322)), (173, (.int 173 291)), (847, (.int 847 292)), (8288, (.int 8288 300)), (65279, (.int 65279 301))] 29 ⟨127, #[0, 1, 2, 3, 4, 5, 6, 7, 8, 9, 10, 11, 12, 13, 14, 15, 16, 17, 18, 19, 20, 21, 22, 45, 79, 96, 127], #[], 0, !P.followText "set-order", 2, true⟩), #[]⟩
noncomputable def o79 (P : Params) : Obj := ⟨(.type "list_iterator"), none, (.fields #[.none, (.int 27 0)]), #[]⟩
noncomputable def o80 (P : Params) : Obj := ⟨(.type "tuple"), none, (.seq #[] 0), #[]⟩
noncomputable def o81 (P : Params) : Obj := ⟨(.type "StopIteration"), none, (.fields #[(.ref 80), .none, .none, .none, (.bool false), .none]), #[]⟩
noncomputable def o82 (P : Params) : Obj := ⟨(.type "tuple"), none, (.seq #[] 0), #[]⟩
noncomputable def o83 (P : Params) : Obj := ⟨.none, none, (.fields #[]), #[]⟩
noncomputable def o84 (P : Params) : Obj := ⟨(.type "tuple"), none, (.seq #[(.str (Str.ofString "code") 354)] 0), #[]⟩
noncomputable def o85 (P : Params) : Obj := ⟨(.type "tuple"), none, (.seq #[] 0), #[]⟩
noncomputable def o86 (P : Params) : Obj := ⟨.none, none, (.func { name := (Str.ofString "in_table_b1"), qualname := (Str.ofString "in_table_b1"), params := parOf 13, body := .stmts (bodyOf 13), scope := scOf 13, globals := 0, closure := [], defaults := .none, kwdefaults := .none, doc := .none, pyModule := .none, annotations := none, code := .none, closureTuple := .none, builtins := 0 }), #[]⟩
noncomputable def o87 (P : Params) : Obj := ⟨(.type "code"), none, (.fields #[(.str (Str.ofString "in_table_b1") 351), (.str (Str.ofString "in_table_b1") 352), (.str (Str.ofString "/claim/cut.py") 353), (.int 91 0), (.int 1 0), (.int 0 0), (.int 0 0), (.int 3 0), (.ref 82), (.bool true), (.int 181 0), (.ref 83), .none, (.ref 84), (.ref 85), (.ref 86), (.int 355 0), (.int 91 0), (.str (Str.ofString "/claim/cut.py") 356)]), #[]⟩
noncomputable def o88 (P : Params) : Obj := ⟨(.type "function"), none, (.func { name := (Str.ofString "in_table_b1"), qualname := (Str.ofString "in_table_b1"), params := parOf 13, body := .stmts (bodyOf 13), scope := scOf 13, globals := 3, closure := [], defaults := .none, kwdefaults := .none, doc := .none, pyModule := (.str (Str.ofString "cpy313.stringprep") 289), annotations := none, code := (.ref 87), closureTuple := .none, builtins := 0 }), #[]⟩
noncomputable def o128 (P : Params) : Obj := ⟨(.type "tuple"), none, (.seq #[] 0), #[]⟩
noncomputable def o129 (P : Params) : Obj := ⟨.none, none, (.fields #[]), #[]⟩
noncomputable def o130 (P : Params) : Obj := ⟨(.type "tuple"), none, (.seq #[(.str (Str.ofString "code") 2312), (.str (Str.ofString "r") 2313)] 0), #[]⟩
noncomputable def o131 (P : Params) : Obj := ⟨(.type "tuple"), none, (.seq #[] 0), #[]⟩
noncomputable def o132 (P : Params) : Obj := ⟨.none, none, (.func { name := (Str.ofString "map_table_b3"), qualname := (Str.ofString "map_table_b3"), params := parOf 15, body := .stmts (bodyOf 15), scope := scOf 15, globals := 0, closure := [], defaults := .none, kwdefaults := .none, doc := .none, pyModule := .none, annotations := none, code := .none, closureTuple := .none, builtins := 0 }), #[]⟩
noncomputable def o133 (P : Params) : Obj := ⟨(.type "code"), none, (.fields #[(.str (Str.ofString "map_table_b3") 2309), (.str (Str.ofString "map_table_b3") 2310), (.str (Str.ofString "/claim/cut.py") 2311), (.int 94 0), (.int 1 0), (.int 0 0), (.int 0 0), (.int 3 0), (.ref 128), (.bool true), (.int 181 0), (.ref 129), .none, (.ref 130), (.ref 131), (.ref 132), (.int 2314 0), (.int 94 0), (.str (Str.ofString "/claim/cut.py") 2315)]), #[]⟩
noncomputable def o134 (P : Params) : Obj := ⟨(.type "function"), none, (.func { name := (Str.ofString "map_table_b3"), qualname := (Str.ofString "map_table_b3"), params := parOf 15, body := .stmts (bodyOf 15), scope := scOf 15, globals := 3, closure := [], defaults := .none, kwdefaults := .none, doc := .none, pyModule := (.str (Str.ofString "cpy313.stringprep") 289), annotations := none, code := (.ref 133), closureTuple := .none, builtins := 0 }), #[]⟩
noncomputable def o135 (P : Params) : Obj := ⟨(.type "tuple"), none, (.seq #[] 0), #[]⟩
noncomputable def o136 (P : Params) : Obj := ⟨.none, none, (.fields #[]), #[]⟩
noncomputable def o137 (P : Params) : Obj := ⟨(.type "tuple"), none, (.seq #[(.str (Str.ofString "code") 2320)] 0), #[]⟩
noncomputable def o138 (P : Params) : Obj := ⟨(.type "tuple"), none, (.seq #[] 0), #[]⟩
noncomputable def o139 (P : Params) : Obj := ⟨.none, none, (.func { name := (Str.ofString "in_table_c11"), qualname := (Str.ofString "in_table_c11"), params := parOf 16, body := .stmts (bodyOf 16), scope := scOf 16, globals := 0, closure := [], defaults := .none, kwdefaults := .none, doc := .none, pyModule := .none, annotations := none, code := .none, closureTuple := .none, builtins := 0 }), #[]⟩
noncomputable def o140 (P : Params) : Obj := ⟨(.type "code"), none, (.fields #[(.str (Str.ofString "in_table_c11") 2317), (.str (Str.ofString "in_table_c11") 2318), (.str (Str.ofString "/claim/cut.py") 2319), (.int 99 0), (.int 1 0), (.int 0 0), (.int 0 0), (.int 3 0), (.ref 135), (.bool true), (.int 181 0), (.ref 136), .none, (.ref 137), (.ref 138), (.ref 139), (.int 2321 0), (.int 99 0), (.str (Str.ofString "/claim/cut.py") 2322)]), #[]⟩
noncomputable def o141 (P : Params) : Obj := ⟨(.type "function"), none, (.func { name := (Str.ofString "in_table_c11"), qualname := (Str.ofString "in_table_c11"), params := parOf 16, body := .stmts (bodyOf 16), scope := scOf 16, globals := 3, closure := [], defaults := .none, kwdefaults := .none, doc := .none, pyModule := (.str (Str.ofString "cpy313.stringprep") 289), annotations := none, code := (.ref 140), closureTuple := .none, builtins := 0 }), #[]⟩
noncomputable def o142 (P : Params) : Obj := ⟨(.type "tuple"), none, (.seq #[] 0), #[]⟩
noncomputable def o143 (P : Params) : Obj := ⟨.none, none, (.fields #[]), #[]⟩
noncomputable def o144 (P : Params) : Obj := ⟨(.type "tuple"), none, (.seq #[(.str (Str.ofString "script") 2329), (.str (Str.ofString "letters") 2330), (.str (Str.ofString "pairs") 2331), (.str (Str.ofString "doubles") 2332), (.str (Str.ofString "capitals") 2333), (.str (Str.ofString "nothing") 2334), (.str (Str.ofString "cells") 2335), (.str (Str.ofString "typed") 2336), (.str (Str.ofString "plain") 2337), (.str (Str.ofString "k") 2338), (.str (Str.ofString "cell") 2339), (.str (Str.ofString "kind") 2340), (.str (Str.ofString "part") 2341)] 0), #[]⟩
noncomputable def o145 (P : Params) : Obj := ⟨(.type "tuple"), none, (.seq #[] 0), #[]⟩
noncomputable def o146 (P : Params) : Obj := ⟨.none, none, (.func { name := (Str.ofString "_law_text"), qualname := (Str.ofString "_law_text"), params := parOf 18, body := .stmts (bodyOf 18), scope := scOf 18, globals := 0, closure := [], defaults := .none, kwdefaults := .none, doc := .none, pyModule := .none, annotations := none, code := .none, closureTuple := .none, builtins := 0 }), #[]⟩
noncomputable def o147 (P : Params) : Obj := ⟨(.type "code"), none, (.fields #[(.str (Str.ofString "_law_text") 2326), (.str (Str.ofString "_law_text") 2327), (.str (Str.ofString "/claim/cut.py") 2328), (.int 102 0), (.int 1 0), (.int 0 0), (.int 0 0), (.int 3 0), (.ref 142), (.bool true), (.int 181 0), (.ref 143), .none, (.ref 144), (.ref 145), (.ref 146), (.int 2342 0), (.int 102 0), (.str (Str.ofString "/claim/cut.py") 2343)]), #[]⟩
noncomputable def o148 (P : Params) : Obj := ⟨(.type "function"), none, (.func { name := (Str.ofString "_law_text"), qualname := (Str.ofString "_law_text"), params := parOf 18, body := .stmts (bodyOf 18), scope := scOf 18, globals := 3, closure := [], defaults := .none, kwdefaults := .none, doc := .none, pyModule := (.str (Str.ofString "law_ul0024_01") 2324), annotations := none, code := (.ref 147), closureTuple := .none, builtins := 0 }), #[]⟩
noncomputable def o149 (P : Params) : Obj := ⟨(.type "tuple"), none, (.seq #[] 0), #[]⟩
noncomputable def o150 (P : Params) : Obj := ⟨.none, none, (.fields #[]), #[]⟩
noncomputable def o151 (P : Params) : Obj := ⟨.none, none, (.func { name := (Str.ofString "_law_place"), qualname := (Str.ofString "_law_place"), params := parOf 19, body := .stmts (bodyOf 19), scope := scOf 19, globals := 0, closure := [], defaults := .none, kwdefaults := .none, doc := .none, pyModule := .none, annotations := none, code := .none, closureTuple := .none, builtins := 0 }), #[]⟩
noncomputable def o152 (P : Params) : Obj := ⟨(.type "code"), none, (.fields #[(.str (Str.ofString "_law_place") 2345), (.str (Str.ofString "_law_place") 2346), (.str (Str.ofString "/claim/cut.py") 2347), (.int 134 0), (.int 1 0), (.int 0 0), (.int 0 0), (.int 3 0), (.ref 149), (.bool true), (.int 181 0), (.ref 150), .none, .none, .none, (.ref 151), (.int 2348 0), (.int 134 0), (.str (Str.ofString "/claim/cut.py") 2349)]), #[]⟩
noncomputable def o153 (P : Params) : Obj := ⟨(.type "function"), none, (.func { name := (Str.ofString "_law_place"), qualname := (Str.ofString "_law_place"), params := parOf 19, body := .stmts (bodyOf 19), scope := scOf 19, globals := 3, closure := [], defaults := .none, kwdefaults := .none, doc := .none, pyModule := (.str (Str.ofString "law_ul0024_01") 2324), annotations := none, code := (.ref 152), closureTuple := .none, builtins := 0 }), #[]⟩
noncomputable def o154 (P : Params) : Obj := ⟨(.type "tuple"), none, (.seq #[] 0), #[]⟩
noncomputable def o155 (P : Params) : Obj := ⟨.none, none, (.fields #[]), #[]⟩
noncomputable def o156 (P : Params) : Obj := ⟨.none, none, (.func { name := (Str.ofString "_law_after"), qualname := (Str.ofString "_law_after"), params := parOf 20, body := .stmts (bodyOf 20), scope := scOf 20, globals := 0, closure := [], defaults := .none, kwdefaults := .none, doc := .none, pyModule := .none, annotations := none, code := .none, closureTuple := .none, builtins := 0 }), #[]⟩
noncomputable def o157 (P : Params) : Obj := ⟨(.type "code"), none, (.fields #[(.str (Str.ofString "_law_after") 2351), (.str (Str.ofString "_law_after") 2352), (.str (Str.ofString "/claim/cut.py") 2353), (.int 142 0), (.int 1 0), (.int 0 0), (.int 0 0), (.int 3 0), (.ref 154), (.bool true), (.int 181 0), (.ref 155), .none, .none, .none, (.ref 156), (.int 2354 0), (.int 142 0), (.str (Str.ofString "/claim/cut.py") 2355)]), #[]⟩
noncomputable def o158 (P : Params) : Obj := ⟨(.type "function"), none, (.func { name := (Str.ofString "_law_after"), qualname := (Str.ofString "_law_after"), params := parOf 20, body := .stmts (bodyOf 20), scope := scOf 20, globals := 3, closure := [], defaults := .none, kwdefaults := .none, doc := .none, pyModule := (.str (Str.ofString "law_ul0024_01") 2324), annotations := none, code := (.ref 157), closureTuple := .none, builtins := 0 }), #[]⟩
noncomputable def o159 (P : Params) : Obj := ⟨(.type "tuple"), none, (.seq #[] 0), #[]⟩
noncomputable def o160 (P : Params) : Obj := ⟨.none, none, (.fields #[]), #[]⟩
noncomputable def o161 (P : Params) : Obj := ⟨(.type "tuple"), none, (.seq #[(.str (Str.ofString "place") 2360), (.str (Str.ofString "ways") 2361), (.str (Str.ofString "size") 2362), (.str (Str.ofString "blanks") 2363), (.str (Str.ofString "ahead") 2364)] 0), #[]⟩
noncomputable def o162 (P : Params) : Obj := ⟨(.type "tuple"), none, (.seq #[] 0), #[]⟩
noncomputable def o163 (P : Params) : Obj := ⟨.none, none, (.func { name := (Str.ofString "_law_ahead"), qualname := (Str.ofString "_law_ahead"), params := parOf 21, body := .stmts (bodyOf 21), scope := scOf 21, globals := 0, closure := [], defaults := .none, kwdefaults := .none, doc := .none, pyModule := .none, annotations := none, code := .none, closureTuple := .none, builtins := 0 }), #[]⟩
noncomputable def o164 (P : Params) : Obj := ⟨(.type "code"), none, (.fields #[(.str (Str.ofString "_law_ahead") 2357), (.str (Str.ofString "_law_ahead") 2358), (.str (Str.ofString "/claim/cut.py") 2359), (.int 150 0), (.int 4 0), (.int 0 0), (.int 0 0), (.int 3 0), (.ref 159), (.bool true), (.int 181 0), (.ref 160), .none, (.ref 161), (.ref 162), (.ref 163), (.int 2365 0), (.int 150 0), (.str (Str.ofString "/claim/cut.py") 2366)]), #[]⟩
noncomputable def o165 (P : Params) : Obj := ⟨(.type "function"), none, (.func { name := (Str.ofString "_law_ahead"), qualname := (Str.ofString "_law_ahead"), params := parOf 21, body := .stmts (bodyOf 21), scope := scOf 21, globals := 3, closure := [], defaults := .none, kwdefaults := .none, doc := .none, pyModule := (.str (Str.ofString "law_ul0024_01") 2324), annotations := none, code := (.ref 164), closureTuple := .none, builtins := 0 }), #[]⟩
noncomputable def o166 (P : Params) : Obj := ⟨(.type "tuple"), none, (.seq #[] 0), #[]⟩
noncomputable def o167 (P : Params) : Obj := ⟨.none, none, (.fields #[]), #[]⟩
noncomputable def o168 (P : Params) : Obj := ⟨(.type "tuple"), none, (.seq #[(.str (Str.ofString "place") 2371), (.str (Str.ofString "ways") 2372), (.str (Str.ofString "signs") 2373), (.str (Str.ofString "turn") 2374), (.str (Str.ofString "left") 2375), (.str (Str.ofString "told") 2376), (.str (Str.ofString "size") 2377), (.str (Str.ofString "step") 2378), (.str (Str.ofString "rest") 2379), (.str (Str.ofString "sign") 2380), (.str (Str.ofString "many") 2381), (.str (Str.ofString "first") 2382), (.str (Str.ofString "over") 2383)] 0), #[]⟩
noncomputable def o169 (P : Params) : Obj := ⟨(.type "tuple"), none, (.seq #[] 0), #[]⟩
noncomputable def o170 (P : Params) : Obj := ⟨.none, none, (.func { name := (Str.ofString "_law_read"), qualname := (Str.ofString "_law_read"), params := parOf 22, body := .stmts (bodyOf 22), scope := scOf 22, globals := 0, closure := [], defaults := .none, kwdefaults := .none, doc := .none, pyModule := .none, annotations := none, code := .none, closureTuple := .none, builtins := 0 }), #[]⟩
noncomputable def o171 (P : Params) : Obj := ⟨(.type "code"), none, (.fields #[(.str (Str.ofString "_law_read") 2368), (.str (Str.ofString "_law_read") 2369), (.str (Str.ofString "/claim/cut.py") 2370), (.int 157 0), (.int 4 0), (.int 0 0), (.int 0 0), (.int 3 0), (.ref 166), (.bool true), (.int 181 0), (.ref 167), .none, (.ref 168), (.ref 169), (.ref 170), (.int 2384 0), (.int 157 0), (.str (Str.ofString "/claim/cut.py") 2385)]), #[]⟩
noncomputable def o172 (P : Params) : Obj := ⟨(.type "function"), none, (.func { name := (Str.ofString "_law_read"), qualname := (Str.ofString "_law_read"), params := parOf 22, body := .stmts (bodyOf 22), scope := scOf 22, globals := 3, closure := [], defaults := .none, kwdefaults := .none, doc := .none, pyModule := (.str (Str.ofString "law_ul0024_01") 2324), annotations := none, code := (.ref 171), closureTuple := .none, builtins := 0 }), #[]⟩
noncomputable def o173 (P : Params) : Obj := ⟨(.type "tuple"), none, (.seq #[] 0), #[]⟩
noncomputable def o174 (P : Params) : Obj := ⟨.none, none, (.fields #[]), #[]⟩
noncomputable def o175 (P : Params) : Obj := ⟨.none, none, (.func { name := (Str.ofString "law"), qualname := (Str.ofString "law"), params := parOf 23, body := .stmts (bodyOf 23), scope := scOf 23, globals := 0, closure := [], defaults := .none, kwdefaults := .none, doc := .none, pyModule := .none, annotations := none, code := .none, closureTuple := .none, builtins := 0 }), #[]⟩
noncomputable def o176 (P : Params) : Obj := ⟨(.type "code"), none, (.fields #[(.str (Str.ofString "law") 2387), (.str (Str.ofString "law") 2388), (.str (Str.ofString "/claim/cut.py") 2389), (.int 177 0), (.int 1 0), (.int 0 0), (.int 0 0), (.int 3 0), (.ref 173), (.bool true), (.int 181 0), (.ref 174), .none, .none, .none, (.ref 175), (.int 2390 0), (.int 177 0), (.str (Str.ofString "/claim/cut.py") 2391)]), #[]⟩
noncomputable def o177 (P : Params) : Obj := ⟨(.type "function"), none, (.func { name := (Str.ofString "law"), qualname := (Str.ofString "law"), params := parOf 23, body := .stmts (bodyOf 23), scope := scOf 23, globals := 3, closure := [], defaults := .none, kwdefaults := .none, doc := .none, pyModule := (.str (Str.ofString "law_ul0024_01") 2324), annotations := none, code := (.ref 176), closureTuple := .none, builtins := 0 }), #[]⟩
noncomputable def mRest (P : Params) : List DictEntry := [
  ⟨PyData.keyHash P (Str.ofString "__doc__"), (.str (Str.ofString "__doc__") 166), .none⟩,
  ⟨PyData.keyHash P (Str.ofString "__package__"), (.str (Str.ofString "__package__") 167), .none⟩,
  ⟨PyData.keyHash P (Str.ofString "__loader__"), (.str (Str.ofString "__loader__") 168), (.builtin "__main__.__loader__#opaque")⟩,
  ⟨PyData.keyHash P (Str.ofString "__spec__"), (.str (Str.ofString "__spec__") 169), .none⟩,
  ⟨PyData.keyHash P (Str.ofString "__annotations__"), (.str (Str.ofString "__annotations__") 170), (.ref 6)⟩,
  ⟨PyData.keyHash P (Str.ofString "__builtins__"), (.str (Str.ofString "__builtins__") 171), (.ref 4)⟩,
  ⟨PyData.keyHash P (Str.ofString "__file__"), (.str (Str.ofString "__file__") 173), (.str (Str.ofString "/claim/cut.py") 172)⟩,
  ⟨PyData.keyHash P (Str.ofString "__cached__"), (.str (Str.ofString "__cached__") 174), .none⟩,
  ⟨PyData.keyHash P (Str.ofString "_strcoll"), (.str (Str.ofString "_strcoll") 196), (.ref 21)⟩,
  ⟨PyData.keyHash P (Str.ofString "_strip_padding"), (.str (Str.ofString "_strip_padding") 206), (.ref 28)⟩,
  ⟨PyData.keyHash P (Str.ofString "_DIV_LIMIT"), (.str (Str.ofString "_DIV_LIMIT") 210), (.int 4000 209)⟩,
  ⟨PyData.keyHash P (Str.ofString "_div2n1n"), (.str (Str.ofString "_div2n1n") 227), (.ref 35)⟩,
  ⟨PyData.keyHash P (Str.ofString "_div3n2n"), (.str (Str.ofString "_div3n2n") 241), (.ref 42)⟩,
  ⟨PyData.keyHash P (Str.ofString "_int2digits"), (.str (Str.ofString "_int2digits") 252), (.ref 49)⟩,
  ⟨PyData.keyHash P (Str.ofString "_digits2int"), (.str (Str.ofString "_digits2int") 263), (.ref 56)⟩,
  ⟨PyData.keyHash P (Str.ofString "_divmod_pos"), (.str (Str.ofString "_divmod_pos") 278), (.ref 63)⟩,
  ⟨PyData.keyHash P (Str.ofString "int_divmod"), (.str (Str.ofString "int_divmod") 288), (.ref 70)⟩,
  ⟨PyData.keyHash P (Str.ofString "b1_set"), (.str (Str.ofString "b1_set") 350), (.ref 78)⟩,
  ⟨PyData.keyHash P (Str.ofString "in_table_b1"), (.str (Str.ofString "in_table_b1") 357), (.ref 88)⟩,
  ⟨PyData.keyHash P (Str.ofString "b3_exceptions"), (.str (Str.ofString "b3_exceptions") 2308), (.ref 89)⟩,
  ⟨PyData.keyHash P (Str.ofString "map_table_b3"), (.str (Str.ofString "map_table_b3") 2316), (.ref 134)⟩,
  ⟨PyData.keyHash P (Str.ofString "in_table_c11"), (.str (Str.ofString "in_table_c11") 2323), (.ref 141)⟩,
  ⟨PyData.keyHash P (Str.ofString "_law_text"), (.str (Str.ofString "_law_text") 2344), (.ref 148)⟩,
  ⟨PyData.keyHash P (Str.ofString "_law_place"), (.str (Str.ofString "_law_place") 2350), (.ref 153)⟩,
  ⟨PyData.keyHash P (Str.ofString "_law_after"), (.str (Str.ofString "_law_after") 2356), (.ref 158)⟩,
  ⟨PyData.keyHash P (Str.ofString "_law_ahead"), (.str (Str.ofString "_law_ahead") 2367), (.ref 165)⟩,
  ⟨PyData.keyHash P (Str.ofString "_law_read"), (.str (Str.ofString "_law_read") 2386), (.ref 172)⟩,
  ⟨PyData.keyHash P (Str.ofString "law"), (.str (Str.ofString "law") 2392), (.ref 177)⟩]
noncomputable def mObj (P : Params) (v : Value) (k : Nat) : Obj := ⟨.type "dict", none, .dict (⟨PyData.keyHash P (Str.ofString "__name__"), .str (Str.ofString "__name__") 165, v⟩ :: (mRest P).take k).toArray (k + 1), #[]⟩
noncomputable def l12 : List Value := [(.int 2 0), (.int 0 0), (.ref 20), (.int 4 0), (.int 0 0), (.ref 27), (.int 16 0), (.int 0 0), (.ref 34), (.int 32 0), (.int 0 0), (.ref 41), (.int 42 0), (.int 0 0), (.ref 48), (.int 58 0), (.int 0 0), (.ref 55), (.int 67 0), (.int 0 0), (.ref 62), (.int 78 0), (.int 0 0), (.ref 69), (.int 91 0), (.int 0 0), (.ref 87), (.int 94 0), (.int 0 0), (.ref 133), (.int 99 0), (.int 0 0), (.ref 140), (.int 102 0), (.int 0 0), (.ref 147), (.int 134 0), (.int 0 0), (.ref 152), (.int 142 0), (.int 0 0), (.ref 157), (.int 150 0), (.int 0 0), (.ref 164), (.int 157 0), (.int 0 0), (.ref 171), (.int 177 0), (.int 0 0), (.ref 176)]
noncomputable def o12 (k : Nat) : Obj := ⟨.none, none, .fields (l12.take k).toArray, #[]⟩
noncomputable def tr0 (P : Params) : BT := (.node (o0 P) (.node (o1 P) (.node (mObj P (.str (Str.ofString "__main__") 164) 8) (.node (o7 P) .nil .nil) (.node (o11 P) .nil .nil)) (.node (o5 P) (.node (o9 P) .nil .nil) (.node (o13 P) .nil .nil))) (.node (o2 P) (.node (o4 P) (.node (o8 P) .nil .nil) (.node (o12 0) .nil .nil)) (.node (o6 P) (.node (o10 P) .nil .nil) (.node (o14 P) .nil .nil))))
noncomputable def tr1 (P : Params) : BT := (.node (o0 P) (.node (o1 P) (.node (mObj P (.str (Str.ofString "cpy313.locale") 187) 8) (.node (o7 P) .nil .nil) (.node (o11 P) .nil .nil)) (.node (o5 P) (.node (o9 P) .nil .nil) (.node (o13 P) .nil .nil))) (.node (o2 P) (.node (o4 P) (.node (o8 P) .nil .nil) (.node (o12 0) .nil .nil)) (.node (o6 P) (.node (o10 P) .nil .nil) (.node (o14 P) .nil .nil))))
noncomputable def tr2 (P : Params) : BT := (.node (o0 P) (.node (o1 P) (.node (mObj P (.str (Str.ofString "cpy313.locale") 187) 9) (.node (o7 P) (.node (o15 P) .nil .nil) .nil) (.node (o11 P) (.node (o19 P) .nil .nil) .nil)) (.node (o5 P) (.node (o9 P) (.node (o17 P) .nil .nil) .nil) (.node (o13 P) (.node (o21 P) .nil .nil) .nil))) (.node (o2 P) (.node (o4 P) (.node (o8 P) (.node (o16 P) .nil .nil) .nil) (.node (o12 3) (.node (o20 P) .nil .nil) .nil)) (.node (o6 P) (.node (o10 P) (.node (o18 P) .nil .nil) .nil) (.node (o14 P) .nil .nil))))
noncomputable def tr3 (P : Params) : BT := (.node (o0 P) (.node (o1 P) (.node (mObj P (.str (Str.ofString "cpy313.locale") 187) 10) (.node (o7 P) (.node (o15 P) .nil .nil) (.node (o23 P) .nil .nil)) (.node (o11 P) (.node (o19 P) .nil .nil) (.node (o27 P) .nil .nil))) (.node (o5 P) (.node (o9 P) (.node (o17 P) .nil .nil) (.node (o25 P) .nil .nil)) (.node (o13 P) (.node (o21 P) .nil .nil) .nil))) (.node (o2 P) (.node (o4 P) (.node (o8 P) (.node (o16 P) .nil .nil) (.node (o24 P) .nil .nil)) (.node (o12 6) (.node (o20 P) .nil .nil) (.node (o28 P) .nil .nil))) (.node (o6 P) (.node (o10 P) (.node (o18 P) .nil .nil) (.node (o26 P) .nil .nil)) (.node (o14 P) (.node (o22 P) .nil .nil) .nil))))
noncomputable def tr4 (P : Params) : BT := (.node (o0 P) (.node (o1 P) (.node (mObj P (.str (Str.ofString "cpy313._pylong") 207) 10) (.node (o7 P) (.node (o15 P) .nil .nil) (.node (o23 P) .nil .nil)) (.node (o11 P) (.node (o19 P) .nil .nil) (.node (o27 P) .nil .nil))) (.node (o5 P) (.node (o9 P) (.node (o17 P) .nil .nil) (.node (o25 P) .nil .nil)) (.node (o13 P) (.node (o21 P) .nil .nil) .nil))) (.node (o2 P) (.node (o4 P) (.node (o8 P) (.node (o16 P) .nil .nil) (.node (o24 P) .nil .nil)) (.node (o12 6) (.node (o20 P) .nil .nil) (.node (o28 P) .nil .nil))) (.node (o6 P) (.node (o10 P) (.node (o18 P) .nil .nil) (.node (o26 P) .nil .nil)) (.node (o14 P) (.node (o22 P) .nil .nil) .nil))))
noncomputable def tr5 (P : Params) : BT := (.node (o0 P) (.node (o1 P) (.node (mObj P (.str (Str.ofString "cpy313._pylong") 207) 11) (.node (o7 P) (.node (o15 P) .nil .nil) (.node (o23 P) .nil .nil)) (.node (o11 P) (.node (o19 P) .nil .nil) (.node (o27 P) .nil .nil))) (.node (o5 P) (.node (o9 P) (.node (o17 P) .nil .nil) (.node (o25 P) .nil .nil)) (.node (o13 P) (.node (o21 P) .nil .nil) .nil))) (.node (o2 P) (.node (o4 P) (.node (o8 P) (.node (o16 P) .nil .nil) (.node (o24 P) .nil .nil)) (.node (o12 6) (.node (o20 P) .nil .nil) (.node (o28 P) .nil .nil))) (.node (o6 P) (.node (o10 P) (.node (o18 P) .nil .nil) (.node (o26 P) .nil .nil)) (.node (o14 P) (.node (o22 P) .nil .nil) .nil))))
noncomputable def tr6 (P : Params) : BT := (.node (o0 P) (.node (o1 P) (.node (mObj P (.str (Str.ofString "cpy313._pylong") 207) 12) (.node (o7 P) (.node (o15 P) (.node (o31 P) .nil .nil) .nil) (.node (o23 P) .nil .nil)) (.node (o11 P) (.node (o19 P) (.node (o35 P) .nil .nil) .nil) (.node (o27 P) .nil .nil))) (.node (o5 P) (.node (o9 P) (.node (o17 P) (.node (o33 P) .nil .nil) .nil) (.node (o25 P) .nil .nil)) (.node (o13 P) (.node (o21 P) .nil .nil) (.node (o29 P) .nil .nil)))) (.node (o2 P) (.node (o4 P) (.node (o8 P) (.node (o16 P) (.node (o32 P) .nil .nil) .nil) (.node (o24 P) .nil .nil)) (.node (o12 9) (.node (o20 P) .nil .nil) (.node (o28 P) .nil .nil))) (.node (o6 P) (.node (o10 P) (.node (o18 P) (.node (o34 P) .nil .nil) .nil) (.node (o26 P) .nil .nil)) (.node (o14 P) (.node (o22 P) .nil .nil) (.node (o30 P) .nil .nil)))))
noncomputable def tr7 (P : Params) : BT := (.node (o0 P) (.node (o1 P) (.node (mObj P (.str (Str.ofString "cpy313._pylong") 207) 13) (.node (o7 P) (.node (o15 P) (.node (o31 P) .nil .nil) .nil) (.node (o23 P) (.node (o39 P) .nil .nil) .nil)) (.node (o11 P) (.node (o19 P) (.node (o35 P) .nil .nil) .nil) (.node (o27 P) .nil .nil))) (.node (o5 P) (.node (o9 P) (.node (o17 P) (.node (o33 P) .nil .nil) .nil) (.node (o25 P) (.node (o41 P) .nil .nil) .nil)) (.node (o13 P) (.node (o21 P) (.node (o37 P) .nil .nil) .nil) (.node (o29 P) .nil .nil)))) (.node (o2 P) (.node (o4 P) (.node (o8 P) (.node (o16 P) (.node (o32 P) .nil .nil) .nil) (.node (o24 P) (.node (o40 P) .nil .nil) .nil)) (.node (o12 12) (.node (o20 P) (.node (o36 P) .nil .nil) .nil) (.node (o28 P) .nil .nil))) (.node (o6 P) (.node (o10 P) (.node (o18 P) (.node (o34 P) .nil .nil) .nil) (.node (o26 P) (.node (o42 P) .nil .nil) .nil)) (.node (o14 P) (.node (o22 P) (.node (o38 P) .nil .nil) .nil) (.node (o30 P) .nil .nil)))))
noncomputable def tr8 (P : Params) : BT := (.node (o0 P) (.node (o1 P) (.node (mObj P (.str (Str.ofString "cpy313._pylong") 207) 14) (.node (o7 P) (.node (o15 P) (.node (o31 P) .nil .nil) (.node (o47 P) .nil .nil)) (.node (o23 P) (.node (o39 P) .nil .nil) .nil)) (.node (o11 P) (.node (o19 P) (.node (o35 P) .nil .nil) .nil) (.node (o27 P) (.node (o43 P) .nil .nil) .nil))) (.node (o5 P) (.node (o9 P) (.node (o17 P) (.node (o33 P) .nil .nil) (.node (o49 P) .nil .nil)) (.node (o25 P) (.node (o41 P) .nil .nil) .nil)) (.node (o13 P) (.node (o21 P) (.node (o37 P) .nil .nil) .nil) (.node (o29 P) (.node (o45 P) .nil .nil) .nil)))) (.node (o2 P) (.node (o4 P) (.node (o8 P) (.node (o16 P) (.node (o32 P) .nil .nil) (.node (o48 P) .nil .nil)) (.node (o24 P) (.node (o40 P) .nil .nil) .nil)) (.node (o12 15) (.node (o20 P) (.node (o36 P) .nil .nil) .nil) (.node (o28 P) (.node (o44 P) .nil .nil) .nil))) (.node (o6 P) (.node (o10 P) (.node (o18 P) (.node (o34 P) .nil .nil) .nil) (.node (o26 P) (.node (o42 P) .nil .nil) .nil)) (.node (o14 P) (.node (o22 P) (.node (o38 P) .nil .nil) .nil) (.node (o30 P) (.node (o46 P) .nil .nil) .nil)))))
noncomputable def tr9 (P : Params) : BT := (.node (o0 P) (.node (o1 P) (.node (mObj P (.str (Str.ofString "cpy313._pylong") 207) 15) (.node (o7 P) (.node (o15 P) (.node (o31 P) .nil .nil) (.node (o47 P) .nil .nil)) (.node (o23 P) (.node (o39 P) .nil .nil) (.node (o55 P) .nil .nil))) (.node (o11 P) (.node (o19 P) (.node (o35 P) .nil .nil) (.node (o51 P) .nil .nil)) (.node (o27 P) (.node (o43 P) .nil .nil) .nil))) (.node (o5 P) (.node (o9 P) (.node (o17 P) (.node (o33 P) .nil .nil) (.node (o49 P) .nil .nil)) (.node (o25 P) (.node (o41 P) .nil .nil) .nil)) (.node (o13 P) (.node (o21 P) (.node (o37 P) .nil .nil) (.node (o53 P) .nil .nil)) (.node (o29 P) (.node (o45 P) .nil .nil) .nil)))) (.node (o2 P) (.node (o4 P) (.node (o8 P) (.node (o16 P) (.node (o32 P) .nil .nil) (.node (o48 P) .nil .nil)) (.node (o24 P) (.node (o40 P) .nil .nil) (.node (o56 P) .nil .nil))) (.node (o12 18) (.node (o20 P) (.node (o36 P) .nil .nil) (.node (o52 P) .nil .nil)) (.node (o28 P) (.node (o44 P) .nil .nil) .nil))) (.node (o6 P) (.node (o10 P) (.node (o18 P) (.node (o34 P) .nil .nil) (.node (o50 P) .nil .nil)) (.node (o26 P) (.node (o42 P) .nil .nil) .nil)) (.node (o14 P) (.node (o22 P) (.node (o38 P) .nil .nil) (.node (o54 P) .nil .nil)) (.node (o30 P) (.node (o46 P) .nil .nil) .nil)))))
noncomputable def tr10 (P : Params) : BT := (.node (o0 P) (.node (o1 P) (.node (mObj P (.str (Str.ofString "cpy313._pylong") 207) 16) (.node (o7 P) (.node (o15 P) (.node (o31 P) (.node (o63 P) .nil .nil) .nil) (.node (o47 P) .nil .nil)) (.node (o23 P) (.node (o39 P) .nil .nil) (.node (o55 P) .nil .nil))) (.node (o11 P) (.node (o19 P) (.node (o35 P) .nil .nil) (.node (o51 P) .nil .nil)) (.node (o27 P) (.node (o43 P) .nil .nil) (.node (o59 P) .nil .nil)))) (.node (o5 P) (.node (o9 P) (.node (o17 P) (.node (o33 P) .nil .nil) (.node (o49 P) .nil .nil)) (.node (o25 P) (.node (o41 P) .nil .nil) (.node (o57 P) .nil .nil))) (.node (o13 P) (.node (o21 P) (.node (o37 P) .nil .nil) (.node (o53 P) .nil .nil)) (.node (o29 P) (.node (o45 P) .nil .nil) (.node (o61 P) .nil .nil))))) (.node (o2 P) (.node (o4 P) (.node (o8 P) (.node (o16 P) (.node (o32 P) .nil .nil) (.node (o48 P) .nil .nil)) (.node (o24 P) (.node (o40 P) .nil .nil) (.node (o56 P) .nil .nil))) (.node (o12 21) (.node (o20 P) (.node (o36 P) .nil .nil) (.node (o52 P) .nil .nil)) (.node (o28 P) (.node (o44 P) .nil .nil) (.node (o60 P) .nil .nil)))) (.node (o6 P) (.node (o10 P) (.node (o18 P) (.node (o34 P) .nil .nil) (.node (o50 P) .nil .nil)) (.node (o26 P) (.node (o42 P) .nil .nil) (.node (o58 P) .nil .nil))) (.node (o14 P) (.node (o22 P) (.node (o38 P) .nil .nil) (.node (o54 P) .nil .nil)) (.node (o30 P) (.node (o46 P) .nil .nil) (.node (o62 P) .nil .nil))))))
noncomputable def tr11 (P : Params) : BT := (.node (o0 P) (.node (o1 P) (.node (mObj P (.str (Str.ofString "cpy313._pylong") 207) 17) (.node (o7 P) (.node (o15 P) (.node (o31 P) (.node (o63 P) .nil .nil) .nil) (.node (o47 P) .nil .nil)) (.node (o23 P) (.node (o39 P) .nil .nil) (.node (o55 P) .nil .nil))) (.node (o11 P) (.node (o19 P) (.node (o35 P) (.node (o67 P) .nil .nil) .nil) (.node (o51 P) .nil .nil)) (.node (o27 P) (.node (o43 P) .nil .nil) (.node (o59 P) .nil .nil)))) (.node (o5 P) (.node (o9 P) (.node (o17 P) (.node (o33 P) (.node (o65 P) .nil .nil) .nil) (.node (o49 P) .nil .nil)) (.node (o25 P) (.node (o41 P) .nil .nil) (.node (o57 P) .nil .nil))) (.node (o13 P) (.node (o21 P) (.node (o37 P) (.node (o69 P) .nil .nil) .nil) (.node (o53 P) .nil .nil)) (.node (o29 P) (.node (o45 P) .nil .nil) (.node (o61 P) .nil .nil))))) (.node (o2 P) (.node (o4 P) (.node (o8 P) (.node (o16 P) (.node (o32 P) (.node (o64 P) .nil .nil) .nil) (.node (o48 P) .nil .nil)) (.node (o24 P) (.node (o40 P) .nil .nil) (.node (o56 P) .nil .nil))) (.node (o12 24) (.node (o20 P) (.node (o36 P) (.node (o68 P) .nil .nil) .nil) (.node (o52 P) .nil .nil)) (.node (o28 P) (.node (o44 P) .nil .nil) (.node (o60 P) .nil .nil)))) (.node (o6 P) (.node (o10 P) (.node (o18 P) (.node (o34 P) (.node (o66 P) .nil .nil) .nil) (.node (o50 P) .nil .nil)) (.node (o26 P) (.node (o42 P) .nil .nil) (.node (o58 P) .nil .nil))) (.node (o14 P) (.node (o22 P) (.node (o38 P) (.node (o70 P) .nil .nil) .nil) (.node (o54 P) .nil .nil)) (.node (o30 P) (.node (o46 P) .nil .nil) (.node (o62 P) .nil .nil))))))
noncomputable def tr12 (P : Params) : BT := (.node (o0 P) (.node (o1 P) (.node (mObj P (.str (Str.ofString "cpy313.stringprep") 289) 17) (.node (o7 P) (.node (o15 P) (.node (o31 P) (.node (o63 P) .nil .nil) .nil) (.node (o47 P) .nil .nil)) (.node (o23 P) (.node (o39 P) .nil .nil) (.node (o55 P) .nil .nil))) (.node (o11 P) (.node (o19 P) (.node (o35 P) (.node (o67 P) .nil .nil) .nil) (.node (o51 P) .nil .nil)) (.node (o27 P) (.node (o43 P) .nil .nil) (.node (o59 P) .nil .nil)))) (.node (o5 P) (.node (o9 P) (.node (o17 P) (.node (o33 P) (.node (o65 P) .nil .nil) .nil) (.node (o49 P) .nil .nil)) (.node (o25 P) (.node (o41 P) .nil .nil) (.node (o57 P) .nil .nil))) (.node (o13 P) (.node (o21 P) (.node (o37 P) (.node (o69 P) .nil .nil) .nil) (.node (o53 P) .nil .nil)) (.node (o29 P) (.node (o45 P) .nil .nil) (.node (o61 P) .nil .nil))))) (.node (o2 P) (.node (o4 P) (.node (o8 P) (.node (o16 P) (.node (o32 P) (.node (o64 P) .nil .nil) .nil) (.node (o48 P) .nil .nil)) (.node (o24 P) (.node (o40 P) .nil .nil) (.node (o56 P) .nil .nil))) (.node (o12 24) (.node (o20 P) (.node (o36 P) (.node (o68 P) .nil .nil) .nil) (.node (o52 P) .nil .nil)) (.node (o28 P) (.node (o44 P) .nil .nil) (.node (o60 P) .nil .nil)))) (.node (o6 P) (.node (o10 P) (.node (o18 P) (.node (o34 P) (.node (o66 P) .nil .nil) .nil) (.node (o50 P) .nil .nil)) (.node (o26 P) (.node (o42 P) .nil .nil) (.node (o58 P) .nil .nil))) (.node (o14 P) (.node (o22 P) (.node (o38 P) (.node (o70 P) .nil .nil) .nil) (.node (o54 P) .nil .nil)) (.node (o30 P) (.node (o46 P) .nil .nil) (.node (o62 P) .nil .nil))))))
noncomputable def tr13 (P : Params) : BT := (.node (o0 P) (.node (o1 P) (.node (mObj P (.str (Str.ofString "cpy313.stringprep") 289) 18) (.node (o7 P) (.node (o15 P) (.node (o31 P) (.node (o63 P) .nil .nil) .nil) (.node (o47 P) (.node (o79 P) .nil .nil) .nil)) (.node (o23 P) (.node (o39 P) (.node (o71 P) .nil .nil) .nil) (.node (o55 P) .nil .nil))) (.node (o11 P) (.node (o19 P) (.node (o35 P) (.node (o67 P) .nil .nil) .nil) (.node (o51 P) .nil .nil)) (.node (o27 P) (.node (o43 P) (.node (o75 P) .nil .nil) .nil) (.node (o59 P) .nil .nil)))) (.node (o5 P) (.node (o9 P) (.node (o17 P) (.node (o33 P) (.node (o65 P) .nil .nil) .nil) (.node (o49 P) (.node (o81 P) .nil .nil) .nil)) (.node (o25 P) (.node (o41 P) (.node (o73 P) .nil .nil) .nil) (.node (o57 P) .nil .nil))) (.node (o13 P) (.node (o21 P) (.node (o37 P) (.node (o69 P) .nil .nil) .nil) (.node (o53 P) .nil .nil)) (.node (o29 P) (.node (o45 P) (.node (o77 P) .nil .nil) .nil) (.node (o61 P) .nil .nil))))) (.node (o2 P) (.node (o4 P) (.node (o8 P) (.node (o16 P) (.node (o32 P) (.node (o64 P) .nil .nil) .nil) (.node (o48 P) (.node (o80 P) .nil .nil) .nil)) (.node (o24 P) (.node (o40 P) (.node (o72 P) .nil .nil) .nil) (.node (o56 P) .nil .nil))) (.node (o12 24) (.node (o20 P) (.node (o36 P) (.node (o68 P) .nil .nil) .nil) (.node (o52 P) .nil .nil)) (.node (o28 P) (.node (o44 P) (.node (o76 P) .nil .nil) .nil) (.node (o60 P) .nil .nil)))) (.node (o6 P) (.node (o10 P) (.node (o18 P) (.node (o34 P) (.node (o66 P) .nil .nil) .nil) (.node (o50 P) .nil .nil)) (.node (o26 P) (.node (o42 P) (.node (o74 P) .nil .nil) .nil) (.node (o58 P) .nil .nil))) (.node (o14 P) (.node (o22 P) (.node (o38 P) (.node (o70 P) .nil .nil) .nil) (.node (o54 P) .nil .nil)) (.node (o30 P) (.node (o46 P) (.node (o78 P) .nil .nil) .nil) (.node (o62 P) .nil .nil))))))
noncomputable def tr14 (P : Params) : BT := (.node (o0 P) (.node (o1 P) (.node (mObj P (.str (Str.ofString "cpy313.stringprep") 289) 19) (.node (o7 P) (.node (o15 P) (.node (o31 P) (.node (o63 P) .nil .nil) .nil) (.node (o47 P) (.node (o79 P) .nil .nil) .nil)) (.node (o23 P) (.node (o39 P) (.node (o71 P) .nil .nil) .nil) (.node (o55 P) (.node (o87 P) .nil .nil) .nil))) (.node (o11 P) (.node (o19 P) (.node (o35 P) (.node (o67 P) .nil .nil) .nil) (.node (o51 P) (.node (o83 P) .nil .nil) .nil)) (.node (o27 P) (.node (o43 P) (.node (o75 P) .nil .nil) .nil) (.node (o59 P) .nil .nil)))) (.node (o5 P) (.node (o9 P) (.node (o17 P) (.node (o33 P) (.node (o65 P) .nil .nil) .nil) (.node (o49 P) (.node (o81 P) .nil .nil) .nil)) (.node (o25 P) (.node (o41 P) (.node (o73 P) .nil .nil) .nil) (.node (o57 P) .nil .nil))) (.node (o13 P) (.node (o21 P) (.node (o37 P) (.node (o69 P) .nil .nil) .nil) (.node (o53 P) (.node (o85 P) .nil .nil) .nil)) (.node (o29 P) (.node (o45 P) (.node (o77 P) .nil .nil) .nil) (.node (o61 P) .nil .nil))))) (.node (o2 P) (.node (o4 P) (.node (o8 P) (.node (o16 P) (.node (o32 P) (.node (o64 P) .nil .nil) .nil) (.node (o48 P) (.node (o80 P) .nil .nil) .nil)) (.node (o24 P) (.node (o40 P) (.node (o72 P) .nil .nil) .nil) (.node (o56 P) (.node (o88 P) .nil .nil) .nil))) (.node (o12 27) (.node (o20 P) (.node (o36 P) (.node (o68 P) .nil .nil) .nil) (.node (o52 P) (.node (o84 P) .nil .nil) .nil)) (.node (o28 P) (.node (o44 P) (.node (o76 P) .nil .nil) .nil) (.node (o60 P) .nil .nil)))) (.node (o6 P) (.node (o10 P) (.node (o18 P) (.node (o34 P) (.node (o66 P) .nil .nil) .nil) (.node (o50 P) (.node (o82 P) .nil .nil) .nil)) (.node (o26 P) (.node (o42 P) (.node (o74 P) .nil .nil) .nil) (.node (o58 P) .nil .nil))) (.node (o14 P) (.node (o22 P) (.node (o38 P) (.node (o70 P) .nil .nil) .nil) (.node (o54 P) (.node (o86 P) .nil .nil) .nil)) (.node (o30 P) (.node (o46 P) (.node (o78 P) .nil .nil) .nil) (.node (o62 P) .nil .nil))))))
noncomputable def tr14a (P : Params) : BT := (.node (o0 P) (.node (o1 P) (.node (mObj P (.str (Str.ofString "cpy313.stringprep") 289) 19) (.node (o7 P) (.node (o15 P) (.node (o31 P) (.node (o63 P) (.node (sb 37) .nil .nil) .nil) (.node (sb 5) .nil .nil)) (.node (o47 P) (.node (o79 P) .nil .nil) (.node (sb 21) .nil .nil))) (.node (o23 P) (.node (o39 P) (.node (o71 P) .nil .nil) (.node (sb 13) .nil .nil)) (.node (o55 P) (.node (o87 P) .nil .nil) (.node (sb 29) .nil .nil)))) (.node (o11 P) (.node (o19 P) (.node (o35 P) (.node (o67 P) .nil .nil) (.node (sb 9) .nil .nil)) (.node (o51 P) (.node (o83 P) .nil .nil) (.node (sb 25) .nil .nil))) (.node (o27 P) (.node (o43 P) (.node (o75 P) .nil .nil) (.node (sb 17) .nil .nil)) (.node (o59 P) (.node (sb 1) .nil .nil) (.node (sb 33) .nil .nil))))) (.node (o5 P) (.node (o9 P) (.node (o17 P) (.node (o33 P) (.node (o65 P) .nil .nil) (.node (sb 7) .nil .nil)) (.node (o49 P) (.node (o81 P) .nil .nil) (.node (sb 23) .nil .nil))) (.node (o25 P) (.node (o41 P) (.node (o73 P) .nil .nil) (.node (sb 15) .nil .nil)) (.node (o57 P) (.node o89 .nil .nil) (.node (sb 31) .nil .nil)))) (.node (o13 P) (.node (o21 P) (.node (o37 P) (.node (o69 P) .nil .nil) (.node (sb 11) .nil .nil)) (.node (o53 P) (.node (o85 P) .nil .nil) (.node (sb 27) .nil .nil))) (.node (o29 P) (.node (o45 P) (.node (o77 P) .nil .nil) (.node (sb 19) .nil .nil)) (.node (o61 P) (.node (sb 3) .nil .nil) (.node (sb 35) .nil .nil)))))) (.node (o2 P) (.node (o4 P) (.node (o8 P) (.node (o16 P) (.node (o32 P) (.node (o64 P) .nil .nil) (.node (sb 6) .nil .nil)) (.node (o48 P) (.node (o80 P) .nil .nil) (.node (sb 22) .nil .nil))) (.node (o24 P) (.node (o40 P) (.node (o72 P) .nil .nil) (.node (sb 14) .nil .nil)) (.node (o56 P) (.node (o88 P) .nil .nil) (.node (sb 30) .nil .nil)))) (.node (o12 27) (.node (o20 P) (.node (o36 P) (.node (o68 P) .nil .nil) (.node (sb 10) .nil .nil)) (.node (o52 P) (.node (o84 P) .nil .nil) (.node (sb 26) .nil .nil))) (.node (o28 P) (.node (o44 P) (.node (o76 P) .nil .nil) (.node (sb 18) .nil .nil)) (.node (o60 P) (.node (sb 2) .nil .nil) (.node (sb 34) .nil .nil))))) (.node (o6 P) (.node (o10 P) (.node (o18 P) (.node (o34 P) (.node (o66 P) .nil .nil) (.node (sb 8) .nil .nil)) (.node (o50 P) (.node (o82 P) .nil .nil) (.node (sb 24) .nil .nil))) (.node (o26 P) (.node (o42 P) (.node (o74 P) .nil .nil) (.node (sb 16) .nil .nil)) (.node (o58 P) (.node (sb 0) .nil .nil) (.node (sb 32) .nil .nil)))) (.node (o14 P) (.node (o22 P) (.node (o38 P) (.node (o70 P) .nil .nil) (.node (sb 12) .nil .nil)) (.node (o54 P) (.node (o86 P) .nil .nil) (.node (sb 28) .nil .nil))) (.node (o30 P) (.node (o46 P) (.node (o78 P) .nil .nil) (.node (sb 20) .nil .nil)) (.node (o62 P) (.node (sb 4) .nil .nil) (.node (sb 36) .nil .nil)))))))
noncomputable def tr15 (P : Params) : BT := (.node (o0 P) (.node (o1 P) (.node (mObj P (.str (Str.ofString "cpy313.stringprep") 289) 20) (.node (o7 P) (.node (o15 P) (.node (o31 P) (.node (o63 P) (.node (sb 37) .nil .nil) .nil) (.node (sb 5) .nil .nil)) (.node (o47 P) (.node (o79 P) .nil .nil) (.node (sb 21) .nil .nil))) (.node (o23 P) (.node (o39 P) (.node (o71 P) .nil .nil) (.node (sb 13) .nil .nil)) (.node (o55 P) (.node (o87 P) .nil .nil) (.node (sb 29) .nil .nil)))) (.node (o11 P) (.node (o19 P) (.node (o35 P) (.node (o67 P) .nil .nil) (.node (sb 9) .nil .nil)) (.node (o51 P) (.node (o83 P) .nil .nil) (.node (sb 25) .nil .nil))) (.node (o27 P) (.node (o43 P) (.node (o75 P) .nil .nil) (.node (sb 17) .nil .nil)) (.node (o59 P) (.node (sb 1) .nil .nil) (.node (sb 33) .nil .nil))))) (.node (o5 P) (.node (o9 P) (.node (o17 P) (.node (o33 P) (.node (o65 P) .nil .nil) (.node (sb 7) .nil .nil)) (.node (o49 P) (.node (o81 P) .nil .nil) (.node (sb 23) .nil .nil))) (.node (o25 P) (.node (o41 P) (.node (o73 P) .nil .nil) (.node (sb 15) .nil .nil)) (.node (o57 P) (.node o89 .nil .nil) (.node (sb 31) .nil .nil)))) (.node (o13 P) (.node (o21 P) (.node (o37 P) (.node (o69 P) .nil .nil) (.node (sb 11) .nil .nil)) (.node (o53 P) (.node (o85 P) .nil .nil) (.node (sb 27) .nil .nil))) (.node (o29 P) (.node (o45 P) (.node (o77 P) .nil .nil) (.node (sb 19) .nil .nil)) (.node (o61 P) (.node (sb 3) .nil .nil) (.node (sb 35) .nil .nil)))))) (.node (o2 P) (.node (o4 P) (.node (o8 P) (.node (o16 P) (.node (o32 P) (.node (o64 P) .nil .nil) (.node (sb 6) .nil .nil)) (.node (o48 P) (.node (o80 P) .nil .nil) (.node (sb 22) .nil .nil))) (.node (o24 P) (.node (o40 P) (.node (o72 P) .nil .nil) (.node (sb 14) .nil .nil)) (.node (o56 P) (.node (o88 P) .nil .nil) (.node (sb 30) .nil .nil)))) (.node (o12 27) (.node (o20 P) (.node (o36 P) (.node (o68 P) .nil .nil) (.node (sb 10) .nil .nil)) (.node (o52 P) (.node (o84 P) .nil .nil) (.node (sb 26) .nil .nil))) (.node (o28 P) (.node (o44 P) (.node (o76 P) .nil .nil) (.node (sb 18) .nil .nil)) (.node (o60 P) (.node (sb 2) .nil .nil) (.node (sb 34) .nil .nil))))) (.node (o6 P) (.node (o10 P) (.node (o18 P) (.node (o34 P) (.node (o66 P) .nil .nil) (.node (sb 8) .nil .nil)) (.node (o50 P) (.node (o82 P) .nil .nil) (.node (sb 24) .nil .nil))) (.node (o26 P) (.node (o42 P) (.node (o74 P) .nil .nil) (.node (sb 16) .nil .nil)) (.node (o58 P) (.node (sb 0) .nil .nil) (.node (sb 32) .nil .nil)))) (.node (o14 P) (.node (o22 P) (.node (o38 P) (.node (o70 P) .nil .nil) (.node (sb 12) .nil .nil)) (.node (o54 P) (.node (o86 P) .nil .nil) (.node (sb 28) .nil .nil))) (.node (o30 P) (.node (o46 P) (.node (o78 P) .nil .nil) (.node (sb 20) .nil .nil)) (.node (o62 P) (.node (sb 4) .nil .nil) (.node (sb 36) .nil .nil)))))))
noncomputable def tr16 (P : Params) : BT := (.node (o0 P) (.node (o1 P) (.node (mObj P (.str (Str.ofString "cpy313.stringprep") 289) 21) (.node (o7 P) (.node (o15 P) (.node (o31 P) (.node (o63 P) (.node (sb 37) .nil .nil) .nil) (.node (sb 5) .nil .nil)) (.node (o47 P) (.node (o79 P) .nil .nil) (.node (sb 21) .nil .nil))) (.node (o23 P) (.node (o39 P) (.node (o71 P) .nil .nil) (.node (sb 13) .nil .nil)) (.node (o55 P) (.node (o87 P) .nil .nil) (.node (sb 29) .nil .nil)))) (.node (o11 P) (.node (o19 P) (.node (o35 P) (.node (o67 P) (.node (o131 P) .nil .nil) .nil) (.node (sb 9) .nil .nil)) (.node (o51 P) (.node (o83 P) .nil .nil) (.node (sb 25) .nil .nil))) (.node (o27 P) (.node (o43 P) (.node (o75 P) .nil .nil) (.node (sb 17) .nil .nil)) (.node (o59 P) (.node (sb 1) .nil .nil) (.node (sb 33) .nil .nil))))) (.node (o5 P) (.node (o9 P) (.node (o17 P) (.node (o33 P) (.node (o65 P) (.node (o129 P) .nil .nil) .nil) (.node (sb 7) .nil .nil)) (.node (o49 P) (.node (o81 P) .nil .nil) (.node (sb 23) .nil .nil))) (.node (o25 P) (.node (o41 P) (.node (o73 P) .nil .nil) (.node (sb 15) .nil .nil)) (.node (o57 P) (.node o89 .nil .nil) (.node (sb 31) .nil .nil)))) (.node (o13 P) (.node (o21 P) (.node (o37 P) (.node (o69 P) (.node (o133 P) .nil .nil) .nil) (.node (sb 11) .nil .nil)) (.node (o53 P) (.node (o85 P) .nil .nil) (.node (sb 27) .nil .nil))) (.node (o29 P) (.node (o45 P) (.node (o77 P) .nil .nil) (.node (sb 19) .nil .nil)) (.node (o61 P) (.node (sb 3) .nil .nil) (.node (sb 35) .nil .nil)))))) (.node (o2 P) (.node (o4 P) (.node (o8 P) (.node (o16 P) (.node (o32 P) (.node (o64 P) (.node (o128 P) .nil .nil) .nil) (.node (sb 6) .nil .nil)) (.node (o48 P) (.node (o80 P) .nil .nil) (.node (sb 22) .nil .nil))) (.node (o24 P) (.node (o40 P) (.node (o72 P) .nil .nil) (.node (sb 14) .nil .nil)) (.node (o56 P) (.node (o88 P) .nil .nil) (.node (sb 30) .nil .nil)))) (.node (o12 30) (.node (o20 P) (.node (o36 P) (.node (o68 P) (.node (o132 P) .nil .nil) .nil) (.node (sb 10) .nil .nil)) (.node (o52 P) (.node (o84 P) .nil .nil) (.node (sb 26) .nil .nil))) (.node (o28 P) (.node (o44 P) (.node (o76 P) .nil .nil) (.node (sb 18) .nil .nil)) (.node (o60 P) (.node (sb 2) .nil .nil) (.node (sb 34) .nil .nil))))) (.node (o6 P) (.node (o10 P) (.node (o18 P) (.node (o34 P) (.node (o66 P) (.node (o130 P) .nil .nil) .nil) (.node (sb 8) .nil .nil)) (.node (o50 P) (.node (o82 P) .nil .nil) (.node (sb 24) .nil .nil))) (.node (o26 P) (.node (o42 P) (.node (o74 P) .nil .nil) (.node (sb 16) .nil .nil)) (.node (o58 P) (.node (sb 0) .nil .nil) (.node (sb 32) .nil .nil)))) (.node (o14 P) (.node (o22 P) (.node (o38 P) (.node (o70 P) (.node (o134 P) .nil .nil) .nil) (.node (sb 12) .nil .nil)) (.node (o54 P) (.node (o86 P) .nil .nil) (.node (sb 28) .nil .nil))) (.node (o30 P) (.node (o46 P) (.node (o78 P) .nil .nil) (.node (sb 20) .nil .nil)) (.node (o62 P) (.node (sb 4) .nil .nil) (.node (sb 36) .nil .nil)))))))
noncomputable def tr17 (P : Params) : BT := (.node (o0 P) (.node (o1 P) (.node (mObj P (.str (Str.ofString "cpy313.stringprep") 289) 22) (.node (o7 P) (.node (o15 P) (.node (o31 P) (.node (o63 P) (.node (sb 37) .nil .nil) .nil) (.node (sb 5) .nil .nil)) (.node (o47 P) (.node (o79 P) .nil .nil) (.node (sb 21) .nil .nil))) (.node (o23 P) (.node (o39 P) (.node (o71 P) (.node (o135 P) .nil .nil) .nil) (.node (sb 13) .nil .nil)) (.node (o55 P) (.node (o87 P) .nil .nil) (.node (sb 29) .nil .nil)))) (.node (o11 P) (.node (o19 P) (.node (o35 P) (.node (o67 P) (.node (o131 P) .nil .nil) .nil) (.node (sb 9) .nil .nil)) (.node (o51 P) (.node (o83 P) .nil .nil) (.node (sb 25) .nil .nil))) (.node (o27 P) (.node (o43 P) (.node (o75 P) (.node (o139 P) .nil .nil) .nil) (.node (sb 17) .nil .nil)) (.node (o59 P) (.node (sb 1) .nil .nil) (.node (sb 33) .nil .nil))))) (.node (o5 P) (.node (o9 P) (.node (o17 P) (.node (o33 P) (.node (o65 P) (.node (o129 P) .nil .nil) .nil) (.node (sb 7) .nil .nil)) (.node (o49 P) (.node (o81 P) .nil .nil) (.node (sb 23) .nil .nil))) (.node (o25 P) (.node (o41 P) (.node (o73 P) (.node (o137 P) .nil .nil) .nil) (.node (sb 15) .nil .nil)) (.node (o57 P) (.node o89 .nil .nil) (.node (sb 31) .nil .nil)))) (.node (o13 P) (.node (o21 P) (.node (o37 P) (.node (o69 P) (.node (o133 P) .nil .nil) .nil) (.node (sb 11) .nil .nil)) (.node (o53 P) (.node (o85 P) .nil .nil) (.node (sb 27) .nil .nil))) (.node (o29 P) (.node (o45 P) (.node (o77 P) (.node (o141 P) .nil .nil) .nil) (.node (sb 19) .nil .nil)) (.node (o61 P) (.node (sb 3) .nil .nil) (.node (sb 35) .nil .nil)))))) (.node (o2 P) (.node (o4 P) (.node (o8 P) (.node (o16 P) (.node (o32 P) (.node (o64 P) (.node (o128 P) .nil .nil) .nil) (.node (sb 6) .nil .nil)) (.node (o48 P) (.node (o80 P) .nil .nil) (.node (sb 22) .nil .nil))) (.node (o24 P) (.node (o40 P) (.node (o72 P) (.node (o136 P) .nil .nil) .nil) (.node (sb 14) .nil .nil)) (.node (o56 P) (.node (o88 P) .nil .nil) (.node (sb 30) .nil .nil)))) (.node (o12 33) (.node (o20 P) (.node (o36 P) (.node (o68 P) (.node (o132 P) .nil .nil) .nil) (.node (sb 10) .nil .nil)) (.node (o52 P) (.node (o84 P) .nil .nil) (.node (sb 26) .nil .nil))) (.node (o28 P) (.node (o44 P) (.node (o76 P) (.node (o140 P) .nil .nil) .nil) (.node (sb 18) .nil .nil)) (.node (o60 P) (.node (sb 2) .nil .nil) (.node (sb 34) .nil .nil))))) (.node (o6 P) (.node (o10 P) (.node (o18 P) (.node (o34 P) (.node (o66 P) (.node (o130 P) .nil .nil) .nil) (.node (sb 8) .nil .nil)) (.node (o50 P) (.node (o82 P) .nil .nil) (.node (sb 24) .nil .nil))) (.node (o26 P) (.node (o42 P) (.node (o74 P) (.node (o138 P) .nil .nil) .nil) (.node (sb 16) .nil .nil)) (.node (o58 P) (.node (sb 0) .nil .nil) (.node (sb 32) .nil .nil)))) (.node (o14 P) (.node (o22 P) (.node (o38 P) (.node (o70 P) (.node (o134 P) .nil .nil) .nil) (.node (sb 12) .nil .nil)) (.node (o54 P) (.node (o86 P) .nil .nil) (.node (sb 28) .nil .nil))) (.node (o30 P) (.node (o46 P) (.node (o78 P) .nil .nil) (.node (sb 20) .nil .nil)) (.node (o62 P) (.node (sb 4) .nil .nil) (.node (sb 36) .nil .nil)))))))
noncomputable def tr18 (P : Params) : BT := (.node (o0 P) (.node (o1 P) (.node (mObj P (.str (Str.ofString "law_ul0024_01") 2324) 22) (.node (o7 P) (.node (o15 P) (.node (o31 P) (.node (o63 P) (.node (sb 37) .nil .nil) .nil) (.node (sb 5) .nil .nil)) (.node (o47 P) (.node (o79 P) .nil .nil) (.node (sb 21) .nil .nil))) (.node (o23 P) (.node (o39 P) (.node (o71 P) (.node (o135 P) .nil .nil) .nil) (.node (sb 13) .nil .nil)) (.node (o55 P) (.node (o87 P) .nil .nil) (.node (sb 29) .nil .nil)))) (.node (o11 P) (.node (o19 P) (.node (o35 P) (.node (o67 P) (.node (o131 P) .nil .nil) .nil) (.node (sb 9) .nil .nil)) (.node (o51 P) (.node (o83 P) .nil .nil) (.node (sb 25) .nil .nil))) (.node (o27 P) (.node (o43 P) (.node (o75 P) (.node (o139 P) .nil .nil) .nil) (.node (sb 17) .nil .nil)) (.node (o59 P) (.node (sb 1) .nil .nil) (.node (sb 33) .nil .nil))))) (.node (o5 P) (.node (o9 P) (.node (o17 P) (.node (o33 P) (.node (o65 P) (.node (o129 P) .nil .nil) .nil) (.node (sb 7) .nil .nil)) (.node (o49 P) (.node (o81 P) .nil .nil) (.node (sb 23) .nil .nil))) (.node (o25 P) (.node (o41 P) (.node (o73 P) (.node (o137 P) .nil .nil) .nil) (.node (sb 15) .nil .nil)) (.node (o57 P) (.node o89 .nil .nil) (.node (sb 31) .nil .nil)))) (.node (o13 P) (.node (o21 P) (.node (o37 P) (.node (o69 P) (.node (o133 P) .nil .nil) .nil) (.node (sb 11) .nil .nil)) (.node (o53 P) (.node (o85 P) .nil .nil) (.node (sb 27) .nil .nil))) (.node (o29 P) (.node (o45 P) (.node (o77 P) (.node (o141 P) .nil .nil) .nil) (.node (sb 19) .nil .nil)) (.node (o61 P) (.node (sb 3) .nil .nil) (.node (sb 35) .nil .nil)))))) (.node (o2 P) (.node (o4 P) (.node (o8 P) (.node (o16 P) (.node (o32 P) (.node (o64 P) (.node (o128 P) .nil .nil) .nil) (.node (sb 6) .nil .nil)) (.node (o48 P) (.node (o80 P) .nil .nil) (.node (sb 22) .nil .nil))) (.node (o24 P) (.node (o40 P) (.node (o72 P) (.node (o136 P) .nil .nil) .nil) (.node (sb 14) .nil .nil)) (.node (o56 P) (.node (o88 P) .nil .nil) (.node (sb 30) .nil .nil)))) (.node (o12 33) (.node (o20 P) (.node (o36 P) (.node (o68 P) (.node (o132 P) .nil .nil) .nil) (.node (sb 10) .nil .nil)) (.node (o52 P) (.node (o84 P) .nil .nil) (.node (sb 26) .nil .nil))) (.node (o28 P) (.node (o44 P) (.node (o76 P) (.node (o140 P) .nil .nil) .nil) (.node (sb 18) .nil .nil)) (.node (o60 P) (.node (sb 2) .nil .nil) (.node (sb 34) .nil .nil))))) (.node (o6 P) (.node (o10 P) (.node (o18 P) (.node (o34 P) (.node (o66 P) (.node (o130 P) .nil .nil) .nil) (.node (sb 8) .nil .nil)) (.node (o50 P) (.node (o82 P) .nil .nil) (.node (sb 24) .nil .nil))) (.node (o26 P) (.node (o42 P) (.node (o74 P) (.node (o138 P) .nil .nil) .nil) (.node (sb 16) .nil .nil)) (.node (o58 P) (.node (sb 0) .nil .nil) (.node (sb 32) .nil .nil)))) (.node (o14 P) (.node (o22 P) (.node (o38 P) (.node (o70 P) (.node (o134 P) .nil .nil) .nil) (.node (sb 12) .nil .nil)) (.node (o54 P) (.node (o86 P) .nil .nil) (.node (sb 28) .nil .nil))) (.node (o30 P) (.node (o46 P) (.node (o78 P) .nil .nil) (.node (sb 20) .nil .nil)) (.node (o62 P) (.node (sb 4) .nil .nil) (.node (sb 36) .nil .nil)))))))
noncomputable def tr19 (P : Params) : BT := (.node (o0 P) (.node (o1 P) (.node (mObj P (.str (Str.ofString "law_ul0024_01") 2324) 23) (.node (o7 P) (.node (o15 P) (.node (o31 P) (.node (o63 P) (.node (sb 37) .nil .nil) .nil) (.node (sb 5) .nil .nil)) (.node (o47 P) (.node (o79 P) (.node (o143 P) .nil .nil) .nil) (.node (sb 21) .nil .nil))) (.node (o23 P) (.node (o39 P) (.node (o71 P) (.node (o135 P) .nil .nil) .nil) (.node (sb 13) .nil .nil)) (.node (o55 P) (.node (o87 P) .nil .nil) (.node (sb 29) .nil .nil)))) (.node (o11 P) (.node (o19 P) (.node (o35 P) (.node (o67 P) (.node (o131 P) .nil .nil) .nil) (.node (sb 9) .nil .nil)) (.node (o51 P) (.node (o83 P) (.node (o147 P) .nil .nil) .nil) (.node (sb 25) .nil .nil))) (.node (o27 P) (.node (o43 P) (.node (o75 P) (.node (o139 P) .nil .nil) .nil) (.node (sb 17) .nil .nil)) (.node (o59 P) (.node (sb 1) .nil .nil) (.node (sb 33) .nil .nil))))) (.node (o5 P) (.node (o9 P) (.node (o17 P) (.node (o33 P) (.node (o65 P) (.node (o129 P) .nil .nil) .nil) (.node (sb 7) .nil .nil)) (.node (o49 P) (.node (o81 P) (.node (o145 P) .nil .nil) .nil) (.node (sb 23) .nil .nil))) (.node (o25 P) (.node (o41 P) (.node (o73 P) (.node (o137 P) .nil .nil) .nil) (.node (sb 15) .nil .nil)) (.node (o57 P) (.node o89 .nil .nil) (.node (sb 31) .nil .nil)))) (.node (o13 P) (.node (o21 P) (.node (o37 P) (.node (o69 P) (.node (o133 P) .nil .nil) .nil) (.node (sb 11) .nil .nil)) (.node (o53 P) (.node (o85 P) .nil .nil) (.node (sb 27) .nil .nil))) (.node (o29 P) (.node (o45 P) (.node (o77 P) (.node (o141 P) .nil .nil) .nil) (.node (sb 19) .nil .nil)) (.node (o61 P) (.node (sb 3) .nil .nil) (.node (sb 35) .nil .nil)))))) (.node (o2 P) (.node (o4 P) (.node (o8 P) (.node (o16 P) (.node (o32 P) (.node (o64 P) (.node (o128 P) .nil .nil) .nil) (.node (sb 6) .nil .nil)) (.node (o48 P) (.node (o80 P) (.node (o144 P) .nil .nil) .nil) (.node (sb 22) .nil .nil))) (.node (o24 P) (.node (o40 P) (.node (o72 P) (.node (o136 P) .nil .nil) .nil) (.node (sb 14) .nil .nil)) (.node (o56 P) (.node (o88 P) .nil .nil) (.node (sb 30) .nil .nil)))) (.node (o12 36) (.node (o20 P) (.node (o36 P) (.node (o68 P) (.node (o132 P) .nil .nil) .nil) (.node (sb 10) .nil .nil)) (.node (o52 P) (.node (o84 P) (.node (o148 P) .nil .nil) .nil) (.node (sb 26) .nil .nil))) (.node (o28 P) (.node (o44 P) (.node (o76 P) (.node (o140 P) .nil .nil) .nil) (.node (sb 18) .nil .nil)) (.node (o60 P) (.node (sb 2) .nil .nil) (.node (sb 34) .nil .nil))))) (.node (o6 P) (.node (o10 P) (.node (o18 P) (.node (o34 P) (.node (o66 P) (.node (o130 P) .nil .nil) .nil) (.node (sb 8) .nil .nil)) (.node (o50 P) (.node (o82 P) (.node (o146 P) .nil .nil) .nil) (.node (sb 24) .nil .nil))) (.node (o26 P) (.node (o42 P) (.node (o74 P) (.node (o138 P) .nil .nil) .nil) (.node (sb 16) .nil .nil)) (.node (o58 P) (.node (sb 0) .nil .nil) (.node (sb 32) .nil .nil)))) (.node (o14 P) (.node (o22 P) (.node (o38 P) (.node (o70 P) (.node (o134 P) .nil .nil) .nil) (.node (sb 12) .nil .nil)) (.node (o54 P) (.node (o86 P) .nil .nil) (.node (sb 28) .nil .nil))) (.node (o30 P) (.node (o46 P) (.node (o78 P) (.node (o142 P) .nil .nil) .nil) (.node (sb 20) .nil .nil)) (.node (o62 P) (.node (sb 4) .nil .nil) (.node (sb 36) .nil .nil)))))))
noncomputable def tr20 (P : Params) : BT := (.node (o0 P) (.node (o1 P) (.node (mObj P (.str (Str.ofString "law_ul0024_01") 2324) 24) (.node (o7 P) (.node (o15 P) (.node (o31 P) (.node (o63 P) (.node (sb 37) .nil .nil) .nil) (.node (sb 5) .nil .nil)) (.node (o47 P) (.node (o79 P) (.node (o143 P) .nil .nil) .nil) (.node (sb 21) .nil .nil))) (.node (o23 P) (.node (o39 P) (.node (o71 P) (.node (o135 P) .nil .nil) .nil) (.node (sb 13) .nil .nil)) (.node (o55 P) (.node (o87 P) (.node (o151 P) .nil .nil) .nil) (.node (sb 29) .nil .nil)))) (.node (o11 P) (.node (o19 P) (.node (o35 P) (.node (o67 P) (.node (o131 P) .nil .nil) .nil) (.node (sb 9) .nil .nil)) (.node (o51 P) (.node (o83 P) (.node (o147 P) .nil .nil) .nil) (.node (sb 25) .nil .nil))) (.node (o27 P) (.node (o43 P) (.node (o75 P) (.node (o139 P) .nil .nil) .nil) (.node (sb 17) .nil .nil)) (.node (o59 P) (.node (sb 1) .nil .nil) (.node (sb 33) .nil .nil))))) (.node (o5 P) (.node (o9 P) (.node (o17 P) (.node (o33 P) (.node (o65 P) (.node (o129 P) .nil .nil) .nil) (.node (sb 7) .nil .nil)) (.node (o49 P) (.node (o81 P) (.node (o145 P) .nil .nil) .nil) (.node (sb 23) .nil .nil))) (.node (o25 P) (.node (o41 P) (.node (o73 P) (.node (o137 P) .nil .nil) .nil) (.node (sb 15) .nil .nil)) (.node (o57 P) (.node o89 (.node (o153 P) .nil .nil) .nil) (.node (sb 31) .nil .nil)))) (.node (o13 P) (.node (o21 P) (.node (o37 P) (.node (o69 P) (.node (o133 P) .nil .nil) .nil) (.node (sb 11) .nil .nil)) (.node (o53 P) (.node (o85 P) (.node (o149 P) .nil .nil) .nil) (.node (sb 27) .nil .nil))) (.node (o29 P) (.node (o45 P) (.node (o77 P) (.node (o141 P) .nil .nil) .nil) (.node (sb 19) .nil .nil)) (.node (o61 P) (.node (sb 3) .nil .nil) (.node (sb 35) .nil .nil)))))) (.node (o2 P) (.node (o4 P) (.node (o8 P) (.node (o16 P) (.node (o32 P) (.node (o64 P) (.node (o128 P) .nil .nil) .nil) (.node (sb 6) .nil .nil)) (.node (o48 P) (.node (o80 P) (.node (o144 P) .nil .nil) .nil) (.node (sb 22) .nil .nil))) (.node (o24 P) (.node (o40 P) (.node (o72 P) (.node (o136 P) .nil .nil) .nil) (.node (sb 14) .nil .nil)) (.node (o56 P) (.node (o88 P) (.node (o152 P) .nil .nil) .nil) (.node (sb 30) .nil .nil)))) (.node (o12 39) (.node (o20 P) (.node (o36 P) (.node (o68 P) (.node (o132 P) .nil .nil) .nil) (.node (sb 10) .nil .nil)) (.node (o52 P) (.node (o84 P) (.node (o148 P) .nil .nil) .nil) (.node (sb 26) .nil .nil))) (.node (o28 P) (.node (o44 P) (.node (o76 P) (.node (o140 P) .nil .nil) .nil) (.node (sb 18) .nil .nil)) (.node (o60 P) (.node (sb 2) .nil .nil) (.node (sb 34) .nil .nil))))) (.node (o6 P) (.node (o10 P) (.node (o18 P) (.node (o34 P) (.node (o66 P) (.node (o130 P) .nil .nil) .nil) (.node (sb 8) .nil .nil)) (.node (o50 P) (.node (o82 P) (.node (o146 P) .nil .nil) .nil) (.node (sb 24) .nil .nil))) (.node (o26 P) (.node (o42 P) (.node (o74 P) (.node (o138 P) .nil .nil) .nil) (.node (sb 16) .nil .nil)) (.node (o58 P) (.node (sb 0) .nil .nil) (.node (sb 32) .nil .nil)))) (.node (o14 P) (.node (o22 P) (.node (o38 P) (.node (o70 P) (.node (o134 P) .nil .nil) .nil) (.node (sb 12) .nil .nil)) (.node (o54 P) (.node (o86 P) (.node (o150 P) .nil .nil) .nil) (.node (sb 28) .nil .nil))) (.node (o30 P) (.node (o46 P) (.node (o78 P) (.node (o142 P) .nil .nil) .nil) (.node (sb 20) .nil .nil)) (.node (o62 P) (.node (sb 4) .nil .nil) (.node (sb 36) .nil .nil)))))))
noncomputable def tr21 (P : Params) : BT := (.node (o0 P) (.node (o1 P) (.node (mObj P (.str (Str.ofString "law_ul0024_01") 2324) 25) (.node (o7 P) (.node (o15 P) (.node (o31 P) (.node (o63 P) (.node (sb 37) .nil .nil) .nil) (.node (sb 5) .nil .nil)) (.node (o47 P) (.node (o79 P) (.node (o143 P) .nil .nil) .nil) (.node (sb 21) .nil .nil))) (.node (o23 P) (.node (o39 P) (.node (o71 P) (.node (o135 P) .nil .nil) .nil) (.node (sb 13) .nil .nil)) (.node (o55 P) (.node (o87 P) (.node (o151 P) .nil .nil) .nil) (.node (sb 29) .nil .nil)))) (.node (o11 P) (.node (o19 P) (.node (o35 P) (.node (o67 P) (.node (o131 P) .nil .nil) .nil) (.node (sb 9) .nil .nil)) (.node (o51 P) (.node (o83 P) (.node (o147 P) .nil .nil) .nil) (.node (sb 25) .nil .nil))) (.node (o27 P) (.node (o43 P) (.node (o75 P) (.node (o139 P) .nil .nil) .nil) (.node (sb 17) .nil .nil)) (.node (o59 P) (.node (sb 1) (.node (o155 P) .nil .nil) .nil) (.node (sb 33) .nil .nil))))) (.node (o5 P) (.node (o9 P) (.node (o17 P) (.node (o33 P) (.node (o65 P) (.node (o129 P) .nil .nil) .nil) (.node (sb 7) .nil .nil)) (.node (o49 P) (.node (o81 P) (.node (o145 P) .nil .nil) .nil) (.node (sb 23) .nil .nil))) (.node (o25 P) (.node (o41 P) (.node (o73 P) (.node (o137 P) .nil .nil) .nil) (.node (sb 15) .nil .nil)) (.node (o57 P) (.node o89 (.node (o153 P) .nil .nil) .nil) (.node (sb 31) .nil .nil)))) (.node (o13 P) (.node (o21 P) (.node (o37 P) (.node (o69 P) (.node (o133 P) .nil .nil) .nil) (.node (sb 11) .nil .nil)) (.node (o53 P) (.node (o85 P) (.node (o149 P) .nil .nil) .nil) (.node (sb 27) .nil .nil))) (.node (o29 P) (.node (o45 P) (.node (o77 P) (.node (o141 P) .nil .nil) .nil) (.node (sb 19) .nil .nil)) (.node (o61 P) (.node (sb 3) (.node (o157 P) .nil .nil) .nil) (.node (sb 35) .nil .nil)))))) (.node (o2 P) (.node (o4 P) (.node (o8 P) (.node (o16 P) (.node (o32 P) (.node (o64 P) (.node (o128 P) .nil .nil) .nil) (.node (sb 6) .nil .nil)) (.node (o48 P) (.node (o80 P) (.node (o144 P) .nil .nil) .nil) (.node (sb 22) .nil .nil))) (.node (o24 P) (.node (o40 P) (.node (o72 P) (.node (o136 P) .nil .nil) .nil) (.node (sb 14) .nil .nil)) (.node (o56 P) (.node (o88 P) (.node (o152 P) .nil .nil) .nil) (.node (sb 30) .nil .nil)))) (.node (o12 42) (.node (o20 P) (.node (o36 P) (.node (o68 P) (.node (o132 P) .nil .nil) .nil) (.node (sb 10) .nil .nil)) (.node (o52 P) (.node (o84 P) (.node (o148 P) .nil .nil) .nil) (.node (sb 26) .nil .nil))) (.node (o28 P) (.node (o44 P) (.node (o76 P) (.node (o140 P) .nil .nil) .nil) (.node (sb 18) .nil .nil)) (.node (o60 P) (.node (sb 2) (.node (o156 P) .nil .nil) .nil) (.node (sb 34) .nil .nil))))) (.node (o6 P) (.node (o10 P) (.node (o18 P) (.node (o34 P) (.node (o66 P) (.node (o130 P) .nil .nil) .nil) (.node (sb 8) .nil .nil)) (.node (o50 P) (.node (o82 P) (.node (o146 P) .nil .nil) .nil) (.node (sb 24) .nil .nil))) (.node (o26 P) (.node (o42 P) (.node (o74 P) (.node (o138 P) .nil .nil) .nil) (.node (sb 16) .nil .nil)) (.node (o58 P) (.node (sb 0) (.node (o154 P) .nil .nil) .nil) (.node (sb 32) .nil .nil)))) (.node (o14 P) (.node (o22 P) (.node (o38 P) (.node (o70 P) (.node (o134 P) .nil .nil) .nil) (.node (sb 12) .nil .nil)) (.node (o54 P) (.node (o86 P) (.node (o150 P) .nil .nil) .nil) (.node (sb 28) .nil .nil))) (.node (o30 P) (.node (o46 P) (.node (o78 P) (.node (o142 P) .nil .nil) .nil) (.node (sb 20) .nil .nil)) (.node (o62 P) (.node (sb 4) (.node (o158 P) .nil .nil) .nil) (.node (sb 36) .nil .nil)))))))
noncomputable def tr22 (P : Params) : BT := (.node (o0 P) (.node (o1 P) (.node (mObj P (.str (Str.ofString "law_ul0024_01") 2324) 26) (.node (o7 P) (.node (o15 P) (.node (o31 P) (.node (o63 P) (.node (sb 37) .nil .nil) .nil) (.node (sb 5) (.node (o159 P) .nil .nil) .nil)) (.node (o47 P) (.node (o79 P) (.node (o143 P) .nil .nil) .nil) (.node (sb 21) .nil .nil))) (.node (o23 P) (.node (o39 P) (.node (o71 P) (.node (o135 P) .nil .nil) .nil) (.node (sb 13) .nil .nil)) (.node (o55 P) (.node (o87 P) (.node (o151 P) .nil .nil) .nil) (.node (sb 29) .nil .nil)))) (.node (o11 P) (.node (o19 P) (.node (o35 P) (.node (o67 P) (.node (o131 P) .nil .nil) .nil) (.node (sb 9) (.node (o163 P) .nil .nil) .nil)) (.node (o51 P) (.node (o83 P) (.node (o147 P) .nil .nil) .nil) (.node (sb 25) .nil .nil))) (.node (o27 P) (.node (o43 P) (.node (o75 P) (.node (o139 P) .nil .nil) .nil) (.node (sb 17) .nil .nil)) (.node (o59 P) (.node (sb 1) (.node (o155 P) .nil .nil) .nil) (.node (sb 33) .nil .nil))))) (.node (o5 P) (.node (o9 P) (.node (o17 P) (.node (o33 P) (.node (o65 P) (.node (o129 P) .nil .nil) .nil) (.node (sb 7) (.node (o161 P) .nil .nil) .nil)) (.node (o49 P) (.node (o81 P) (.node (o145 P) .nil .nil) .nil) (.node (sb 23) .nil .nil))) (.node (o25 P) (.node (o41 P) (.node (o73 P) (.node (o137 P) .nil .nil) .nil) (.node (sb 15) .nil .nil)) (.node (o57 P) (.node o89 (.node (o153 P) .nil .nil) .nil) (.node (sb 31) .nil .nil)))) (.node (o13 P) (.node (o21 P) (.node (o37 P) (.node (o69 P) (.node (o133 P) .nil .nil) .nil) (.node (sb 11) (.node (o165 P) .nil .nil) .nil)) (.node (o53 P) (.node (o85 P) (.node (o149 P) .nil .nil) .nil) (.node (sb 27) .nil .nil))) (.node (o29 P) (.node (o45 P) (.node (o77 P) (.node (o141 P) .nil .nil) .nil) (.node (sb 19) .nil .nil)) (.node (o61 P) (.node (sb 3) (.node (o157 P) .nil .nil) .nil) (.node (sb 35) .nil .nil)))))) (.node (o2 P) (.node (o4 P) (.node (o8 P) (.node (o16 P) (.node (o32 P) (.node (o64 P) (.node (o128 P) .nil .nil) .nil) (.node (sb 6) (.node (o160 P) .nil .nil) .nil)) (.node (o48 P) (.node (o80 P) (.node (o144 P) .nil .nil) .nil) (.node (sb 22) .nil .nil))) (.node (o24 P) (.node (o40 P) (.node (o72 P) (.node (o136 P) .nil .nil) .nil) (.node (sb 14) .nil .nil)) (.node (o56 P) (.node (o88 P) (.node (o152 P) .nil .nil) .nil) (.node (sb 30) .nil .nil)))) (.node (o12 45) (.node (o20 P) (.node (o36 P) (.node (o68 P) (.node (o132 P) .nil .nil) .nil) (.node (sb 10) (.node (o164 P) .nil .nil) .nil)) (.node (o52 P) (.node (o84 P) (.node (o148 P) .nil .nil) .nil) (.node (sb 26) .nil .nil))) (.node (o28 P) (.node (o44 P) (.node (o76 P) (.node (o140 P) .nil .nil) .nil) (.node (sb 18) .nil .nil)) (.node (o60 P) (.node (sb 2) (.node (o156 P) .nil .nil) .nil) (.node (sb 34) .nil .nil))))) (.node (o6 P) (.node (o10 P) (.node (o18 P) (.node (o34 P) (.node (o66 P) (.node (o130 P) .nil .nil) .nil) (.node (sb 8) (.node (o162 P) .nil .nil) .nil)) (.node (o50 P) (.node (o82 P) (.node (o146 P) .nil .nil) .nil) (.node (sb 24) .nil .nil))) (.node (o26 P) (.node (o42 P) (.node (o74 P) (.node (o138 P) .nil .nil) .nil) (.node (sb 16) .nil .nil)) (.node (o58 P) (.node (sb 0) (.node (o154 P) .nil .nil) .nil) (.node (sb 32) .nil .nil)))) (.node (o14 P) (.node (o22 P) (.node (o38 P) (.node (o70 P) (.node (o134 P) .nil .nil) .nil) (.node (sb 12) .nil .nil)) (.node (o54 P) (.node (o86 P) (.node (o150 P) .nil .nil) .nil) (.node (sb 28) .nil .nil))) (.node (o30 P) (.node (o46 P) (.node (o78 P) (.node (o142 P) .nil .nil) .nil) (.node (sb 20) .nil .nil)) (.node (o62 P) (.node (sb 4) (.node (o158 P) .nil .nil) .nil) (.node (sb 36) .nil .nil)))))))
noncomputable def tr23 (P : Params) : BT := (.node (o0 P) (.node (o1 P) (.node (mObj P (.str (Str.ofString "law_ul0024_01") 2324) 27) (.node (o7 P) (.node (o15 P) (.node (o31 P) (.node (o63 P) (.node (sb 37) .nil .nil) .nil) (.node (sb 5) (.node (o159 P) .nil .nil) .nil)) (.node (o47 P) (.node (o79 P) (.node (o143 P) .nil .nil) .nil) (.node (sb 21) .nil .nil))) (.node (o23 P) (.node (o39 P) (.node (o71 P) (.node (o135 P) .nil .nil) .nil) (.node (sb 13) (.node (o167 P) .nil .nil) .nil)) (.node (o55 P) (.node (o87 P) (.node (o151 P) .nil .nil) .nil) (.node (sb 29) .nil .nil)))) (.node (o11 P) (.node (o19 P) (.node (o35 P) (.node (o67 P) (.node (o131 P) .nil .nil) .nil) (.node (sb 9) (.node (o163 P) .nil .nil) .nil)) (.node (o51 P) (.node (o83 P) (.node (o147 P) .nil .nil) .nil) (.node (sb 25) .nil .nil))) (.node (o27 P) (.node (o43 P) (.node (o75 P) (.node (o139 P) .nil .nil) .nil) (.node (sb 17) (.node (o171 P) .nil .nil) .nil)) (.node (o59 P) (.node (sb 1) (.node (o155 P) .nil .nil) .nil) (.node (sb 33) .nil .nil))))) (.node (o5 P) (.node (o9 P) (.node (o17 P) (.node (o33 P) (.node (o65 P) (.node (o129 P) .nil .nil) .nil) (.node (sb 7) (.node (o161 P) .nil .nil) .nil)) (.node (o49 P) (.node (o81 P) (.node (o145 P) .nil .nil) .nil) (.node (sb 23) .nil .nil))) (.node (o25 P) (.node (o41 P) (.node (o73 P) (.node (o137 P) .nil .nil) .nil) (.node (sb 15) (.node (o169 P) .nil .nil) .nil)) (.node (o57 P) (.node o89 (.node (o153 P) .nil .nil) .nil) (.node (sb 31) .nil .nil)))) (.node (o13 P) (.node (o21 P) (.node (o37 P) (.node (o69 P) (.node (o133 P) .nil .nil) .nil) (.node (sb 11) (.node (o165 P) .nil .nil) .nil)) (.node (o53 P) (.node (o85 P) (.node (o149 P) .nil .nil) .nil) (.node (sb 27) .nil .nil))) (.node (o29 P) (.node (o45 P) (.node (o77 P) (.node (o141 P) .nil .nil) .nil) (.node (sb 19) .nil .nil)) (.node (o61 P) (.node (sb 3) (.node (o157 P) .nil .nil) .nil) (.node (sb 35) .nil .nil)))))) (.node (o2 P) (.node (o4 P) (.node (o8 P) (.node (o16 P) (.node (o32 P) (.node (o64 P) (.node (o128 P) .nil .nil) .nil) (.node (sb 6) (.node (o160 P) .nil .nil) .nil)) (.node (o48 P) (.node (o80 P) (.node (o144 P) .nil .nil) .nil) (.node (sb 22) .nil .nil))) (.node (o24 P) (.node (o40 P) (.node (o72 P) (.node (o136 P) .nil .nil) .nil) (.node (sb 14) (.node (o168 P) .nil .nil) .nil)) (.node (o56 P) (.node (o88 P) (.node (o152 P) .nil .nil) .nil) (.node (sb 30) .nil .nil)))) (.node (o12 48) (.node (o20 P) (.node (o36 P) (.node (o68 P) (.node (o132 P) .nil .nil) .nil) (.node (sb 10) (.node (o164 P) .nil .nil) .nil)) (.node (o52 P) (.node (o84 P) (.node (o148 P) .nil .nil) .nil) (.node (sb 26) .nil .nil))) (.node (o28 P) (.node (o44 P) (.node (o76 P) (.node (o140 P) .nil .nil) .nil) (.node (sb 18) (.node (o172 P) .nil .nil) .nil)) (.node (o60 P) (.node (sb 2) (.node (o156 P) .nil .nil) .nil) (.node (sb 34) .nil .nil))))) (.node (o6 P) (.node (o10 P) (.node (o18 P) (.node (o34 P) (.node (o66 P) (.node (o130 P) .nil .nil) .nil) (.node (sb 8) (.node (o162 P) .nil .nil) .nil)) (.node (o50 P) (.node (o82 P) (.node (o146 P) .nil .nil) .nil) (.node (sb 24) .nil .nil))) (.node (o26 P) (.node (o42 P) (.node (o74 P) (.node (o138 P) .nil .nil) .nil) (.node (sb 16) (.node (o170 P) .nil .nil) .nil)) (.node (o58 P) (.node (sb 0) (.node (o154 P) .nil .nil) .nil) (.node (sb 32) .nil .nil)))) (.node (o14 P) (.node (o22 P) (.node (o38 P) (.node (o70 P) (.node (o134 P) .nil .nil) .nil) (.node (sb 12) (.node (o166 P) .nil .nil) .nil)) (.node (o54 P) (.node (o86 P) (.node (o150 P) .nil .nil) .nil) (.node (sb 28) .nil .nil))) (.node (o30 P) (.node (o46 P) (.node (o78 P) (.node (o142 P) .nil .nil) .nil) (.node (sb 20) .nil .nil)) (.node (o62 P) (.node (sb 4) (.node (o158 P) .nil .nil) .nil) (.node (sb 36) .nil .nil)))))))
noncomputable def tr24 (P : Params) : BT := (.node (o0 P) (.node (o1 P) (.node (mObj P (.str (Str.ofString "law_ul0024_01") 2324) 28) (.node (o7 P) (.node (o15 P) (.node (o31 P) (.node (o63 P) (.node (sb 37) .nil .nil) .nil) (.node (sb 5) (.node (o159 P) .nil .nil) .nil)) (.node (o47 P) (.node (o79 P) (.node (o143 P) .nil .nil) .nil) (.node (sb 21) (.node (o175 P) .nil .nil) .nil))) (.node (o23 P) (.node (o39 P) (.node (o71 P) (.node (o135 P) .nil .nil) .nil) (.node (sb 13) (.node (o167 P) .nil .nil) .nil)) (.node (o55 P) (.node (o87 P) (.node (o151 P) .nil .nil) .nil) (.node (sb 29) .nil .nil)))) (.node (o11 P) (.node (o19 P) (.node (o35 P) (.node (o67 P) (.node (o131 P) .nil .nil) .nil) (.node (sb 9) (.node (o163 P) .nil .nil) .nil)) (.node (o51 P) (.node (o83 P) (.node (o147 P) .nil .nil) .nil) (.node (sb 25) .nil .nil))) (.node (o27 P) (.node (o43 P) (.node (o75 P) (.node (o139 P) .nil .nil) .nil) (.node (sb 17) (.node (o171 P) .nil .nil) .nil)) (.node (o59 P) (.node (sb 1) (.node (o155 P) .nil .nil) .nil) (.node (sb 33) .nil .nil))))) (.node (o5 P) (.node (o9 P) (.node (o17 P) (.node (o33 P) (.node (o65 P) (.node (o129 P) .nil .nil) .nil) (.node (sb 7) (.node (o161 P) .nil .nil) .nil)) (.node (o49 P) (.node (o81 P) (.node (o145 P) .nil .nil) .nil) (.node (sb 23) (.node (o177 P) .nil .nil) .nil))) (.node (o25 P) (.node (o41 P) (.node (o73 P) (.node (o137 P) .nil .nil) .nil) (.node (sb 15) (.node (o169 P) .nil .nil) .nil)) (.node (o57 P) (.node o89 (.node (o153 P) .nil .nil) .nil) (.node (sb 31) .nil .nil)))) (.node (o13 P) (.node (o21 P) (.node (o37 P) (.node (o69 P) (.node (o133 P) .nil .nil) .nil) (.node (sb 11) (.node (o165 P) .nil .nil) .nil)) (.node (o53 P) (.node (o85 P) (.node (o149 P) .nil .nil) .nil) (.node (sb 27) .nil .nil))) (.node (o29 P) (.node (o45 P) (.node (o77 P) (.node (o141 P) .nil .nil) .nil) (.node (sb 19) (.node (o173 P) .nil .nil) .nil)) (.node (o61 P) (.node (sb 3) (.node (o157 P) .nil .nil) .nil) (.node (sb 35) .nil .nil)))))) (.node (o2 P) (.node (o4 P) (.node (o8 P) (.node (o16 P) (.node (o32 P) (.node (o64 P) (.node (o128 P) .nil .nil) .nil) (.node (sb 6) (.node (o160 P) .nil .nil) .nil)) (.node (o48 P) (.node (o80 P) (.node (o144 P) .nil .nil) .nil) (.node (sb 22) (.node (o176 P) .nil .nil) .nil))) (.node (o24 P) (.node (o40 P) (.node (o72 P) (.node (o136 P) .nil .nil) .nil) (.node (sb 14) (.node (o168 P) .nil .nil) .nil)) (.node (o56 P) (.node (o88 P) (.node (o152 P) .nil .nil) .nil) (.node (sb 30) .nil .nil)))) (.node (o12 51) (.node (o20 P) (.node (o36 P) (.node (o68 P) (.node (o132 P) .nil .nil) .nil) (.node (sb 10) (.node (o164 P) .nil .nil) .nil)) (.node (o52 P) (.node (o84 P) (.node (o148 P) .nil .nil) .nil) (.node (sb 26) .nil .nil))) (.node (o28 P) (.node (o44 P) (.node (o76 P) (.node (o140 P) .nil .nil) .nil) (.node (sb 18) (.node (o172 P) .nil .nil) .nil)) (.node (o60 P) (.node (sb 2) (.node (o156 P) .nil .nil) .nil) (.node (sb 34) .nil .nil))))) (.node (o6 P) (.node (o10 P) (.node (o18 P) (.node (o34 P) (.node (o66 P) (.node (o130 P) .nil .nil) .nil) (.node (sb 8) (.node (o162 P) .nil .nil) .nil)) (.node (o50 P) (.node (o82 P) (.node (o146 P) .nil .nil) .nil) (.node (sb 24) .nil .nil))) (.node (o26 P) (.node (o42 P) (.node (o74 P) (.node (o138 P) .nil .nil) .nil) (.node (sb 16) (.node (o170 P) .nil .nil) .nil)) (.node (o58 P) (.node (sb 0) (.node (o154 P) .nil .nil) .nil) (.node (sb 32) .nil .nil)))) (.node (o14 P) (.node (o22 P) (.node (o38 P) (.node (o70 P) (.node (o134 P) .nil .nil) .nil) (.node (sb 12) (.node (o166 P) .nil .nil) .nil)) (.node (o54 P) (.node (o86 P) (.node (o150 P) .nil .nil) .nil) (.node (sb 28) .nil .nil))) (.node (o30 P) (.node (o46 P) (.node (o78 P) (.node (o142 P) .nil .nil) .nil) (.node (sb 20) (.node (o174 P) .nil .nil) .nil)) (.node (o62 P) (.node (sb 4) (.node (o158 P) .nil .nil) .nil) (.node (sb 36) .nil .nil)))))))
noncomputable def env0 : Env := { scope := P0.main.scope, locals := mainNs, globals := mainNs, cells := [], code := .ref 13, frame := some 14 }
noncomputable abbrev bE : List Stmt := behindTheImports P0
noncomputable abbrev cE : Code := .body bE env0
noncomputable abbrev F0 : PySem.Frame := topFrame ⟨0, 0, 0, 0⟩
noncomputable abbrev S0 (w : World) (os : OsState) : SharedT := ⟨tr0 w.params, 15, {}, #[], {}, 187, os⟩
noncomputable abbrev S1 (w : World) (os : OsState) : SharedT := ⟨tr1 w.params, 15, {}, #[], {}, 189, os⟩
noncomputable abbrev S2 (w : World) (os : OsState) : SharedT := ⟨tr2 w.params, 22, {}, #[], {}, 197, os⟩
noncomputable abbrev S3 (w : World) (os : OsState) : SharedT := ⟨tr3 w.params, 29, {}, #[], {}, 207, os⟩
noncomputable abbrev S4 (w : World) (os : OsState) : SharedT := ⟨tr4 w.params, 29, {}, #[], {}, 209, os⟩
noncomputable abbrev S5 (w : World) (os : OsState) : SharedT := ⟨tr5 w.params, 29, {}, #[], {}, 211, os⟩
noncomputable abbrev S6 (w : World) (os : OsState) : SharedT := ⟨tr6 w.params, 36, {}, #[], {}, 228, os⟩
noncomputable abbrev S7 (w : World) (os : OsState) : SharedT := ⟨tr7 w.params, 43, {}, #[], {}, 242, os⟩
noncomputable abbrev S8 (w : World) (os : OsState) : SharedT := ⟨tr8 w.params, 50, {}, #[], {}, 253, os⟩
noncomputable abbrev S9 (w : World) (os : OsState) : SharedT := ⟨tr9 w.params, 57, {}, #[], {}, 264, os⟩
noncomputable abbrev S10 (w : World) (os : OsState) : SharedT := ⟨tr10 w.params, 64, {}, #[], {}, 279, os⟩
noncomputable abbrev S11 (w : World) (os : OsState) : SharedT := ⟨tr11 w.params, 71, {}, #[], {}, 289, os⟩
noncomputable abbrev S12 (w : World) (os : OsState) : SharedT := ⟨tr12 w.params, 71, {}, #[], {}, 291, os⟩
noncomputable abbrev S13 (w : World) (os : OsState) : SharedT := ⟨tr13 w.params, 82, {}, #[], {}, 351, os⟩
noncomputable abbrev S14 (w : World) (os : OsState) : SharedT := ⟨tr14 w.params, 89, {}, #[], {}, 358, os⟩
noncomputable abbrev S15 (w : World) (os : OsState) : SharedT := ⟨tr15 w.params, 128, {}, #[], {}, 2309, os⟩
noncomputable abbrev S16 (w : World) (os : OsState) : SharedT := ⟨tr16 w.params, 135, {}, #[], {}, 2317, os⟩
noncomputable abbrev S17 (w : World) (os : OsState) : SharedT := ⟨tr17 w.params, 142, {}, #[], {}, 2324, os⟩
noncomputable abbrev S18 (w : World) (os : OsState) : SharedT := ⟨tr18 w.params, 142, {}, #[], {}, 2326, os⟩
noncomputable abbrev S19 (w : World) (os : OsState) : SharedT := ⟨tr19 w.params, 149, {}, #[], {}, 2345, os⟩
noncomputable abbrev S20 (w : World) (os : OsState) : SharedT := ⟨tr20 w.params, 154, {}, #[], {}, 2351, os⟩
noncomputable abbrev S21 (w : World) (os : OsState) : SharedT := ⟨tr21 w.params, 159, {}, #[], {}, 2357, os⟩
noncomputable abbrev S22 (w : World) (os : OsState) : SharedT := ⟨tr22 w.params, 166, {}, #[], {}, 2368, os⟩
noncomputable abbrev S23 (w : World) (os : OsState) : SharedT := ⟨tr23 w.params, 173, {}, #[], {}, 2387, os⟩
noncomputable abbrev S24 (w : World) (os : OsState) : SharedT := ⟨tr24 w.params, 178, {}, #[], {}, 2393, os⟩
end
noncomputable def qv : Program := { P0 with main := { P0.main with body := [stAt 23] } }
def lv : List Str := ["_strcoll", "_strip_padding", "_DIV_LIMIT", "_div2n1n", "_div3n2n", "_int2digits", "_digits2int", "_divmod_pos", "int_divmod", "b1_set", "in_table_b1", "b3_exceptions", "map_table_b3", "in_table_c11", "_law_text", "_law_place", "_law_after", "_law_ahead", "_law_read"]
/-- what stands untouched by every call (the two code tables are left out) -/
noncomputable def KP (P : Params) : Frag := [(3, mObj P (.str (Str.ofString "law_ul0024_01") 2324) 28), (20, o20 P), (21, o21 P), (27, o27 P), (28, o28 P), (34, o34 P), (35, o35 P), (41, o41 P), (42, o42 P), (48, o48 P), (49, o49 P), (55, o55 P), (56, o56 P), (62, o62 P), (63, o63 P), (69, o69 P), (70, o70 P), (78, o78 P), (87, o87 P), (88, o88 P), (89, o89), (133, o133 P), (134, o134 P), (140, o140 P), (141, o141 P), (147, o147 P), (148, o148 P), (152, o152 P), (153, o153 P), (157, o157 P), (158, o158 P), (164, o164 P), (165, o165 P), (171, o171 P), (172, o172 P), (176, o176 P), (177, o177 P)]
structure Std (w : World) (mg mb : Str → Option Value) (h : Heap) : Prop where
  K : (KP w.params).In h
  g : h.Ns mainGlobals mg
  b : h.Ns builtinsNs mb
  nolimit : h.NoLimit
  builtins : ∀ x : Str, x ≠ "__name__" → mb x = bootBuiltins x
theorem Std.keeps {w : World} {mg mb : Str → Option Value} {h h' : Heap} (X : Std w mg mb h) (hk : ∀ b o, h.get? b = some o → h'.get? b = some o) : Std w mg mb h' :=
  ⟨X.K.keeps hk, X.g.keeps hk, X.b.keeps hk, X.nolimit.keeps hk, X.builtins⟩
theorem Std.fr {w : World} {mg mb m : Str → Option Value} {h₀ h : Heap} {L : Addr} (X : Std w mg mb h₀) (F : Fr h₀ L h m) : Std w mg mb h := X.keeps F.keep
def gl : List (Str × Value) := [("_strcoll", .ref 21), ("_strip_padding", .ref 28), ("_DIV_LIMIT", .int 4000 209), ("_div2n1n", .ref 35), ("_int2digits", .ref 49), ("_digits2int", .ref 56), ("_divmod_pos", .ref 63), ("int_divmod", .ref 70), ("b1_set", .ref 78), ("in_table_b1", .ref 88), ("b3_exceptions", .ref 89), ("map_table_b3", .ref 134), ("in_table_c11", .ref 141), ("_law_text", .ref 148), ("_law_place", .ref 153), ("_law_after", .ref 158), ("_law_ahead", .ref 165), ("_law_read", .ref 172), ("law", .ref 177)]
def bl : List (Str × Value) := [("len", .builtin "len"), ("range", .type "range"), ("min", .builtin "min"), ("list", .type "list"), ("sorted", .builtin "sorted"), ("reversed", .type "reversed"), ("divmod", .builtin "divmod"), ("ord", .builtin "ord"), ("chr", .builtin "chr"), ("isinstance", .builtin "isinstance"), ("bool", .type "bool")]
theorem lookup_in {α : Type} {l : List (Str × α)} {x : Str} {v : α} (e : l.lookup x = some v) : (x, v) ∈ l := by
  induction l with
  | nil => cases e
  | cons p r ih =>
    obtain ⟨y, u⟩ := p
    rw [List.lookup_cons] at e
    cases h : x == y with
    | true => rw [h] at e; cases e; rw [eq_of_beq h]; exact .head _
    | false => rw [h] at e; exact .tail _ (ih e)
theorem gl_all (w : World) : (gl.all fun p => nsIn (KP w.params) mainGlobals p.1 == some (some p.2)) = true := by kernel_rfl
theorem bl_all (w : World) : (bl.all fun p => nsIn (KP w.params) mainGlobals p.1 == some none && bootBuiltins p.1 == some p.2 && p.1 != "__name__") = true := by kernel_rfl
section
variable {w : World} {mg mb : Str → Option Value} {h₀ : Heap} {M : Model} {A : Around} {E : Value → Shared → Prop} {s : Shared} {L a : Addr} {m : Str → Option Value} {cn : Str} {cs : Scope} {ccd : Value} {x : Str} {pos : Pos} {v : Value} {Q : Value → Shared → Prop}
theorem Std.glob (X : Std w mg mb h₀) (e : gl.lookup x = some v) : mg x = some v := by
  have := List.all_eq_true.mp (gl_all w) (x, v) (lookup_in e)
  exact mg_of X.K X.g (beq_iff_eq.mp this)
theorem Std.blt (X : Std w mg mb h₀) (e : bl.lookup x = some v) : mg x = none ∧ mb x = some v := by
  have := List.all_eq_true.mp (bl_all w) (x, v) (lookup_in e)
  simp only [Bool.and_eq_true, beq_iff_eq, bne_iff_ne] at this
  exact ⟨mg_none_of X.K X.g this.1.1, (X.builtins x this.2).trans this.1.2⟩
theorem name_G (F : Fr h₀ L s.heap m) (X : Std w mg mb h₀) (e : gl.lookup x = some v) (h : Q v s)
    (hk : cs.kind = .function := by rfl) (hx : (envOf cn cs L a ccd).kindOf x = some .globalImplicit := by rfl) (hd : (x == ("__debug__" : Str)) = false := by decide) :
    wpAny M A (eval (.Name x pos) (envOf cn cs L a ccd)) Q E s := ld_global_at F X.g (X.glob e) h hk hx hd
theorem name_Bl (F : Fr h₀ L s.heap m) (X : Std w mg mb h₀) (e : bl.lookup x = some v) (h : Q v s)
    (hk : cs.kind = .function := by rfl) (hx : (envOf cn cs L a ccd).kindOf x = some .globalImplicit := by rfl) (hd : (x == ("__debug__" : Str)) = false := by decide) :
    wpAny M A (eval (.Name x pos) (envOf cn cs L a ccd)) Q E s := ld_builtin_at F X.g (X.blt e).1 X.b (X.blt e).2 h hk hx hd
end
/-- a heap that only grows -/
abbrev Ext (h h' : Heap) : Prop := ∀ b o, h.get? b = some o → h'.get? b = some o
theorem Fr.ext {h₀ h h' : Heap} {L : Addr} {m : Str → Option Value} (F : Fr h₀ L h m) (e : Ext h h') : Fr h₀ L h' m := ⟨F.ns.keeps e, fun b o q => e _ _ (F.keep b o q), F.above⟩
theorem News.ext {h₀ h h' : Heap} {L : Addr} {news : List (Addr × Obj)} (N : News h₀ L h news) (e : Ext h h') : News h₀ L h' news := fun p hp => ⟨e _ _ (N p hp).1, (N p hp).2⟩
theorem Fr.growth {h₀ h : Heap} {L : Addr} {m : Str → Option Value} (F : Fr h₀ L h m) : Ext h₀ h := F.keep
/-- the call of a def of the text, from its own frame on -/
theorem call_fn {w : World} {mg mb : Str → Option Value} {A : Around} {s : Shared} {Q E : Value → Shared → Prop} (i : Nat) {f c : Addr} {name : Str} {of oc : Obj} {pm doc : Value} {vs : Array Value} {t : Tok} {args : List Value} {binds : List (Str × Value)}
    (X : Std w mg mb s.heap) (hroom : A.depth < recursionLimit) (hf : (KP w.params).lookup f = some of) (hd : of.data = .func (Calls.docDef name (parOf i) (bodyOf i) (scOf i) pm (.ref c) doc))
    (hc : (KP w.params).lookup c = some oc) (hcd : oc.data = .fields vs) (hcn : vs[1]? = some (.str name t))
    (hbind : bindArgs (Calls.docDef name (parOf i) (bodyOf i) (scOf i) pm (.ref c) doc) ⟨args, []⟩ = pure binds)
    (hloc : ∀ x ∈ binds, (scOf i).names.lookup x.1 = some .local)
    (h : ∀ h₁, Fr s.heap s.heap.objs.size h₁ (fun x => binds.reverse.lookup x) →
      wpAny (model P0 w) (A.deeper (envOf name (scOf i) s.heap.objs.size f (.ref c))) (execs (bodyOf i) (envOf name (scOf i) s.heap.objs.size f (.ref c)))
        (fun fl s' => Q (match fl with | .ret v => v | _ => .none) s') (fun _ _ => False)
        { s with heap := h₁, toks := s.toks + binds.length })
    (hco : (scOf i).isCoroutine = false := by rfl) (hgen : (scOf i).isGenerator = false := by rfl) (hk : (scOf i).kind = .function := by rfl)
    (hcell : ∀ x ∈ (scOf i).names, x.2 ≠ .cell := by decide) :
    wpAny (model P0 w) A (call (.ref f) args) Q E s :=
  wpAny_call (call_plain_ret hroom (X.K _ _ hf) hd X.nolimit ⟨c, oc, vs, t, rfl, X.K _ _ hc, hcd, hcn⟩ hbind hloc (fun h₁ F => wpAny_mono (h h₁ F) (fun _ _ x => x) fun _ _ x => x) hco hgen hk hcell)
theorem pc0 (w : World) (os : OsState) : segRunT treeTable P0 w 11 (some (.ref 6)) 1 10 (S0 w os) (piecesOf [stAt 0] env0 cE ⟨0, 0, 0, 0⟩ [F0]) = some (.next, S1 w os, cE, ⟨1, 0, 1, 8⟩) := by kernel_rfl
theorem pc1 (w : World) (os : OsState) : segRunT treeTable P0 w 11 (some (.ref 6)) 1 31 (S1 w os) (piecesOf [stAt 1] env0 cE ⟨1, 0, 1, 8⟩ [F0]) = some (.next, S2 w os, cE, ⟨2, 0, 3, 28⟩) := by kernel_rfl
theorem pc2 (w : World) (os : OsState) : segRunT treeTable P0 w 11 (some (.ref 6)) 1 33 (S2 w os) (piecesOf [stAt 2] env0 cE ⟨2, 0, 3, 28⟩ [F0]) = some (.next, S3 w os, cE, ⟨4, 0, 13, 27⟩) := by kernel_rfl
theorem pc3 (w : World) (os : OsState) : segRunT treeTable P0 w 11 (some (.ref 6)) 1 10 (S3 w os) (piecesOf [stAt 3] env0 cE ⟨4, 0, 13, 27⟩ [F0]) = some (.next, S4 w os, cE, ⟨14, 0, 14, 8⟩) := by kernel_rfl
theorem pc4 (w : World) (os : OsState) : segRunT treeTable P0 w 11 (some (.ref 6)) 1 10 (S4 w os) (piecesOf [stAt 4] env0 cE ⟨14, 0, 14, 8⟩ [F0]) = some (.next, S5 w os, cE, ⟨15, 0, 15, 10⟩) := by kernel_rfl
theorem pc5 (w : World) (os : OsState) : segRunT treeTable P0 w 11 (some (.ref 6)) 1 40 (S5 w os) (piecesOf [stAt 5] env0 cE ⟨15, 0, 15, 10⟩ [F0]) = some (.next, S6 w os, cE, ⟨16, 0, 31, 33⟩) := by kernel_rfl
theorem pc6 (w : World) (os : OsState) : segRunT treeTable P0 w 11 (some (.ref 6)) 1 37 (S6 w os) (piecesOf [stAt 6] env0 cE ⟨16, 0, 31, 33⟩ [F0]) = some (.next, S7 w os, cE, ⟨32, 0, 41, 17⟩) := by kernel_rfl
theorem pc7 (w : World) (os : OsState) : segRunT treeTable P0 w 11 (some (.ref 6)) 1 34 (S7 w os) (piecesOf [stAt 7] env0 cE ⟨32, 0, 41, 17⟩ [F0]) = some (.next, S8 w os, cE, ⟨42, 0, 57, 19⟩) := by kernel_rfl
theorem pc8 (w : World) (os : OsState) : segRunT treeTable P0 w 11 (some (.ref 6)) 1 34 (S8 w os) (piecesOf [stAt 8] env0 cE ⟨42, 0, 57, 19⟩ [F0]) = some (.next, S9 w os, cE, ⟨58, 0, 66, 49⟩) := by kernel_rfl
theorem pc9 (w : World) (os : OsState) : segRunT treeTable P0 w 11 (some (.ref 6)) 1 38 (S9 w os) (piecesOf [stAt 9] env0 cE ⟨58, 0, 66, 49⟩ [F0]) = some (.next, S10 w os, cE, ⟨67, 0, 77, 17⟩) := by kernel_rfl
theorem pc10 (w : World) (os : OsState) : segRunT treeTable P0 w 11 (some (.ref 6)) 1 33 (S10 w os) (piecesOf [stAt 10] env0 cE ⟨67, 0, 77, 17⟩ [F0]) = some (.next, S11 w os, cE, ⟨78, 0, 88, 32⟩) := by kernel_rfl
theorem pc11 (w : World) (os : OsState) : segRunT treeTable P0 w 11 (some (.ref 6)) 1 10 (S11 w os) (piecesOf [stAt 11] env0 cE ⟨78, 0, 88, 32⟩ [F0]) = some (.next, S12 w os, cE, ⟨89, 0, 89, 8⟩) := by kernel_rfl
theorem pc13 (w : World) (os : OsState) : segRunT treeTable P0 w 11 (some (.ref 6)) 1 30 (S13 w os) (piecesOf [stAt 13] env0 cE ⟨90, 0, 90, 6⟩ [F0]) = some (.next, S14 w os, cE, ⟨91, 0, 92, 30⟩) := by kernel_rfl
theorem pc15 (w : World) (os : OsState) : segRunT treeTable P0 w 11 (some (.ref 6)) 1 31 (S15 w os) (piecesOf [stAt 15] env0 cE ⟨93, 0, 93, 13⟩ [F0]) = some (.next, S16 w os, cE, ⟨94, 0, 98, 23⟩) := by kernel_rfl
theorem pc16 (w : World) (os : OsState) : segRunT treeTable P0 w 11 (some (.ref 6)) 1 30 (S16 w os) (piecesOf [stAt 16] env0 cE ⟨94, 0, 98, 23⟩ [F0]) = some (.next, S17 w os, cE, ⟨99, 0, 100, 22⟩) := by kernel_rfl
theorem pc17 (w : World) (os : OsState) : segRunT treeTable P0 w 11 (some (.ref 6)) 1 10 (S17 w os) (piecesOf [stAt 17] env0 cE ⟨99, 0, 100, 22⟩ [F0]) = some (.next, S18 w os, cE, ⟨101, 0, 101, 8⟩) := by kernel_rfl
theorem pc18 (w : World) (os : OsState) : segRunT treeTable P0 w 11 (some (.ref 6)) 1 42 (S18 w os) (piecesOf [stAt 18] env0 cE ⟨101, 0, 101, 8⟩ [F0]) = some (.next, S19 w os, cE, ⟨102, 0, 133, 25⟩) := by kernel_rfl
theorem pc19 (w : World) (os : OsState) : segRunT treeTable P0 w 11 (some (.ref 6)) 1 27 (S19 w os) (piecesOf [stAt 19] env0 cE ⟨102, 0, 133, 25⟩ [F0]) = some (.next, S20 w os, cE, ⟨134, 0, 141, 24⟩) := by kernel_rfl
theorem pc20 (w : World) (os : OsState) : segRunT treeTable P0 w 11 (some (.ref 6)) 1 27 (S20 w os) (piecesOf [stAt 20] env0 cE ⟨134, 0, 141, 24⟩ [F0]) = some (.next, S21 w os, cE, ⟨142, 0, 149, 32⟩) := by kernel_rfl
theorem pc21 (w : World) (os : OsState) : segRunT treeTable P0 w 11 (some (.ref 6)) 1 34 (S21 w os) (piecesOf [stAt 21] env0 cE ⟨142, 0, 149, 32⟩ [F0]) = some (.next, S22 w os, cE, ⟨150, 0, 156, 16⟩) := by kernel_rfl
theorem pc22 (w : World) (os : OsState) : segRunT treeTable P0 w 11 (some (.ref 6)) 1 42 (S22 w os) (piecesOf [stAt 22] env0 cE ⟨150, 0, 156, 16⟩ [F0]) = some (.next, S23 w os, cE, ⟨157, 0, 176, 15⟩) := by kernel_rfl
theorem pc23 (w : World) (os : OsState) : segRunT treeTable P0 w 11 (some (.ref 6)) 1 27 (S23 w os) (piecesOf [stAt 23] env0 cE ⟨157, 0, 176, 15⟩ [F0]) = some (.next, S24 w os, cE, ⟨177, 0, 205, 15⟩) := by kernel_rfl
abbrev PC12 (w : World) (os : OsState) : Prop :=
  PySem.W.Fast.tw10110043849684766642 PySem.W.Fast.tw14364793385576792824 P0 w 11 (some (.ref 6)) 1 999 (S12 w os) (piecesOf [stAt 12] env0 cE ⟨89, 0, 89, 8⟩ [F0]) = some (.next, S13 w os, cE, ⟨90, 0, 90, 6⟩)
theorem pc12_ff (os : OsState) (w : World) : PC12 ((w.withFollow "special-get-raises" false).withFollow "set-order" false) os := by kernel_rfl
theorem pc12_ft (os : OsState) (w : World) : PC12 ((w.withFollow "special-get-raises" true).withFollow "set-order" false) os := by kernel_rfl
theorem pc12_tf (os : OsState) (w : World) : PC12 ((w.withFollow "special-get-raises" false).withFollow "set-order" true) os := by kernel_rfl
theorem pc12_tt (os : OsState) (w : World) : PC12 ((w.withFollow "special-get-raises" true).withFollow "set-order" true) os := by kernel_rfl
theorem pc12 (w : World) (os : OsState) : segRunT treeTable P0 w 11 (some (.ref 6)) 1 999 (S12 w os) (piecesOf [stAt 12] env0 cE ⟨89, 0, 89, 8⟩ [F0]) = some (.next, S13 w os, cE, ⟨90, 0, 90, 6⟩) := by
  rw [PySem.W.Fast.te10110043849684766642, PySem.W.Fast.te14364793385576792824]
  exact byRow2 "set-order" (P := fun w => PC12 w os)
    (fun w => byRow2 "special-get-raises" (P := fun w => PC12 (w.withFollow "set-order" false) os) (pc12_ff os) (pc12_ft os) w)
    (fun w => byRow2 "special-get-raises" (P := fun w => PC12 (w.withFollow "set-order" true) os) (pc12_tf os) (pc12_tt os) w) w
abbrev En6 := Int × Nat × Pos × Str × Nat × Pos
noncomputable def b3X : List En6 := (b3D.1.zip b3D.2.1).filterMap fun x => match x with
  | (some (.Constant (.int k) a p), .Constant (.str s) b q) => some (k, a, p, s, b, q)
  | _ => none
theorem b3_keys : b3D.1 = b3X.map fun x => some (.Constant (.int x.1) x.2.1 x.2.2.1) := by kernel_rfl
theorem b3_vals : b3D.2.1 = b3X.map fun x => .Constant (.str x.2.2.2.1) x.2.2.2.2.1 x.2.2.2.2.2 := by kernel_rfl
theorem b3_es : b3E = b3X.map fun x => (x.1, x.2.2.2.1) := by kernel_rfl
theorem b3_len : b3E.length = 650 := by kernel_rfl
def inc : List En → Bool
  | a :: b :: r => decide (a.1 < b.1) && inc (b :: r)
  | _ => true
theorem b3_inc : inc b3E = true := by kernel_rfl
theorem b3_small : (b3E.all fun e => decide (0 ≤ e.1) && decide (e.1 < 2000000)) = true := by kernel_rfl
theorem inc_head : ∀ {l : List En} {a : En}, inc (a :: l) = true → ∀ b ∈ l, a.1 < b.1
  | [], _, _, _, hb => nomatch hb
  | c :: r, a, h, b, hb => by
    simp only [inc, Bool.and_eq_true, decide_eq_true_eq] at h
    rcases List.mem_cons.mp hb with rfl | hb
    · exact h.1
    · exact Int.lt_trans h.1 (inc_head h.2 b hb)
theorem inc_tail : ∀ {l : List En} {a : En}, inc (a :: l) = true → inc l = true
  | [], _, _ => rfl
  | c :: r, a, h => by simp only [inc, Bool.and_eq_true] at h; exact h.2
theorem inc_pairwise : ∀ {l : List En}, inc l = true → l.Pairwise fun a b => a.1 < b.1
  | [], _ => .nil
  | a :: r, h => .cons (inc_head h) (inc_pairwise (inc_tail h))
theorem hashInt_small {k : Int} (h0 : 0 ≤ k) (h1 : k < 2000000) : hashInt k = k := by
  have hr : rawHash k = k := by
    unfold rawHash
    have h2 : ¬ (k < 0) := by omega
    have h3 : ((k.natAbs : Int) % ((2 ^ 61 - 1 : Nat) : Int)) = k := by
      rw [show ((2 ^ 61 - 1 : Nat) : Int) = 2305843009213693951 by decide, Int.emod_eq_of_lt (by omega) (by omega)]
      omega
    rw [h3]
    simp only [h2, if_false]
    have h4 : (k == -1) = false := by rw [beq_eq_false_iff_ne]; omega
    simp [h4]
  unfold hashInt
  rw [hr]
  have h4 : (k == -1) = false := by rw [beq_eq_false_iff_ne]; omega
  simp [h4]
theorem b3_mem_small {e : En} (h : e ∈ b3E) : hashInt e.1 = e.1 := by
  have := List.all_eq_true.mp b3_small e h
  simp only [Bool.and_eq_true, decide_eq_true_eq] at this
  exact hashInt_small this.1 this.2
theorem b3_hashes : (b3E.map fun e => hashInt e.1) = b3E.map (·.1) := List.map_congr_left fun e he => b3_mem_small he
theorem b3_dist : Dist [] b3E := by
  unfold Dist
  rw [List.map_nil, List.nil_append, b3_hashes, List.pairwise_map]
  exact (inc_pairwise b3_inc).imp fun h => Int.ne_of_lt h
theorem chunks_flatten : ∀ (n : Nat) (l : List En), (chunks n l).flatten = l.take (17 * n)
  | 0, l => by simp [chunks]
  | n + 1, l => by
    rw [chunks, List.flatten_cons, chunks_flatten n, show 17 * (n + 1) = 17 + 17 * n by omega, List.take_add]
theorem chunks_len : ∀ (n : Nat) (l : List En), 17 * n ≤ l.length → ∀ c ∈ chunks n l, c.length = 17
  | 0, l, _, c, hc => nomatch hc
  | n + 1, l, h, c, hc => by
    rcases List.mem_cons.mp hc with rfl | hc
    · rw [List.length_take]; omega
    · exact chunks_len n (l.drop 17) (by rw [List.length_drop]; omega) c hc
theorem b3_parts : b3F ++ (b3C.flatten ++ b3L) = b3E := by
  unfold b3F b3C b3L
  rw [chunks_flatten, show (646 : Nat) = 17 + 629 by rfl, ← List.drop_drop, List.take_append_drop, List.take_append_drop]
theorem b3C_len : ∀ c ∈ b3C, c.length = 17 := chunks_len 37 _ (by rw [List.length_drop, b3_len]; omega)
theorem b3C_size : b3C.length = 37 := by
  have : ∀ (n : Nat) (l : List En), (chunks n l).length = n := fun n => by induction n with
    | zero => intro l; rfl
    | succ n ih => intro l; simp [chunks, ih]
  exact this _ _
theorem b3_items (pos : Pos) (env : Env) : (evalEachOpt b3D.1 env).zip ((evalEach b3D.2.1 env).map fun v => do let x ← v; standAt pos; pure x) = (b3E.map (onePair pos)).map fun x => (some x.1, x.2) := by
  rw [b3_keys, b3_vals, b3_es]
  generalize b3X = l
  induction l with
  | nil => rfl
  | cons x r ih =>
    simp only [List.map_cons]
    show (some (eval (.Constant (.int x.1) x.2.1 x.2.2.1) env), _) :: _ = _
    exact congrArg (List.cons _) ih
noncomputable def tg14 : List Expr := match stAt 14 with
  | .Assign t _ _ => t
  | _ => []
noncomputable def po14 : Pos := match stAt 14 with
  | .Assign _ _ q => q
  | _ => default
theorem st14_eq : stAt 14 = .Assign tg14 (.Dict b3D.1 b3D.2.1 b3D.2.2) po14 := by kernel_rfl
theorem swaps14 : swapsWithSole tg14 (.Dict b3D.1 b3D.2.1 b3D.2.2) po14.line env0 = pure false := by kernel_rfl
noncomputable def rest14 (v : Value) : Sem Flow := do assignStores env0 v (← swappedStores tg14 (.Dict b3D.1 b3D.2.1 b3D.2.2) env0) ((assignEach tg14 env0).map (·.2))
theorem exec14 : exec (stAt 14) env0 = (standAt po14 >>= fun _ => eval (.Dict b3D.1 b3D.2.1 b3D.2.2) env0) >>= rest14 := by
  rw [st14_eq, arm_exec_Assign, swaps14]
  simp only [pure_bind, bind_assoc, Bool.false_eq_true, if_false]
  rfl
noncomputable abbrev S14a (w : World) (os : OsState) : SharedT := ⟨tr14a w.params, 128, {}, #[], {}, 2308, os⟩
theorem subs_len : subsL.length = 38 := by
  have : ∀ (cs : List (List En)) (T : Nat), (subsOf T cs).length = cs.length := fun cs => by induction cs with
    | nil => intro T; rfl
    | cons c r ih => intro T; simp [subsOf, ih]
  unfold subsL
  rw [List.length_append, this, b3C_size]; rfl
theorem list_getD {α : Type} (d : α) (l : List α) : l = (List.range l.length).map fun i => l.getD i d := by
  apply List.ext_getElem
  · simp
  · intro i h1 h2
    simp at h2
    simp [h2]
theorem subs_eq : subsL = (List.range 38).map sb := by
  have := list_getD default subsL
  rw [subs_len] at this
  exact this
theorem heap14_list (P : Params) : (tr14 P).list 89 ++ (o89 :: (List.range 38).map sb) = (tr14a P).list 128 := by kernel_rfl
theorem heap14 (P : Params) : HH (absHeap (tr14 P) 89 {}) o89 subsL = absHeap (tr14a P) 128 {} := by
  unfold HH absHeap
  rw [← heap14_list, ← subs_eq, List.append_toArray]
theorem tail14 (w : World) (os : OsState) (K : Flow → Sem Fin) (hK : K = fun f => match f with | .next => doneF .next | f => doneF f) : segRunT treeTable P0 w 11 (some (.ref 6)) 1 100 (S14a w os) ⟨(rest14 (.ref 89)).wrap K deadEnd id id, cE, b3D.2.2, [F0]⟩ = some (.next, S15 w os, cE, ⟨93, 0, 93, 13⟩) := by
  subst hK
  kernel_rfl
theorem goes14 (w : World) (os : OsState) : Goes P0 w 11 (some (.ref 6)) cE F0 40000 (standAt po14 >>= fun _ => eval (.Dict b3D.1 b3D.2.1 b3D.2.2) env0) (S14 w os).abs ⟨91, 0, 92, 30⟩ (.ref 89) (S14a w os).abs b3D.2.2 := by
  have hb : (absHeap (tr14 w.params) 89 {}).objs.size = 89 := absHeap_size _ _ _
  have hl : b3F.length = 17 := by unfold b3F; rw [List.length_take, b3_len]; rfl
  have hL : b3L.length = 4 := by unfold b3L; rw [List.length_drop, b3_len]
  have D := b3_dist
  rw [← b3_parts] at D
  have hz : (b3F ++ (b3C.flatten ++ b3L)).length = 650 := by rw [b3_parts, b3_len]
  have g := goes_display (p := P0) (w := w) (n₀ := 11) (ann := some (.ref 6)) (bd := bE) (env := env0) (F := F0) (gens := #[]) (drawn := {}) (os := os) (hb := absHeap (tr14 w.params) 89 {}) (pos := b3D.2.2) (by rw [hb]; omega) (by rw [hb]; omega)
    (first := b3F) (last := b3L) (cs := b3C) (T := 358) (q := b3D.2.2) hl b3C_len (by omega) (by rintro e; rw [e] at hL; cases hL) D (by omega)
  rw [hb, hz, b3_parts, b3C_size] at g
  have e := heap14 w.params
  unfold o89 b3Ents subsL at e
  rw [e] at g
  refine goes_le (b := 1 + (1 + 39000)) ?_ (by omega)
  refine goes_bind (b := 1) goes_at ?_
  rw [arm_eval_Dict, b3_items]
  exact goes_bind (b := 1) goes_at g
theorem pc14 (w : World) (os : OsState) : ∃ n, n ≤ 40100 ∧ segRun treeTable P0 w 11 (some (.ref 6)) 1 n (S14 w os).abs (piecesOf [stAt 14] env0 cE ⟨91, 0, 92, 30⟩ [F0]) = some (.next, (S15 w os).abs, cE, ⟨93, 0, 93, 13⟩) := by
  obtain ⟨n, hn, e⟩ := goes14 w os (fun v => (rest14 v).wrap (fun f => match f with | .next => doneF .next | f => doneF f) deadEnd id id) deadEnd (fun g => id (id g)) (fun l => id (id l))
  refine ⟨n + 100, by omega, ?_⟩
  have t := segRun_of (tail14 w os _ rfl)
  have := seg_go e t
  have ew : piecesOf [stAt 14] env0 cE ⟨91, 0, 92, 30⟩ [F0] = ⟨(standAt po14 >>= fun _ => eval (.Dict b3D.1 b3D.2.1 b3D.2.2) env0).wrap (fun v => (rest14 v).wrap (fun f => match f with | .next => doneF .next | f => doneF f) deadEnd id id) deadEnd (fun g => id (id g)) (fun l => id (id l)), cE, ⟨91, 0, 92, 30⟩, [F0]⟩ := by
    unfold piecesOf
    rw [execs_cons_wrap, exec14, Sem.bind_eq_wrap', Sem.wrap_wrap]
    rfl
  rw [ew]
  exact this
theorem pre0 (w : World) (os : OsState) : topGo treeTable P0 w 11 (some (.ref 6)) 12 ⟨boot_heap w.params, Array.mk [], boot_drawn, boot_toks, os⟩ (topStub P0) = some ((S0 w os).abs, ⟨denote treeTable cE, cE, ⟨0, 0, 0, 0⟩, [F0]⟩) := by kernel_rfl
theorem block0 (w : World) (os : OsState) : segRun treeTable P0 w 11 (some (.ref 6)) 1 1 (S0 w os).abs (blockOf bE env0 cE ⟨0, 0, 0, 0⟩ [F0]) = some (.next, (S0 w os).abs, cE, ⟨0, 0, 0, 0⟩) := by kernel_rfl
noncomputable def rs : Nat → Nat → List Stmt
  | _, 0 => []
  | k, n + 1 => [stAt k] ++ rs (k + 1) n
theorem bE_rs : bE = rs 0 24 := by kernel_rfl
theorem fin0 (w : World) (os : OsState) : topRun treeTable P0 w 11 (some (.ref 6)) 2 (S24 w os).abs ⟨doneF .next, cE, ⟨177, 0, 205, 15⟩, [F0]⟩ = some (S24 w os).abs := by kernel_rfl
theorem r24 (w : World) (os : OsState) : topRun treeTable P0 w 11 (some (.ref 6)) 2 (S24 w os).abs (restOf (rs 24 0) env0 cE ⟨177, 0, 205, 15⟩ [F0]) = some (S24 w os).abs := piece_nil (fin0 w os)
theorem r23 (w : World) (os : OsState) : topRun treeTable P0 w 11 (some (.ref 6)) 29 (S23 w os).abs (restOf (rs 23 1) env0 cE ⟨157, 0, 176, 15⟩ [F0]) = some (S24 w os).abs := piece_app (n := 27) (N := 2) (segRun_of (pc23 w os)) (r24 w os)
theorem r22 (w : World) (os : OsState) : topRun treeTable P0 w 11 (some (.ref 6)) 71 (S22 w os).abs (restOf (rs 22 2) env0 cE ⟨150, 0, 156, 16⟩ [F0]) = some (S24 w os).abs := piece_app (n := 42) (N := 29) (segRun_of (pc22 w os)) (r23 w os)
theorem r21 (w : World) (os : OsState) : topRun treeTable P0 w 11 (some (.ref 6)) 105 (S21 w os).abs (restOf (rs 21 3) env0 cE ⟨142, 0, 149, 32⟩ [F0]) = some (S24 w os).abs := piece_app (n := 34) (N := 71) (segRun_of (pc21 w os)) (r22 w os)
theorem r20 (w : World) (os : OsState) : topRun treeTable P0 w 11 (some (.ref 6)) 132 (S20 w os).abs (restOf (rs 20 4) env0 cE ⟨134, 0, 141, 24⟩ [F0]) = some (S24 w os).abs := piece_app (n := 27) (N := 105) (segRun_of (pc20 w os)) (r21 w os)
theorem r19 (w : World) (os : OsState) : topRun treeTable P0 w 11 (some (.ref 6)) 159 (S19 w os).abs (restOf (rs 19 5) env0 cE ⟨102, 0, 133, 25⟩ [F0]) = some (S24 w os).abs := piece_app (n := 27) (N := 132) (segRun_of (pc19 w os)) (r20 w os)
theorem r18 (w : World) (os : OsState) : topRun treeTable P0 w 11 (some (.ref 6)) 201 (S18 w os).abs (restOf (rs 18 6) env0 cE ⟨101, 0, 101, 8⟩ [F0]) = some (S24 w os).abs := piece_app (n := 42) (N := 159) (segRun_of (pc18 w os)) (r19 w os)
theorem r17 (w : World) (os : OsState) : topRun treeTable P0 w 11 (some (.ref 6)) 211 (S17 w os).abs (restOf (rs 17 7) env0 cE ⟨99, 0, 100, 22⟩ [F0]) = some (S24 w os).abs := piece_app (n := 10) (N := 201) (segRun_of (pc17 w os)) (r18 w os)
theorem r16 (w : World) (os : OsState) : topRun treeTable P0 w 11 (some (.ref 6)) 241 (S16 w os).abs (restOf (rs 16 8) env0 cE ⟨94, 0, 98, 23⟩ [F0]) = some (S24 w os).abs := piece_app (n := 30) (N := 211) (segRun_of (pc16 w os)) (r17 w os)
theorem r15 (w : World) (os : OsState) : topRun treeTable P0 w 11 (some (.ref 6)) 272 (S15 w os).abs (restOf (rs 15 9) env0 cE ⟨93, 0, 93, 13⟩ [F0]) = some (S24 w os).abs := piece_app (n := 31) (N := 241) (segRun_of (pc15 w os)) (r16 w os)
theorem r14 (w : World) (os : OsState) : topRun treeTable P0 w 11 (some (.ref 6)) 40372 (S14 w os).abs (restOf (rs 14 10) env0 cE ⟨91, 0, 92, 30⟩ [F0]) = some (S24 w os).abs := by
  obtain ⟨n, hn, e⟩ := pc14 w os
  have := topRun_mono (40100 - n) _ _ _ _ (piece_app e (r15 w os))
  rw [show n + 272 + (40100 - n) = 40372 by omega] at this
  exact this
theorem r13 (w : World) (os : OsState) : topRun treeTable P0 w 11 (some (.ref 6)) 40402 (S13 w os).abs (restOf (rs 13 11) env0 cE ⟨90, 0, 90, 6⟩ [F0]) = some (S24 w os).abs := piece_app (n := 30) (N := 40372) (segRun_of (pc13 w os)) (r14 w os)
theorem r12 (w : World) (os : OsState) : topRun treeTable P0 w 11 (some (.ref 6)) 41401 (S12 w os).abs (restOf (rs 12 12) env0 cE ⟨89, 0, 89, 8⟩ [F0]) = some (S24 w os).abs := piece_app (n := 999) (N := 40402) (segRun_of (pc12 w os)) (r13 w os)
theorem r11 (w : World) (os : OsState) : topRun treeTable P0 w 11 (some (.ref 6)) 41411 (S11 w os).abs (restOf (rs 11 13) env0 cE ⟨78, 0, 88, 32⟩ [F0]) = some (S24 w os).abs := piece_app (n := 10) (N := 41401) (segRun_of (pc11 w os)) (r12 w os)
theorem r10 (w : World) (os : OsState) : topRun treeTable P0 w 11 (some (.ref 6)) 41444 (S10 w os).abs (restOf (rs 10 14) env0 cE ⟨67, 0, 77, 17⟩ [F0]) = some (S24 w os).abs := piece_app (n := 33) (N := 41411) (segRun_of (pc10 w os)) (r11 w os)
theorem r9 (w : World) (os : OsState) : topRun treeTable P0 w 11 (some (.ref 6)) 41482 (S9 w os).abs (restOf (rs 9 15) env0 cE ⟨58, 0, 66, 49⟩ [F0]) = some (S24 w os).abs := piece_app (n := 38) (N := 41444) (segRun_of (pc9 w os)) (r10 w os)
theorem r8 (w : World) (os : OsState) : topRun treeTable P0 w 11 (some (.ref 6)) 41516 (S8 w os).abs (restOf (rs 8 16) env0 cE ⟨42, 0, 57, 19⟩ [F0]) = some (S24 w os).abs := piece_app (n := 34) (N := 41482) (segRun_of (pc8 w os)) (r9 w os)
theorem r7 (w : World) (os : OsState) : topRun treeTable P0 w 11 (some (.ref 6)) 41550 (S7 w os).abs (restOf (rs 7 17) env0 cE ⟨32, 0, 41, 17⟩ [F0]) = some (S24 w os).abs := piece_app (n := 34) (N := 41516) (segRun_of (pc7 w os)) (r8 w os)
theorem r6 (w : World) (os : OsState) : topRun treeTable P0 w 11 (some (.ref 6)) 41587 (S6 w os).abs (restOf (rs 6 18) env0 cE ⟨16, 0, 31, 33⟩ [F0]) = some (S24 w os).abs := piece_app (n := 37) (N := 41550) (segRun_of (pc6 w os)) (r7 w os)
theorem r5 (w : World) (os : OsState) : topRun treeTable P0 w 11 (some (.ref 6)) 41627 (S5 w os).abs (restOf (rs 5 19) env0 cE ⟨15, 0, 15, 10⟩ [F0]) = some (S24 w os).abs := piece_app (n := 40) (N := 41587) (segRun_of (pc5 w os)) (r6 w os)
theorem r4 (w : World) (os : OsState) : topRun treeTable P0 w 11 (some (.ref 6)) 41637 (S4 w os).abs (restOf (rs 4 20) env0 cE ⟨14, 0, 14, 8⟩ [F0]) = some (S24 w os).abs := piece_app (n := 10) (N := 41627) (segRun_of (pc4 w os)) (r5 w os)
theorem r3 (w : World) (os : OsState) : topRun treeTable P0 w 11 (some (.ref 6)) 41647 (S3 w os).abs (restOf (rs 3 21) env0 cE ⟨4, 0, 13, 27⟩ [F0]) = some (S24 w os).abs := piece_app (n := 10) (N := 41637) (segRun_of (pc3 w os)) (r4 w os)
theorem r2 (w : World) (os : OsState) : topRun treeTable P0 w 11 (some (.ref 6)) 41680 (S2 w os).abs (restOf (rs 2 22) env0 cE ⟨2, 0, 3, 28⟩ [F0]) = some (S24 w os).abs := piece_app (n := 33) (N := 41647) (segRun_of (pc2 w os)) (r3 w os)
theorem r1 (w : World) (os : OsState) : topRun treeTable P0 w 11 (some (.ref 6)) 41711 (S1 w os).abs (restOf (rs 1 23) env0 cE ⟨1, 0, 1, 8⟩ [F0]) = some (S24 w os).abs := piece_app (n := 31) (N := 41680) (segRun_of (pc1 w os)) (r2 w os)
theorem r0 (w : World) (os : OsState) : topRun treeTable P0 w 11 (some (.ref 6)) 41721 (S0 w os).abs (restOf (rs 0 24) env0 cE ⟨0, 0, 0, 0⟩ [F0]) = some (S24 w os).abs := piece_app (n := 10) (N := 41711) (segRun_of (pc0 w os)) (r1 w os)
theorem run0 (w : World) (os : OsState) : topRun treeTable P0 w 11 (some (.ref 6)) 41734 ⟨boot_heap w.params, Array.mk [], boot_drawn, boot_toks, os⟩ (topStub P0) = some (S24 w os).abs := by
  refine go_top (n := 12) (N := 41722) (pre0 w os) (piece_block (n := 1) (N := 41721) (block0 w os) ?_)
  rw [bE_rs]
  exact r0 w os
noncomputable abbrev H1 (P : Params) : Heap := absHeap (tr24 P) 178 {}
noncomputable abbrev E1 (w : World) (os : OsState) : Shared := ⟨H1 w.params, #[], {}, 2393, os⟩
theorem open0 : ∀ w : World, (fencedOpening treeTable P0 w 50000).map (fun s => (s.heap, s.gens, s.drawn, s.toks)) = some (boot_heap w.params, Array.mk [], boot_drawn, boot_toks) :=
  boot_open (p := P0) (N := 50000) (by kernel_rfl) (by kernel_rfl) (fun s => by kernel_rfl)
theorem size0 : ∀ w : World, ((boot_heap w.params).isNs mainGlobals && (Array.mk [] : Array GenState).size == 0, (boot_heap w.params).objs.size, (boot_heap w.params).nsMap mainGlobals "__annotations__") = (true, 11, some (.ref 6)) := fun w => by kernel_rfl
theorem look1 (w : World) (os : OsState) : (staticsOk (importedModules P0.main.body) (boot_heap w.params) (H1 w.params) && namesBound P0 (H1 w.params) && gensDone (E1 w os) && laidKept (boot_heap w.params) (H1 w.params)) = true := by kernel_rfl
theorem look2 (w : World) (os : OsState) : openSeen qv lv (importedModules P0.main.body) (fun _ => true) true (E1 w os) = openGood qv lv := by kernel_rfl
noncomputable def KF (P : Params) : Frag := [(3, mObj P (.str (Str.ofString "law_ul0024_01") 2324) 28), (20, o20 P), (21, o21 P), (27, o27 P), (28, o28 P), (34, o34 P), (35, o35 P), (41, o41 P), (42, o42 P), (44, o44 P), (48, o48 P), (49, o49 P), (51, o51 P), (55, o55 P), (56, o56 P), (62, o62 P), (63, o63 P), (69, o69 P), (70, o70 P), (78, o78 P), (87, o87 P), (88, o88 P), (89, o89), (133, o133 P), (134, o134 P), (140, o140 P), (141, o141 P), (147, o147 P), (148, o148 P), (152, o152 P), (153, o153 P), (157, o157 P), (158, o158 P), (164, o164 P), (165, o165 P), (171, o171 P), (172, o172 P), (176, o176 P), (177, o177 P)]
def KA : List Nat := [3, 20, 21, 27, 28, 34, 35, 41, 42, 44, 48, 49, 51, 55, 56, 62, 63, 69, 70, 78, 87, 88, 89, 133, 134, 140, 141, 147, 148, 152, 153, 157, 158, 164, 165, 171, 172, 176, 177]
noncomputable abbrev KH : Hook := kHook KF KA (fun _ => rfl)
theorem look3 (w : World) (os : OsState) : KH.obs (E1 w os) = KH.val w := by kernel_rfl
theorem run1 (w : World) (os : OsState) : topRun treeTable P0 w 11 (some (.ref 6)) 41734 ⟨boot_heap w.params, Array.mk [], boot_drawn, boot_toks, os⟩ (topStub P0) = some ⟨H1 w.params, #[], {}, 2393, os⟩ := run0 w os
theorem looks0 (w : World) : (fun os => ((staticsOk (importedModules P0.main.body) (boot_heap w.params) (H1 w.params) && namesBound P0 (H1 w.params) && gensDone ⟨H1 w.params, #[], {}, 2393, os⟩ && laidKept (boot_heap w.params) (H1 w.params)),
        openSeen qv lv (importedModules P0.main.body) (fun _ => true) true ⟨H1 w.params, #[], {}, 2393, os⟩, KH.obs ⟨H1 w.params, #[], {}, 2393, os⟩)) = fun _ => (true, openGood qv lv, KH.val w) := by
  funext os
  exact looks_pair (look1 w os) (looks_pair (look2 w os) (look3 w os))
theorem left0 : LeftO P0 qv lv (fun _ => true) KH.obs KH.val 50000 :=
  LeftO.of_pieces (H₀ := boot_heap) (H₁ := H1) (gs₀ := Array.mk []) (gs₁ := #[]) (d₀ := boot_drawn) (d₁ := {}) (k₀ := boot_toks) (k₁ := 2393) (m₀ := 11) (ann := some (.ref 6)) (M := 41734) open0 size0 run1 (by kernel_rfl) looks0
theorem lk1 : (sreFenced P0.main) = true := by rw [PySem.W.Fast.te11788848310118352699]; kernel_rfl
theorem lk2 : (((moduleNames P0.main.body).isEmpty || lookedIntoSs (moduleNames P0.main.body) P0.main.body)) = true := by kernel_rfl
theorem lk3 : (namesResolve P0) = true := by kernel_rfl
theorem lk4 : (P0.boundNames.all (fun n => !worldNames.contains n)) = true := by kernel_rfl
theorem lk5 : (noRoadLSs { strict := !(importedModules P0.main.body).all cThrough.contains, foot := none, bare := (["vars", "dir", "locals"] : List Str).filter (readsOut P0 P0.main.body) } P0.main.body) = true := by rw [PySem.W.Fast.te8326940854005059898]; kernel_rfl
theorem lk6 : (namesMeet P0 P0.main.body fun _ n => attrL n) = true := by rw [PySem.W.Fast.te17119622794617984870]; rw [PySem.W.Fast.te17868728402115742887]; kernel_rfl
theorem looks1 : looksOpen P0 = true := by
  unfold looksOpen
  rw [lk1, lk2, lk3, lk4, lk5, lk6]
  rfl
theorem said0 : (PySem.Challenge.rw_ul0024_01).wellSaid = true := by
  unfold OpenLaw.wellSaid OpenRow.wellSaid OpenRow.partSaid
  rw [show looksOpen (PySem.Challenge.rw_ul0024_01).row.prog = true from looks1]
  kernel_rfl
theorem holds0 (call : ∀ (d : DefRec) (kwd : List (Str × Expr)), defOf qv "law" = some (d, kwd) → WalkO qv lv (fun _ _ => True) KH.says PySem.Challenge.rw_ul0024_01.row.toRowW d kwd fun f vs => PySem.call f vs) : PySem.Challenge.rw_ul0024_01.Holds := by
  refine holds_law said0 fun said => ?_
  refine PySem.W.holds_open (q := qv) (loose := lv) (Xt := fun _ => true) (XP := fun _ _ => True) (Yf := KH.obs) (Ya := KH.val) (YP := KH.says) (N := 50000) left0 KH.of KH.keeps (fun _ _ => trivial) (fun _ _ _ h _ => h) (by rfl) (by rfl) (by rfl) (fun s _ => recFacts_nil rfl) (by rfl) (by assumption) (by kernel_rfl) ⟨rfl, rfl, rfl, rfl, rfl, by decide +kernel⟩ ⟨[.list []], by decide +kernel, by decide +kernel⟩ (call _ _ (by rfl))
end Mine
namespace Mine
local macro_rules | `(tactic| walk_at "eval Name") => `(tactic| (refine name_G (by assumption) (by assumption) (by rfl) ?_))
local macro_rules | `(tactic| walk_at "eval Name") => `(tactic| (refine name_Bl (by assumption) (by assumption) (by rfl) ?_))
noncomputable def b1L (P : Params) : List (Int × Value) := match (o78 P).data with
  | .set es _ _ => es.toList
  | _ => []
def b1K : List Int := [65024, 65025, 65026, 65027, 65028, 65029, 6150, 65030, 65031, 65032, 65033, 6155, 6156, 6157, 8203, 8204, 8205, 65034, 65035, 65036, 65037, 65038, 65039, 173, 847, 8288, 65279]
theorem b1_keys (P : Params) : (b1L P).map (·.1) = b1K := by kernel_rfl
theorem b1_elems (P : Params) : ((b1L P).all fun e => match e with | (h, .int n _) => h == n && hashInt n == n | _ => false) = true := by kernel_rfl
theorem b1_set {w : World} : (o78 w.params).SetObjOf (intKind P0 w) (fun k => decide (k ∈ b1K)) 27 := by
  have key : ∀ e ∈ b1L w.params, ∃ n t, e = (n, .int n t) ∧ hashInt n = n := fun e he => by
    have := List.all_eq_true.mp (b1_elems w.params) e he
    obtain ⟨h, v⟩ := e
    cases v <;> simp only [Bool.and_eq_true, beq_iff_eq] at this <;> first | exact absurd this (by decide) | skip
    obtain ⟨rfl, h2⟩ := this
    exact ⟨_, _, rfl, h2⟩
  refine ⟨⟨rfl, rfl, rfl⟩, (b1L w.params).toArray, _, _, rfl, ?_, fun k => ?_, rfl, rfl⟩
  · intro e he
    obtain ⟨n, t, rfl, hn⟩ := key e (by simpa using he)
    exact ⟨⟨n, intKind_is _ _ _ _, hn.symm⟩, rfl⟩
  · rw [decide_eq_true_eq, ← b1_keys w.params]
    constructor
    · intro hk
      obtain ⟨e, he, rfl⟩ := List.mem_map.mp hk
      obtain ⟨n, t, rfl, hn⟩ := key e he
      exact ⟨_, by simpa using he, intKind_is _ _ _ _⟩
    · rintro ⟨e, he, hk⟩
      have he' : e ∈ b1L w.params := by simpa using he
      obtain ⟨n, t, rfl, hn⟩ := key e he'
      have : k = n := (intKind P0 w).inj (.int n t) k n hk (intKind_is _ _ _ _)
      subst this
      exact List.mem_map_of_mem (f := (·.1)) he'
noncomputable def b3Find (k : Int) : Option Value := (b3Ents.find? fun e => Value.isInt k e.key).map (·.val)
theorem b3_keyed : (b3Ents.all fun e => match e.key with | .int n _ => e.hash == hashInt n | _ => false) = true := by kernel_rfl
theorem b3_map {w : World} {h : Heap} (e : h.get? 89 = some o89) : h.MapOf (intKind P0 w) 89 b3Find := by
  refine ⟨o89, b3Ents.toArray, _, e, ⟨rfl, rfl, rfl⟩, rfl, fun x hx => ?_, fun k => ?_⟩
  · have := List.all_eq_true.mp b3_keyed x (by simpa using hx)
    cases hk : x.key <;> simp only [hk] at this <;> first | exact absurd this (by decide) | skip
    exact ⟨_, by exact intKind_is _ _ _ _, eq_of_beq this⟩
  · simp only [findBy, List.find?_toArray]; rfl
theorem b3_strs : (b3Ents.all fun e => match e.val with | .str _ _ => true | _ => false) = true := by kernel_rfl
theorem b3Find_str {k : Int} {v : Value} (e : b3Find k = some v) : ∃ x t, v = .str x t := by
  unfold b3Find at e
  obtain ⟨a, ha, rfl⟩ := Option.map_eq_some_iff.mp e
  have := List.all_eq_true.mp b3_strs a (List.mem_of_find?_eq_some ha)
  cases hv : a.val <;> simp only [hv] at this <;> first | exact absurd this (by decide) | exact ⟨_, _, rfl⟩
noncomputable def b3Of (c : Nat) : Str := match b3Find (c : Int) with
  | some (.str x _) => x
  | _ => Txt.lower ⟨#[c]⟩
set_option maxHeartbeats 4000000 in
theorem C_b1 {w : World} {mg mb : Str → Option Value} {A : Around} {s : Shared} {Q E : Value → Shared → Prop} {c : Nat} {t0 : Tok} (X : Std w mg mb s.heap) (hd : A.depth + 1 < recursionLimit)
    (h : ∀ h' tk, Ext s.heap h' → Q (.bool (decide ((c : Int) ∈ b1K))) { s with heap := h', toks := tk }) : wpAny (model P0 w) A (call (.ref 88) [.str ⟨#[c]⟩ t0]) Q E s := by
  refine call_fn 13 (binds := [(Str.ofString "code", .str ⟨#[c]⟩ t0)]) X (Nat.lt_of_succ_lt hd) rfl rfl rfl rfl rfl rfl (locs (by rfl)) (fun h₁ F => ?_)
  have N : News s.heap s.heap.objs.size h₁ [] := News.nil
  conv in (execs _ _) => arg 1; whnf
  repeat' (first | walk1 | (dsimp only; walk1))
  refine wpAny_inSet_of (knd := intKind P0 w) (k := (c : Int)) (intKind_is _ _ _ _) rfl (b1_set.setOf (F.keep _ _ (X.K _ _ rfl)) (by decide)) ?_
  exact h _ _ (Fr.growth F)
set_option maxHeartbeats 4000000 in
theorem C_b3 {w : World} {mg mb : Str → Option Value} {A : Around} {s : Shared} {Q E : Value → Shared → Prop} {c : Nat} {t0 : Tok} (X : Std w mg mb s.heap) (hd : A.depth + 1 < recursionLimit) (hh : A.handled = none)
    (h : ∀ h' tk t, Ext s.heap h' → Q (.str (b3Of c) t) { s with heap := h', toks := tk }) : wpAny (model P0 w) A (call (.ref 134) [.str ⟨#[c]⟩ t0]) Q E s := by
  refine call_fn 15 (binds := [(Str.ofString "code", .str ⟨#[c]⟩ t0)]) X (Nat.lt_of_succ_lt hd) rfl rfl rfl rfl rfl rfl (locs (by rfl)) (fun h₁ F => ?_)
  have N : News s.heap s.heap.objs.size h₁ [] := News.nil
  conv in (execs _ _) => arg 1; whnf
  repeat' (first | walk1 | (dsimp only; walk1))
  have M := b3_map (w := w) (F.keep _ _ (X.K 89 _ rfl))
  refine getMethod_builtin (show Shared.TypeIs { s with heap := h₁ } _ _ from M.typeIs) PySem.F.plainAttrs_dict PySem.F.slot_dict_get PySem.F.type_dict_get M.noDict ?_
  dsimp only
  repeat' (first | walk1 | (dsimp only; walk1))
  refine call_meetsIn PySem.F.slot_dict_get (show Shared.TypeIs { s with heap := h₁, toks := _ } _ _ from M.typeIs) PySem.F.entry_dict_get (PySem.F.args_dict_get_2 _ _) (meets_dict_get (intKind P0 w) 89 (intKind_is _ _ (c : Int) _) (by decide)) ⟨b3Find, M, ?_⟩
  have hb : b3Of c = (match b3Find (c : Int) with | some (.str x _) => x | _ => Txt.lower ⟨#[c]⟩) := rfl
  cases hf : b3Find (c : Int) with
  | none =>
    rw [hf] at hb
    simp only [Option.getD_none]
    repeat' (first | walk1 | (dsimp only; walk1))
    dsimp only
    refine SC.lower (fit_lower (by simp [Str.length])) ?_
    dsimp only at hb ⊢
    rw [hb] at h
    exact h _ _ _ (Fr.growth (by assumption))
  | some v =>
    obtain ⟨x, t, rfl⟩ := b3Find_str hf
    rw [hf] at hb
    simp only [Option.getD_some]
    repeat' (first | walk1 | (dsimp only; walk1))
    dsimp only
    rw [hb] at h
    exact h _ _ _ (Fr.growth (by assumption))
set_option maxHeartbeats 4000000 in
theorem C_strcoll {w : World} {mg mb : Str → Option Value} {A : Around} {s : Shared} {Q E : Value → Shared → Prop} {x y : Str} {t u : Tok} (X : Std w mg mb s.heap) (hd : A.depth + 1 < recursionLimit) (hh : A.handled = none)
    (h : ∀ h' tk t, Ext s.heap h' → Q (.int (b2i (decide (y.cps.toList < x.cps.toList)) - b2i (decide (x.cps.toList < y.cps.toList))) t) { s with heap := h', toks := tk }) : wpAny (model P0 w) A (call (.ref 21) [.str x t, .str y u]) Q E s := by
  refine call_fn 1 (binds := [(Str.ofString "a", .str x t), (Str.ofString "b", .str y u)]) X (Nat.lt_of_succ_lt hd) rfl rfl rfl rfl rfl rfl (locs (by rfl)) (fun h₁ F => ?_)
  have N : News s.heap s.heap.objs.size h₁ [] := News.nil
  conv in (execs _ _) => arg 1; whnf
  repeat' (first | walk1 | (dsimp only; walk1))
  all_goals (try dsimp only)
  all_goals exact h _ _ _ (Fr.growth (by assumption))
set_option maxHeartbeats 4000000 in
theorem C_c11 {w : World} {mg mb : Str → Option Value} {A : Around} {s : Shared} {Q E : Value → Shared → Prop} {c : Nat} {t0 : Tok} (X : Std w mg mb s.heap) (hd : A.depth + 1 < recursionLimit) (hh : A.handled = none)
    (h : ∀ h' tk, Ext s.heap h' → Q (.bool (decide (c = 32))) { s with heap := h', toks := tk }) : wpAny (model P0 w) A (call (.ref 141) [.str ⟨#[c]⟩ t0]) Q E s := by
  refine call_fn 16 (binds := [(Str.ofString "code", .str ⟨#[c]⟩ t0)]) X (Nat.lt_of_succ_lt hd) rfl rfl rfl rfl rfl rfl (locs (by rfl)) (fun h₁ F => ?_)
  have N : News s.heap s.heap.objs.size h₁ [] := News.nil
  conv in (execs _ _) => arg 1; whnf
  repeat' (first | walk1 | (dsimp only; walk1))
  all_goals (try dsimp only)
  have e : ((⟨#[c]⟩ : Str) == Str.ofString " ") = decide (c = 32) := by
    rw [show Str.ofString " " = (⟨#[32]⟩ : Str) by decide +kernel, Bool.eq_iff_iff, beq_iff_eq, decide_eq_true_eq]
    simp
  rw [← e] at h
  all_goals exact h _ _ (Fr.growth (by assumption))
/-- a frame's names, as a list -/
abbrev B (l : List (Str × Value)) : Str → Option Value := fun y => l.lookup y
def put (k : Str) (v : Value) : List (Str × Value) → List (Str × Value)
  | [] => [(k, v)]
  | p :: r => if p.1 = k then (k, v) :: r else p :: put k v r
theorem lookup_put (k y : Str) (v : Value) : ∀ l : List (Str × Value), (put k v l).lookup y = if y = k then some v else l.lookup y
  | [] => by
    simp only [put, List.lookup_cons, List.lookup_nil]
    by_cases h : y = k
    · simp [h]
    · rw [beq_eq_false_iff_ne.mpr h, if_neg h]
  | (a, b) :: r => by
    simp only [put]
    split
    · rename_i e
      subst e
      simp only [List.lookup_cons]
      by_cases h : y = a
      · simp [h]
      · rw [beq_eq_false_iff_ne.mpr h, if_neg h]
    · rename_i e
      simp only [List.lookup_cons, lookup_put k y v r]
      by_cases h : y = a
      · subst h; simp only [beq_self_eq_true, if_neg e]
      · rw [beq_eq_false_iff_ne.mpr h]
theorem B_put {m : Str → Option Value} {l : List (Str × Value)} {k : Str} {v : Value} (e : m = B l) : (fun y => if y = k then some v else m y) = B (put k v l) := by
  subst e
  funext y
  exact (lookup_put k y v l).symm
/-- the number of steps that `_law_ahead` goes -/
def aheadF (size blanks : Int) : Nat → Int → Int → Int → Int
  | 0, _, _, a => a
  | n + 1, p, q, a => if a < blanks ∧ p * (size - a) < q * (blanks - a) then aheadF size blanks n (p * (size - a)) (q * (blanks - a)) (a + 1) else a
theorem aheadF_stop {size blanks p q a : Int} {n : Nat} (h : ¬ (a < blanks ∧ p * (size - a) < q * (blanks - a))) : aheadF size blanks n p q a = a := by
  cases n with
  | zero => rfl
  | succ n => rw [aheadF, if_neg h]
set_option maxHeartbeats 4000000 in
theorem C_ahead {w : World} {mg mb : Str → Option Value} {A : Around} {s : Shared} {Q E : Value → Shared → Prop} {p q z b : Int} {t0 t1 t2 t3 : Tok} (X : Std w mg mb s.heap) (hd : A.depth + 1 < recursionLimit) (hz : 0 ≤ z ∧ z ≤ 100) (hb : 0 ≤ b ∧ b ≤ 100)
    (h : ∀ h' tk t, Ext s.heap h' → Q (.int (aheadF z b b.toNat p q 0) t) { s with heap := h', toks := tk }) : wpAny (model P0 w) A (call (.ref 165) [.int p t0, .int q t1, .int z t2, .int b t3]) Q E s := by
  refine call_fn 21 (binds := [(Str.ofString "place", .int p t0), (Str.ofString "ways", .int q t1), (Str.ofString "size", .int z t2), (Str.ofString "blanks", .int b t3)]) X (Nat.lt_of_succ_lt hd) rfl rfl rfl rfl rfl rfl (locs (by rfl)) (fun h₁ F => ?_)
  have N : News s.heap s.heap.objs.size h₁ [] := News.nil
  conv in (execs _ _) => arg 1; whnf
  walk1; walk1; walk1; walk1; walk1
  rename_i F₂ N₂
  refine While_inv (fun n m news => news = [] ∧ ∃ p' q' a' tp tq ta, m = B [(Str.ofString "blanks", .int b t3), (Str.ofString "size", .int z t2), (Str.ofString "ways", .int q' tq), (Str.ofString "place", .int p' tp), (Str.ofString "ahead", .int a' ta)] ∧ n = (b - a').toNat ∧ 0 ≤ a' ∧ aheadF z b n p' q' a' = aheadF z b b.toNat p q 0) (n₀ := b.toNat) F₂ N₂ ⟨rfl, p, q, 0, _, _, _, B_put rfl, by simp, Int.le_refl _, rfl⟩ ?_
  rintro n m₁ news₁ h₂ tk₂ F₃ N₃ ⟨rfl, p', q', a', tp, tq, ta, rfl, hn, h0, he⟩
  obtain ⟨z0, z1⟩ := hz
  obtain ⟨b0, b1⟩ := hb
  repeat' (first | walk1 | (dsimp only; walk1))
  · rename_i hlt _ _ _ _ _ _ _ _ _ _
    refine WhileStep.intro (by assumption) (by assumption) (n' := (b - (a' + 1)).toNat) (by omega) ⟨rfl, _, _, _, _, _, _, B_put (B_put (B_put rfl)), rfl, by omega, ?_⟩
    rw [← he, show n = (b - (a' + 1)).toNat + 1 by omega, aheadF, if_pos ⟨by assumption, by assumption⟩]
  · rw [← he, aheadF_stop (by omega)] at h
    exact h _ _ _ (Fr.growth (by assumption))
  · rw [← he, aheadF_stop (by omega)] at h
    exact h _ _ _ (Fr.growth (by assumption))
/-- a text, from its code points -/
def tx (l : List Nat) : Str := ⟨l.toArray⟩
@[simp] theorem tx_cps (l : List Nat) : (tx l).cps.toList = l := rfl
@[simp] theorem tx_len (l : List Nat) : (tx l).length = l.length := by simp [tx, Str.length]
theorem tx_one (c : Nat) : tx [c] = ⟨#[c]⟩ := rfl
theorem tx_inj {a b : List Nat} : tx a = tx b ↔ a = b := ⟨fun h => congrArg (fun z => z.cps.toList) h, fun h => h ▸ rfl⟩
theorem tx_beq (a b : List Nat) : (tx a == tx b) = decide (a = b) := by
  rw [Bool.eq_iff_iff, beq_iff_eq, decide_eq_true_eq, tx_inj]
theorem tx_add (a b : List Nat) : tx a ++ tx b = tx (a ++ b) := by
  show (⟨a.toArray ++ b.toArray⟩ : Str) = _
  simp [tx]
theorem tx_item {l : List Nat} {i : Int} {c : Nat} (h0 : 0 ≤ i) (h : l[i.toNat]? = some c) : Txt.item (tx l) i = tx [c] :=
  item_meets h0 (by simpa [tx] using h)
theorem tx_item_neg {l : List Nat} {i : Int} {c : Nat} (h0 : i < 0) (h1 : -(l.length : Int) ≤ i) (h : l[(i + l.length).toNat]? = some c) : Txt.item (tx l) i = tx [c] := by
  have := item_closes_neg (x := tx l) (i := i) (j := i + l.length) h0 (by simpa using h1) (by simp)
  rw [beq_iff_eq] at this
  rw [this]
  have e : (tx l).cps.getD (i + l.length).toNat 0 = c := by
    simp only [tx, Array.getD_eq_getD_getElem?, List.getElem?_toArray, h, Option.getD_some]
  rw [e]; rfl
theorem tx_slice {l : List Nat} {i j : Int} (h0 : 0 ≤ i) (h1 : i ≤ j) (h2 : j ≤ l.length) : Txt.slice (tx l) (some i) (some j) = tx ((l.drop i.toNat).take (j - i).toNat) := by
  have := slice_closesL (x := tx l) h0 h1 (by simpa using h2)
  rw [beq_iff_eq] at this
  exact this
theorem tx_slice_to {l : List Nat} {j : Int} (h0 : 0 ≤ j) (h2 : j ≤ l.length) : Txt.slice (tx l) none (some j) = tx (l.take j.toNat) := by
  have := slice_closes_toL (x := tx l) h0 (by simpa using h2)
  rw [beq_iff_eq] at this
  rw [this]; simp [tx]
theorem tx_slice_from {l : List Nat} {i : Int} (h0 : 0 ≤ i) (h2 : i ≤ l.length) : Txt.slice (tx l) (some i) none = tx (l.drop i.toNat) := by
  rw [slice_from_eq (x := tx l) (b := l.length) h0 (by simpa using h2) (by simp)]
  show tx ((l.drop i.toNat).take _) = _
  rw [List.take_of_length_le]
  rw [List.length_drop]; omega
theorem tx_rev (l : List Nat) (u : Tok) : Txt.sliceBy (tx l) none none (-1, u) = tx l.reverse := by
  have h := step_rev_list (tx l) u
  have : (Txt.sliceBy (tx l) none none (-1, u)).cps.toList = l.reverse := by
    rw [h]
    apply List.ext_getElem
    · simp
    · intro k h1 h2
      simp at h1
      rw [List.getElem_map, List.getElem_reverse, List.getElem_range, tx_len]
      simp only [tx, Array.getD_eq_getD_getElem?, List.getElem?_toArray, List.getElem?_eq_getElem (show l.length - 1 - k < l.length by omega), Option.getD_some]
  generalize hz : Txt.sliceBy (tx l) none none (-1, u) = z at this
  obtain ⟨⟨z⟩⟩ := z
  simp at this
  rw [this]; rfl
theorem cnt_eq (c : Nat) (l : List Nat) : PyProof.Rows.cnt c l = (l.count c : Int) := by
  induction l with
  | nil => rfl
  | cons a r ih =>
    rw [cnt_cons, ih, List.count_cons]
    by_cases h : a = c
    · subst h; simp; omega
    · simp [h]
theorem tx_count (l : List Nat) (c : Nat) : Txt.count (tx l) (tx [c]) = (l.count c : Int) := by
  rw [← cnt_eq]
  exact count_cnt (tx l) c
theorem tx_mul (c : Nat) (n : Int) : Txt.mul (tx [c]) n = tx (List.replicate n.toNat c) := by
  have := mul_one_list c n
  have e : tx [c] = ⟨#[c]⟩ := rfl
  rw [e]
  generalize hz : Txt.mul (⟨#[c]⟩ : Str) n = z at this
  obtain ⟨⟨z⟩⟩ := z
  simp at this
  rw [this]; rfl
theorem isWhile {M : Model} {A : Around} {t : Expr} {b o : List Stmt} {p : Pos} {env : Env} {Q : Flow → Shared → Prop} {E : Value → Shared → Prop} {s : Shared} (h : wpAny M A (exec (.While t b o p) env) Q E s) : wpAny M A (exec (.While t b o p) env) Q E s := h
theorem isFor {M : Model} {A : Around} {t i : Expr} {b o : List Stmt} {p : Pos} {env : Env} {Q : Flow → Shared → Prop} {E : Value → Shared → Prop} {s : Shared} (h : wpAny M A (exec (.For t i b o p) env) Q E s) : wpAny M A (exec (.For t i b o p) env) Q E s := h
section
variable {prog : Program} {w : World} {A : Around} {E : Value → Shared → Prop} {s : Shared} {Q : Value → Shared → Prop} {l a b : List Nat} {t u : Tok} {value slice : Expr} {h₀ : Heap} {L : Addr} {m : Str → Option Value} {news : List (Addr × Obj)} {i j : Int} {ui uj : Tok}
theorem tx_size (h : l.length ≤ 1000) : (tx l).length ≤ sizeLine := by rw [tx_len]; unfold sizeLine; omega
theorem item_T (h0 : 0 ≤ i) (h1 : i < l.length) (hl : l.length ≤ 1000) (h : Q (.str (tx [l.getD i.toNat 0]) s.toks) { s with toks := s.toks + 1 })
    (hs : subscripted slice false (Value.str (tx l) t) (Value.int i u) = operate [Value.str (tx l) t, Value.int i u] (getItem (Value.str (tx l) t) (Value.int i u)) := by with_unfolding_all rfl)
    (hg : ∀ (r : Value), letTemporaryGo value (Value.str (tx l) t) r = pure () := by intro _; with_unfolding_all rfl) :
    wpAny (model prog w) A (subscriptTail value slice (.str (tx l) t) (.int i u)) Q E s := by
  have e : Txt.item (tx l) i = tx [l.getD i.toNat 0] := tx_item h0 (by
    have : i.toNat < l.length := by omega
    simp [List.getD, List.getElem?_eq_getElem this])
  exact item_str (fitsSsize_of (N := 9223372036854775808) (by omega) (by omega) (Int.le_refl _)) (by rw [tx_len]; omega) (by rw [tx_len]; omega) (fun _ => by rw [e]; exact h) hs hg
theorem len_T (hl : l.length ≤ 1000) (h : Q (.int l.length (s.toks + 1)) { s with toks := s.toks + 1 + 1 }) : wpAny (model prog w) A (call (.builtin "len") [.str (tx l) t]) Q E s :=
  len_str (by rw [tx_len]; omega) (by rw [tx_len]; exact h)
theorem add_T (hl : a.length + b.length ≤ 1000) (h : ∀ t' k, Q (.str (tx (a ++ b)) t') { s with toks := k }) : wpAny (model prog w) A (binaryOp .Add (.str (tx a) t) (.str (tx b) u)) Q E s :=
  SBL.add (fun t' k _ => by rw [tx_add]; exact h t' k) (by rw [tx_len, tx_len]; unfold sizeLine; omega)
theorem iadd_T (hl : a.length + b.length ≤ 1000) (h : ∀ t' k, Q (.str (tx (a ++ b)) t') { s with toks := k }) : wpAny (model prog w) A (inplaceOp .Add (.str (tx a) t) (.str (tx b) u)) Q E s :=
  SBL.iadd (fun t' k _ => by rw [tx_add]; exact h t' k) (by rw [tx_len, tx_len]; unfold sizeLine; omega)
theorem slice_ss_T (F : Fr h₀ L s.heap m) (N : News h₀ L s.heap news) (h0 : 0 ≤ i) (h1 : i ≤ j) (h2 : j ≤ l.length) (hl : l.length ≤ 1000)
    (h : ∀ h' t' k, Fr h₀ L h' m → News h₀ L h' news → Q (.str (tx ((l.drop i.toNat).take (j - i).toNat)) t') { s with heap := h', toks := k })
    (hs : subscripted slice false (Value.str (tx l) t) (Value.ref s.heap.objs.size) = operate [Value.ref s.heap.objs.size, Value.str (tx l) t] (getItem (Value.str (tx l) t) (Value.ref s.heap.objs.size)) := by with_unfolding_all rfl)
    (hg : ∀ (r : Value), letTemporaryGo value (Value.str (tx l) t) r = pure () := by intro _; with_unfolding_all rfl) :
    wpAny (model prog w) A (subscriptTail value slice (.str (tx l) t) (.ref s.heap.objs.size)) Q E { s with heap := s.heap.push { cls := .type "slice", data := .fields #[.int i ui, .int j uj, .none] } } :=
  slice_strN_ss F N (fun h' t' k F' N' => by rw [tx_slice h0 h1 h2]; exact h h' t' k F' N') hs hg (tx_size hl)
theorem slice_sn_T (F : Fr h₀ L s.heap m) (N : News h₀ L s.heap news) (h0 : 0 ≤ i) (h1 : i ≤ l.length) (hl : l.length ≤ 1000)
    (h : ∀ h' t' k, Fr h₀ L h' m → News h₀ L h' news → Q (.str (tx (l.drop i.toNat)) t') { s with heap := h', toks := k })
    (hs : subscripted slice false (Value.str (tx l) t) (Value.ref s.heap.objs.size) = operate [Value.ref s.heap.objs.size, Value.str (tx l) t] (getItem (Value.str (tx l) t) (Value.ref s.heap.objs.size)) := by with_unfolding_all rfl)
    (hg : ∀ (r : Value), letTemporaryGo value (Value.str (tx l) t) r = pure () := by intro _; with_unfolding_all rfl) :
    wpAny (model prog w) A (subscriptTail value slice (.str (tx l) t) (.ref s.heap.objs.size)) Q E { s with heap := s.heap.push { cls := .type "slice", data := .fields #[.int i ui, .none, .none] } } :=
  slice_strN_sn F N (fun h' t' k F' N' => by rw [tx_slice_from h0 h1]; exact h h' t' k F' N') hs hg (tx_size hl)
theorem slice_ns_T (F : Fr h₀ L s.heap m) (N : News h₀ L s.heap news) (h0 : 0 ≤ j) (h1 : j ≤ l.length) (hl : l.length ≤ 1000)
    (h : ∀ h' t' k, Fr h₀ L h' m → News h₀ L h' news → Q (.str (tx (l.take j.toNat)) t') { s with heap := h', toks := k })
    (hs : subscripted slice false (Value.str (tx l) t) (Value.ref s.heap.objs.size) = operate [Value.ref s.heap.objs.size, Value.str (tx l) t] (getItem (Value.str (tx l) t) (Value.ref s.heap.objs.size)) := by with_unfolding_all rfl)
    (hg : ∀ (r : Value), letTemporaryGo value (Value.str (tx l) t) r = pure () := by intro _; with_unfolding_all rfl) :
    wpAny (model prog w) A (subscriptTail value slice (.str (tx l) t) (.ref s.heap.objs.size)) Q E { s with heap := s.heap.push { cls := .type "slice", data := .fields #[.none, .int j uj, .none] } } :=
  slice_strN_ns F N (fun h' t' k F' N' => by rw [tx_slice_to h0 h1]; exact h h' t' k F' N') hs hg (tx_size hl)
theorem slice_rev_T {uk : Tok} (F : Fr h₀ L s.heap m) (N : News h₀ L s.heap news) (hl : l.length ≤ 1000)
    (h : ∀ h' t' k, Fr h₀ L h' m → News h₀ L h' news → Q (.str (tx l.reverse) t') { s with heap := h', toks := k })
    (hs : subscripted slice false (Value.str (tx l) t) (Value.ref s.heap.objs.size) = operate [Value.ref s.heap.objs.size, Value.str (tx l) t] (getItem (Value.str (tx l) t) (Value.ref s.heap.objs.size)) := by with_unfolding_all rfl)
    (hg : ∀ (r : Value), letTemporaryGo value (Value.str (tx l) t) r = pure () := by intro _; with_unfolding_all rfl) :
    wpAny (model prog w) A (subscriptTail value slice (.str (tx l) t) (.ref s.heap.objs.size)) Q E { s with heap := s.heap.push { cls := .type "slice", data := .fields #[.none, .none, .int (-1) uk] } } :=
  slice_strK_nn F N (by decide) (fun h' t' k F' N' => by rw [tx_rev]; exact h h' t' k F' N') hs hg (tx_size hl)
theorem count_T {c : Nat} (h : Q (.int (l.count c) s.toks) { s with toks := s.toks + 1 }) : wpAny (model prog w) A (call (.builtin "str.count") [.str (tx l) t, .str (tx [c]) u]) Q E s :=
  SC.count (by rw [tx_count]; exact h)
end
end Mine
namespace Mine
theorem isIter {M : Model} {A : Around} {v : Value} {Q : Value → Shared → Prop} {E : Value → Shared → Prop} {s : Shared} (h : wpAny M A (pyIter v) Q E s) : wpAny M A (pyIter v) Q E s := h
section
variable {prog : Program} {w : World} {A : Around} {E : Value → Shared → Prop} {s : Shared} {env : Env} {h₀ : Heap} {x : Str} {body : List Stmt} {Q : Flow → Shared → Prop}
theorem iter_rangeJ {r : Addr} {a₀ b₀ d : Int} {t₀ u₀ v₀ : Tok} {n : Nat} {m₀ : Str → Option Value} {news : List (Addr × Obj)}
    (J : Nat → (Str → Option Value) → List (Addr × Obj) → Prop)
    (hh : A.handled = none) (hr : IsRange s.heap r a₀ b₀ d t₀ u₀ v₀) (hsmall : Builtin.Range.small a₀ b₀ d = true) (hn : Builtin.Range.rangeSize a₀ b₀ d = (n : Int)) (F : Fr h₀ env.locals s.heap m₀) (N : News h₀ env.locals s.heap news) (hJ : J 0 m₀ news)
    (turn : ∀ (i : Nat) t m₁ news₁ h tk own, i < n → news₁.map (·.1) = news.map (·.1) → OwnOff own (news.map (·.1)) → J i m₁ news₁ → Fr h₀ env.locals h (fun y => if y = x then some (.int (a₀ + i * d) t) else m₁ y) → News h₀ env.locals h (news₁ ++ own) →
      wpAny (model prog w) A (execs body env) (InvPostN h₀ env.locals (J (i + 1)) own (news.map (·.1)) { s with heap := h, toks := tk } Q) E { s with heap := h, toks := tk })
    (done : ∀ m₁ news₁ h tk, J n m₁ news₁ → Fr h₀ env.locals h m₁ → News h₀ env.locals h news₁ → Q .next { s with heap := h, toks := tk }) :
    wpAny (model prog w) A (pyIter (.ref r)) (fun it s₂ => LoopAtV prog w A h₀ env x body Q E it s₂) E s := by
  refine wpAny_pyIter_range hr hsmall ?_
  have W : Walks prog w A s.heap.objs.size [s.heap.objs.size] [s.heap.objs.size] n (fun i v => i < n ∧ ∃ t, v = .int (a₀ + i * d) t)
      (fun i h => IsRangeIter h s.heap.objs.size (a₀ + (i : Nat) * d) ((n : Int) - (i : Nat)) d) := (Walks.range hh _ a₀ d n).bound
  refine loop_invN J W ?_ ?_ ?_ ?_ (by show IsRangeIter _ _ _ _ _; rw [hn]; simpa using Heap.get?_push_size _ rfl) (F.push _) (fun p hp => ⟨Heap.get?_push_of_some _ (N p hp).1, (N p hp).2⟩) hJ ?_ ?_
  · intro hm
    exact absurd F.ns.lt ((List.mem_singleton.mp hm) ▸ Nat.lt_irrefl _)
  · intro b hb
    rw [List.mem_singleton.mp hb]
    exact next_is_new F
  · intro p hp hI
    exact absurd (Heap.lt_size (N p hp).1) ((List.mem_singleton.mp hI) ▸ Nat.lt_irrefl _)
  · intro p hp hI
    exact absurd (Heap.lt_size (N p hp).1) ((List.mem_singleton.mp hI) ▸ Nat.lt_irrefl _)
  · rintro i v m₁ nx h tk own hi ⟨_, t, rfl⟩ he hoff hj F₁ N₁
    exact turn i t m₁ nx h tk own hi he hoff hj F₁ N₁
  · exact done
end
/-- the call of a def of the text whose frame has cells -/
theorem callC_fn {w : World} {mg mb : Str → Option Value} {A : Around} {s : Shared} {Q E : Value → Shared → Prop} (i : Nat) {f c : Addr} {name : Str} {of oc : Obj} {pm doc : Value} {vs : Array Value} {t : Tok} {args : List Value} {binds : List (Str × Value)}
    (X : Std w mg mb s.heap) (hroom : A.depth < recursionLimit) (hf : (KP w.params).lookup f = some of) (hd : of.data = .func (Calls.docDef name (parOf i) (bodyOf i) (scOf i) pm (.ref c) doc))
    (hc : (KP w.params).lookup c = some oc) (hcd : oc.data = .fields vs) (hcn : vs[1]? = some (.str name t))
    (hbind : bindArgs (Calls.docDef name (parOf i) (bodyOf i) (scOf i) pm (.ref c) doc) ⟨args, []⟩ = pure binds)
    (hkind : ∀ x ∈ binds, (scOf i).names.lookup x.1 = some .local ∨ ((scOf i).names.lookup x.1 = some .cell ∧ ((cellsFrom (s.heap.objs.size + 1) (scOf i).names []).lookup x.1).isSome = true))
    (hnd : ((cellsFrom 0 (scOf i).names []).map (·.1)).Nodup)
    (h : ∀ h₁ tk cells, Fr s.heap s.heap.objs.size h₁ (bindL (envOfC name (scOf i) s.heap.objs.size f (.ref c)).kindOf binds fun _ => none) → News s.heap s.heap.objs.size h₁ cells →
      CellsAre (bindC (envOfC name (scOf i) s.heap.objs.size f (.ref c)).kindOf binds fun _ => none) (cellsFrom (s.heap.objs.size + 1) (scOf i).names []) cells →
      wpAny (model P0 w) (A.deeper (envOfC name (scOf i) s.heap.objs.size f (.ref c))) (execs (bodyOf i) (envOfC name (scOf i) s.heap.objs.size f (.ref c)))
        (fun fl s' => Q (match fl with | .ret v => v | _ => .none) s') (fun _ _ => False)
        { s with heap := h₁, toks := tk })
    (hco : (scOf i).isCoroutine = false := by rfl) (hgen : (scOf i).isGenerator = false := by rfl) (hk : (scOf i).kind = .function := by rfl) :
    wpAny (model P0 w) A (call (.ref f) args) Q E s :=
  wpAny_call (call_cellsN_ret hroom (X.K _ _ hf) hd X.nolimit ⟨c, oc, vs, t, rfl, X.K _ _ hc, hcd, hcn⟩ hbind hkind hnd (fun h₁ tk cells F N C => wpAny_mono (h h₁ tk cells F N C) (fun _ _ x => x) fun _ _ x => x) hco hgen hk)
section
variable {w : World} {mg mb : Str → Option Value} {h₀ : Heap} {M : Model} {A : Around} {E : Value → Shared → Prop} {s : Shared} {L a : Addr} {m : Str → Option Value} {cn : Str} {cs : Scope} {ccd : Value} {x : Str} {pos : Pos} {v : Value} {Q : Value → Shared → Prop}
theorem nameC_G (F : Fr h₀ L s.heap m) (X : Std w mg mb h₀) (e : gl.lookup x = some v) (h : Q v s)
    (hk : cs.kind = .function := by rfl) (hx : (envOfC cn cs L a ccd).kindOf x = some .globalImplicit := by rfl) (hd : (x == ("__debug__" : Str)) = false := by decide) :
    wpAny M A (eval (.Name x pos) (envOfC cn cs L a ccd)) Q E s :=
  Calls.Name_function_global hk hx (Calls.loadGlobal_global (env := envOfC cn cs L a ccd) (X.g.keeps F.keep) (X.glob e) h) hd
theorem nameC_Bl (F : Fr h₀ L s.heap m) (X : Std w mg mb h₀) (e : bl.lookup x = some v) (h : Q v s)
    (hk : cs.kind = .function := by rfl) (hx : (envOfC cn cs L a ccd).kindOf x = some .globalImplicit := by rfl) (hd : (x == ("__debug__" : Str)) = false := by decide) :
    wpAny M A (eval (.Name x pos) (envOfC cn cs L a ccd)) Q E s :=
  Calls.Name_function_global hk hx (Calls.loadGlobal_builtin (env := envOfC cn cs L a ccd) (X.g.keeps F.keep) (X.blt e).1 (X.b.keeps F.keep) (X.blt e).2 h) hd
end
theorem bindL_one {k : Str → Option NameKind} {n : Str} {v : Value} (h : k n = some .local) : bindL k [(n, v)] (fun _ => none) = B [(n, v)] := by
  simp only [bindL, h, if_true]
  exact B_put (l := []) rfl
theorem isPost {h₀ : Heap} {L : Addr} {J : (Str → Option Value) → List (Addr × Obj) → Prop} {own : List (Addr × Obj)} {adr : List Addr} {s₁ : Shared} {Q : Flow → Shared → Prop} {f : Flow} {s₂ : Shared} (h : InvPostN h₀ L J own adr s₁ Q f s₂) : InvPostN h₀ L J own adr s₁ Q f s₂ := h
theorem isStep {h₀ : Heap} {L : Addr} {s : Shared} {J : Nat → (Str → Option Value) → List (Addr × Obj) → Prop} {n : Nat} {f : Flow} {s₃ : Shared} (h : WhileStep h₀ L s J n f s₃) : WhileStep h₀ L s J n f s₃ := h
theorem isComp {M : Model} {A : Around} {e : Expr} {g : List Comprehension} {sc : Scope} {p : Pos} {env : Env} {Q : Value → Shared → Prop} {E : Value → Shared → Prop} {s : Shared} (h : wpAny M A (eval (.ListComp e g sc p) env) Q E s) : wpAny M A (eval (.ListComp e g sc p) env) Q E s := h
section
variable {prog : Program} {w : World} {A : Around} {E : Value → Shared → Prop} {s : Shared} {env : Env}
/-- a list display over the signs of a text, with tests -/
theorem comp_T {elt iter : Expr} {x : Str} {px : Pos} {ifs : List Expr} {scope : Scope} {cl : List (Str × Addr)} {pos : Pos} {Q : Value → Shared → Prop} (p : Nat → Bool) (G : Nat → List Nat)
    (hh : A.handled = none) (hclos : closureFor scope env = pure cl) (hcell : ∀ y ∈ scope.names, y.2 ≠ .cell) (hkind : scope.kind = .function)
    (hnames : ∀ y ∈ scope.names, y.2 = .local → scope.names.lookup y.1 = some .local) (hx : scope.names.lookup x = some .local)
    (h : wpAny (model prog w) A (eval iter env) (fun xv s₁ => ∃ l t, xv = .str (tx l) t ∧ l.length ≤ 1000 ∧
      (∀ C c tc s₃ m₃ E', c ∈ l → s₁.heap.objs.size ≤ C → s₃.heap.Ns C m₃ → m₃ x = some (.str (tx [c]) tc) → Ext s₁.heap s₃.heap →
        wpAny (model prog w) A (forIn ifs true fun c r => if r = true then do let ok ← isTrue c (compEnvC scope cl C env) (eval c (compEnvC scope cl C env)); pure (ForInStep.yield ok) else pure (ForInStep.yield r)) (fun ok s₄ => ok = p c ∧ Keeps s₃ s₄) E' s₃) ∧
      (∀ C c tc s₃ m₃ E', c ∈ l → p c = true → s₁.heap.objs.size ≤ C → s₃.heap.Ns C m₃ → m₃ x = some (.str (tx [c]) tc) → Ext s₁.heap s₃.heap →
        wpAny (model prog w) A (eval elt (compEnvC scope cl C env)) (fun y s₄ => (∃ ty, y = .str (tx (G c)) ty) ∧ Keeps s₃ s₄) E' s₃) ∧
      (∀ D h' tk (ys : List Value), s₁.heap.get? D = none → h'.PlainList D ys.toArray → StrsAre ys ((l.filter p).map fun c => tx (G c)) → Ext s₁.heap h' → Q (.ref D) { s₁ with heap := h', toks := tk })) E s)
    (hs : ∀ x, foldedSetIterable iter env x = pure x := by intro _; rfl) :
    wpAny (model prog w) A (eval (.ListComp elt [⟨.Name x px, iter, ifs, 0⟩] scope pos) env) Q E s := by
  refine wpAny_ListComp_free (fun v => match v with | .str z _ => p (z.cps.getD 0 0) | _ => false) (fun v r => ∃ c u, v = .str (tx [c]) u ∧ ∃ t, r = .str (tx (G c)) t) hclos hcell hkind hnames hx (wpAny_mono h (fun xv s₁ h₁ => ?_) fun _ _ e => e) hs
  obtain ⟨l, t, rfl, hl, g1, g2, g3⟩ := h₁
  refine wpAny_pyIter_str fun o St W hst => ?_
  have up : ∀ (h' : Heap), (∀ b o', b ∉ [s₁.heap.objs.size] → (s₁.heap.push o).get? b = some o' → h'.get? b = some o') → ∀ b o', s₁.heap.get? b = some o' → h'.get? b = some o' :=
    fun h' hk b o' e => hk b o' (old_not_new e) (Heap.get?_push_of_some _ e)
  have sz : s₁.heap.objs.size ≤ (s₁.heap.push o).objs.size := by rw [Heap.size_push]; omega
  have sg : ∀ i v, SignAt (tx l) i v → ∃ c u, l[i]? = some c ∧ v = .str (tx [c]) u := fun i v hP => by
    obtain ⟨c, u, hc, rfl⟩ := hP
    exact ⟨c, u, by simpa [tx] using hc, rfl⟩
  refine ⟨s₁.heap.objs.size, [s₁.heap.objs.size], [s₁.heap.objs.size], (tx l).cps.size, SignAt (tx l), St, rfl, W A hh, by have := tx_len l; unfold Str.length at this; rw [this]; unfold sizeLine; omega, hst, ?_, ⟨?_, ?_⟩, ?_⟩
  · intro b hb
    show b < (s₁.heap.push o).objs.size
    rw [Heap.size_push, List.mem_singleton.mp hb]
    exact Nat.lt_succ_self _
  · intro C i v s₃ m₃ E' hC hP hn hm hk htk
    obtain ⟨c, u, hc, rfl⟩ := sg i v hP
    exact g1 C c u s₃ m₃ E' (List.mem_of_getElem? hc) (Nat.le_trans sz hC) hn hm (up _ hk)
  · intro C i v s₃ m₃ E' hC hP hp hn hm hk htk
    obtain ⟨c, u, hc, rfl⟩ := sg i v hP
    exact wpAny_mono (g2 C c u s₃ m₃ E' (List.mem_of_getElem? hc) hp (Nat.le_trans sz hC) hn hm (up _ hk)) (fun r s₄ h₄ => ⟨⟨c, u, rfl, h₄.1⟩, h₄.2⟩) fun _ _ e => e
  · intro D h' tk ys vs hnew hlD hplD hlen hP hF hk
    refine g3 D h' tk ys.toList ?_ (by rw [Array.toArray_toList]; exact hplD) ?_ (up h' hk)
    · cases e : s₁.heap.get? D with
      | none => rfl
      | some o' => rw [Heap.get?_push_of_some _ e] at hnew; cases hnew
    · have hvs : ∀ (l : List Nat) (vs : List Value), vs.length = l.length → (∀ (j : Nat) (v : Value), vs[j]? = some v → ∃ c u, l[j]? = some c ∧ v = .str (tx [c]) u) → ∀ ys : List Value, Paired (fun (v r : Value) => ∃ c u, v = .str (tx [c]) u ∧ ∃ t, r = .str (tx (G c)) t) (vs.filter (fun (v : Value) => match v with | .str z _ => p (z.cps.getD 0 0) | _ => false)) ys →
          StrsAre ys ((l.filter p).map fun c => tx (G c)) := by
        intro l
        induction l with
        | nil =>
          intro vs hlen _ ys hF
          have : vs = [] := List.eq_nil_of_length_eq_zero hlen
          subst this
          cases hF
          exact .nil
        | cons c r ih =>
          intro vs hlen hP ys hF
          cases vs with
          | nil => simp at hlen
          | cons v vr =>
            obtain ⟨c', u, hc, rfl⟩ := hP 0 v rfl
            simp only [List.getElem?_cons_zero, Option.some.injEq] at hc
            subst hc
            have hrest := ih vr (by simpa using hlen) (fun j v hv => by simpa using hP (j + 1) v (by simpa using hv))
            rw [List.filter_cons] at hF ⊢
            have e : (tx [c]).cps.getD 0 0 = c := rfl
            simp only [e] at hF
            cases hp : p c with
            | false =>
              simp only [hp, Bool.false_eq_true, if_false] at hF ⊢
              exact hrest ys hF
            | true =>
              simp only [hp, if_true] at hF ⊢
              cases hF with
              | cons hab hr =>
                obtain ⟨c₂, u₂, e₂, t₂, rfl⟩ := hab
                have : c = c₂ := by
                  have := (Value.str.inj e₂).1
                  have := tx_inj.mp this
                  simpa using this
                subst this
                exact .cons _ t₂ (hrest _ hr)
      exact hvs l vs (by rw [hlen]; exact tx_len l) (fun j v hv => sg j v (hP j v hv)) ys.toList hF
end
section
variable {prog : Program} {w : World} {A : Around} {E : Value → Shared → Prop} {s : Shared} {Q : Value → Shared → Prop}
theorem len_D {D : Addr} {ys : List Value} (hpl : s.heap.PlainList D ys.toArray) (hl : ys.length ≤ 1000) (h : Q (.int ys.length (s.toks + 1)) { s with toks := s.toks + 1 + 1 }) :
    wpAny (model prog w) A (call (.builtin "len") [.ref D]) Q E s :=
  len_list hpl.isList (by rw [List.size_toArray]; omega) (by rw [List.size_toArray]; exact h)
end
section
variable {prog : Program} {w : World} {A : Around} {E : Value → Shared → Prop} {s : Shared} {Q : Flow → Shared → Prop} {env : Env}
/-- one statement by itself, then the rest -/
theorem stepS {st : Stmt} {rest : List Stmt} (P : Heap → Prop)
    (h1 : ∀ Q' : Flow → Shared → Prop, (∀ h' tk, P h' → Q' .next { s with heap := h', toks := tk }) → wpAny (model prog w) A (exec st env) Q' E s)
    (h2 : ∀ h' tk, P h' → wpAny (model prog w) A (execs rest env) Q E { s with heap := h', toks := tk }) :
    wpAny (model prog w) A (execs (st :: rest) env) Q E s :=
  wpAny_execs_cons (h1 (fun f s' => match f with | .next => wpAny (model prog w) A (execs rest env) Q E s' | f => Q f s') fun h' tk p => h2 h' tk p)
end
/-- a plain list object -/
abbrev lst (vs : List Value) : Obj := { cls := .type "list", data := .seq vs.toArray }
theorem Fr.put {h₀ h : Heap} {L : Addr} {k : Str} {v : Value} {l : List (Str × Value)} (F : Fr h₀ L h (fun y => if y = k then some v else B l y)) : Fr h₀ L h (B (put k v l)) := B_put (m := B l) rfl ▸ F
def intsOf : List PyData → Option (List Int)
  | [] => some []
  | .int n :: r => (intsOf r).map (n :: ·)
  | _ => none
def strsOf : List PyData → Option (List Str)
  | [] => some []
  | .str x :: r => (strsOf r).map (x :: ·)
  | _ => none
theorem intsAre_of {vs : List Value} {ds : List PyData} (h : DataAre vs ds) : ∀ ns, intsOf ds = some ns → IntsAre vs ns := by
  induction h with
  | nil => intro ns e; cases e; exact .nil
  | @cons v d vs ds hv _ ih =>
    intro ns e
    cases d with
    | int n =>
      simp only [intsOf] at e
      cases hr : intsOf ds with
      | none => rw [hr] at e; cases e
      | some r =>
        rw [hr] at e
        cases e
        have hv' := hv default
        cases hv'
        exact .cons _ _ (ih r hr)
    | _ => simp [intsOf] at e
theorem strsAre_of {vs : List Value} {ds : List PyData} (h : DataAre vs ds) : ∀ ns, strsOf ds = some ns → StrsAre vs ns := by
  induction h with
  | nil => intro ns e; cases e; exact .nil
  | @cons v d vs ds hv _ ih =>
    intro ns e
    cases d with
    | str n =>
      simp only [strsOf] at e
      cases hr : strsOf ds with
      | none => rw [hr] at e; cases e
      | some r =>
        rw [hr] at e
        cases e
        have hv' := hv default
        cases hv'
        exact .cons _ _ (ih r hr)
    | _ => simp [strsOf] at e
section
variable {M : Model} {A : Around} {E : Value → Shared → Prop} {s : Shared} {env : Env} {h₀ : Heap} {L : Addr} {m : Str → Option Value} {news : List (Addr × Obj)} {Q : Value → Shared → Prop}
theorem eval_ints {elts : List Expr} {pos : Pos} (ns : List Int) (F : Fr h₀ L s.heap m) (N : News h₀ L s.heap news) (e : (tupLitsOf elts).bind intsOf = some ns) (hsz : ns.length ≤ 1000)
    (h : ∀ D vs h' tk, Fr h₀ L h' m → News h₀ L h' ((D, lst vs) :: news) → IntsAre vs ns → Q (.ref D) { s with heap := h', toks := tk }) : wpAny M A (eval (.List elts pos) env) Q E s := by
  obtain ⟨ds, e1, e2⟩ := Option.bind_eq_some_iff.mp e
  refine List_ (spliced_lits elts ds s _ e1 fun vs tk hv => ?_)
  have hi := intsAre_of hv ns e2
  exact newList_N F N (fun h' F' N' => h _ vs h' tk F' N' hi) (by rw [hi.length]; unfold sizeLine; omega)
theorem eval_strs {elts : List Expr} {pos : Pos} (ns : List Str) (F : Fr h₀ L s.heap m) (N : News h₀ L s.heap news) (e : (tupLitsOf elts).bind strsOf = some ns) (hsz : ns.length ≤ 1000)
    (h : ∀ D vs h' tk, Fr h₀ L h' m → News h₀ L h' ((D, lst vs) :: news) → StrsAre vs ns → Q (.ref D) { s with heap := h', toks := tk }) : wpAny M A (eval (.List elts pos) env) Q E s := by
  obtain ⟨ds, e1, e2⟩ := Option.bind_eq_some_iff.mp e
  refine List_ (spliced_lits elts ds s _ e1 fun vs tk hv => ?_)
  have hi := strsAre_of hv ns e2
  exact newList_N F N (fun h' F' N' => h _ vs h' tk F' N' hi) (by rw [hi.length]; unfold sizeLine; omega)
end
end Mine
namespace Mine
local macro_rules | `(tactic| walk_at "eval Name") => `(tactic| (refine name_G (by assumption) (by assumption) (by rfl) ?_))
local macro_rules | `(tactic| walk_at "eval Name") => `(tactic| (refine name_Bl (by assumption) (by assumption) (by rfl) ?_))
local macro_rules | `(tactic| walk_at "wk") => `(tactic| ((fail_if_success (with_reducible show wpAny _ _ (exec (.While _ _ _ _) _) _ _ _)); (fail_if_success (with_reducible show wpAny _ _ (exec (.For _ _ _ _ _) _) _ _ _)); (fail_if_success (with_reducible show InvPostN _ _ _ _ _ _ _ _ _)); (fail_if_success (with_reducible show WhileStep _ _ _ _ _ _ _)); (fail_if_success (with_reducible show wpAny _ _ (eval (.ListComp _ _ _ _) _) _ _ _)); (fail_if_success (with_reducible show wpAny _ _ (pyIter _) _ _ _)); first | walk1 | (dsimp only; walk1)))
local macro_rules | `(tactic| walk_at "subscriptTail Name Name str int") => `(tactic| (refine item_T (by omega) (by omega) (by omega) ?_))
local macro_rules | `(tactic| walk_at "subscriptTail Name BinOp str int") => `(tactic| (refine item_T (by omega) (by omega) (by omega) ?_))
local macro_rules | `(tactic| walk_at "subscriptTail Name Constant str int") => `(tactic| (refine item_T (by omega) (by omega) (by omega) ?_))
local macro_rules | `(tactic| walk_at "subscriptTail") => `(tactic| (refine item_T (by omega) (by omega) (by omega) ?_))
local macro_rules | `(tactic| walk_at "subscriptTail Name Slice str ref") => `(tactic| (refine slice_ss_T (s := ⟨_, _, _, _, _⟩) (by assumption) (by assumption) (by omega) (by omega) (by omega) (by omega) ?_; intro _ _ _ _ _))
local macro_rules | `(tactic| walk_at "subscriptTail Name Slice str ref") => `(tactic| (refine slice_sn_T (s := ⟨_, _, _, _, _⟩) (by assumption) (by assumption) (by omega) (by omega) (by omega) ?_; intro _ _ _ _ _))
local macro_rules | `(tactic| walk_at "subscriptTail Name Slice str ref") => `(tactic| (refine slice_ns_T (s := ⟨_, _, _, _, _⟩) (by assumption) (by assumption) (by omega) (by omega) (by omega) ?_; intro _ _ _ _ _))
local macro_rules | `(tactic| walk_at "subscriptTail Name Slice str ref") => `(tactic| (refine slice_rev_T (s := ⟨_, _, _, _, _⟩) (by assumption) (by assumption) (by omega) ?_; intro _ _ _ _ _))
local macro_rules | `(tactic| walk_at "subscriptTail") => `(tactic| (refine slice_ss_T (s := ⟨_, _, _, _, _⟩) (by assumption) (by assumption) (by omega) (by omega) (by omega) (by omega) ?_; intro _ _ _ _ _))
local macro_rules | `(tactic| walk_at "subscriptTail") => `(tactic| (refine slice_sn_T (s := ⟨_, _, _, _, _⟩) (by assumption) (by assumption) (by omega) (by omega) (by omega) ?_; intro _ _ _ _ _))
local macro_rules | `(tactic| walk_at "subscriptTail") => `(tactic| (refine slice_ns_T (s := ⟨_, _, _, _, _⟩) (by assumption) (by assumption) (by omega) (by omega) (by omega) ?_; intro _ _ _ _ _))
local macro_rules | `(tactic| walk_at "subscriptTail") => `(tactic| (refine slice_rev_T (s := ⟨_, _, _, _, _⟩) (by assumption) (by assumption) (by omega) ?_; intro _ _ _ _ _))
local macro_rules | `(tactic| walk_at "call builtin:len") => `(tactic| (refine len_T (by omega) ?_))
local macro_rules | `(tactic| walk_at "call builtin:str.count") => `(tactic| (refine count_T ?_))
local macro_rules | `(tactic| walk_at "binaryOp Add str str") => `(tactic| (refine add_T (by omega) ?_; intro _ _))
local macro_rules | `(tactic| walk_at "inplaceOp Add str str") => `(tactic| (refine iadd_T (by omega) ?_; intro _ _))
local macro_rules | `(tactic| walk_at "eval Name") => `(tactic| (refine nameC_G (by assumption) (by assumption) (by rfl) ?_))
local macro_rules | `(tactic| walk_at "eval Name") => `(tactic| (refine nameC_Bl (by assumption) (by assumption) (by rfl) ?_))
local macro_rules | `(tactic| walk_at "wd") => `(tactic| (walk_at "wk" <;> (try (conv => arg 6; dsimp only)) <;> (try k_gentoks)))
theorem intsAre_items {vs : List Value} : ∀ {a₀ : Int} {n : Nat}, vs.length = n → (∀ (j : Nat) (v : Value), vs[j]? = some v → ∃ t, v = Value.int (a₀ + (j : Int) * 1) t) → IntsAre vs (rangeKs a₀ n) := by
  induction vs with
  | nil => intro a₀ n h _; subst h; exact .nil
  | cons v r ih =>
    intro a₀ n h hv
    subst h
    obtain ⟨t, rfl⟩ := hv 0 v rfl
    have e : rangeKs a₀ (Value.int (a₀ + ((0 : Nat) : Int) * 1) t :: r).length = (a₀ + ((0 : Nat) : Int) * 1) :: rangeKs (a₀ + 1) r.length := by
      simp only [rangeKs, List.length_cons, List.range_succ_eq_map, List.map_cons, List.map_map]
      refine congr (congrArg List.cons (by omega)) (List.map_congr_left fun i _ => ?_)
      simp only [Function.comp]; omega
    rw [e]
    refine .cons _ _ (ih rfl fun j v hj => ?_)
    obtain ⟨t, rfl⟩ := hv (j + 1) v (by simpa using hj)
    exact ⟨t, by rw [show a₀ + ((j + 1 : Nat) : Int) * 1 = a₀ + 1 + (j : Int) * 1 by omega]⟩
set_option maxHeartbeats 4000000 in
theorem T_nothing {w : World} {mg mb : Str → Option Value} {A : Around} {s : Shared} {Q : Flow → Shared → Prop} {L D1 D2 D3 D4 : Addr} {h₀ : Heap} {v1 v2 v3 v4 : List Value} {av : Value} {tl : Tok} (X : Std w mg mb h₀) (hh : A.handled = none)
    (F : Fr h₀ L s.heap (B [(Str.ofString "script", av), (Str.ofString "letters", .str (Str.ofString "filst") tl), (Str.ofString "pairs", .ref D1), (Str.ofString "doubles", .ref D2), (Str.ofString "capitals", .ref D3), (Str.ofString "nothing", .ref D4)]))
    (N : News h₀ L s.heap [(D4, lst v4), (D3, lst v3), (D2, lst v2), (D1, lst v1)]) (e4 : IntsAre v4 [173, 847, 6150, 6155, 6156, 6157, 8203, 8204, 8205, 8288, 65279])
    (h : ∀ D5 v5 h' tk, Fr h₀ L h' (B [(Str.ofString "script", av), (Str.ofString "letters", .str (Str.ofString "filst") tl), (Str.ofString "pairs", .ref D1), (Str.ofString "doubles", .ref D2), (Str.ofString "capitals", .ref D3), (Str.ofString "nothing", .ref D5)]) →
      News h₀ L h' [(D5, lst v5), (D3, lst v3), (D2, lst v2), (D1, lst v1)] → IntsAre v5 ([173, 847, 6150, 6155, 6156, 6157, 8203, 8204, 8205, 8288, 65279] ++ rangeKs 65024 16) → Q .next { s with heap := h', toks := tk }) :
    wpAny (model P0 w) A (exec ((bodyOf 18).getD 5 (.Pass default)) (envOf (Str.ofString "_law_text") (scOf 18) L 148 (.ref 147))) Q (fun _ _ => False) s := by
  conv in (exec _ _) => arg 1; whnf
  repeat' (walk_at "wd")
  refine call_list_range (n := 16) hh (by assumption) (by decide +kernel) (by decide +kernel) (by decide) (fun h₂ tk₂ acc c hk hg hit => ?_)
  have F₂ := Fr.ext (by assumption) hk
  have N₂ := News.ext (by assumption) hk
  have hI : IntsAre acc.toList (rangeKs 65024 16) := intsAre_items (by rw [Array.length_toList]; exact hit.1) (fun j v hj => hit.2 j v (by simpa using hj))
  refine kmk_add_ints F₂ N₂ (N₂.isList (.head _)) (show Heap.IsList _ _ acc.toList.toArray from ⟨_, hg, rfl, _, by rw [Array.toArray_toList]⟩) e4 hI (fun D us h₃ F₃ N₃ hD hus => ?_) (by decide)
  repeat' (walk_at "wd")
  rename_i hA FA NA
  refine h _ _ _ _ (Fr.put FA) (fun p hp => ?_) hus
  rcases List.mem_cons.mp hp with rfl | hp
  · exact NA _ (.head _)
  · exact NA p (.tail _ (.tail _ hp))
section
local macro_rules | `(tactic| walk_at "eval Name") => `(tactic| (refine ld (by assumption) (by assumption) ?_))
noncomputable def textLoop : List Stmt := match (bodyOf 18).getD 9 (.Pass default) with
  | .For _ _ b _ _ => b
  | _ => []
set_option maxHeartbeats 4000000 in
theorem T_cell {w : World} {mg mb : Str → Option Value} {A : Around} {s : Shared} {Q : Flow → Shared → Prop} {L a D6 : Addr} {h₀ : Heap} {m : Str → Option Value} {news : List (Addr × Obj)} {vs v6 : List Value} {ns : List Int} {k : Nat} {tk : Tok} (X : Std w mg mb h₀)
    (F : Fr h₀ L s.heap m) (N : News h₀ L s.heap news) (m1 : m (Str.ofString "script") = some (.ref a)) (m2 : m (Str.ofString "k") = some (.int k tk)) (m3 : m (Str.ofString "cells") = some (.ref D6))
    (hl : h₀.IsList a vs.toArray) (hi : IntsAre vs ns) (hn : vs.length ≤ 1000) (h6 : (D6, lst v6) ∈ news) (e6 : IntsAre v6 [5, 13, 22, 0]) (hk : k < 4)
    (h : ∀ (c : Int) t h' tk, 0 ≤ c → c < 1000000 → Fr h₀ L h' (fun y => if y = Str.ofString "cell" then some (.int c t) else m y) → News h₀ L h' news → Q .next { s with heap := h', toks := tk }) :
    wpAny (model P0 w) A (exec (textLoop.getD 0 (.Pass default)) (envOf (Str.ofString "_law_text") (scOf 18) L 148 (.ref 147))) Q (fun _ _ => False) s := by
  conv in (exec _ _) => arg 1; whnf
  repeat' (walk_at "wd")
  have hl' : s.heap.IsList a vs.toArray := Fr.lst F hl
  have h6' : s.heap.IsList D6 v6.toArray := ⟨_, (N _ h6).1, rfl, _, rfl⟩
  have hil := hi.length
  refine len_list hl' (by rw [List.size_toArray]; omega) ?_
  rw [List.size_toArray]
  repeat' (walk_at "wd")
  · rename_i hA FA NA
    have e6' : (10 : Int) ^ (6 : Int).toNat = 1000000 := by decide
    refine h _ _ _ _ ?_ ?_ FA NA <;> rw [e6']
    · exact Int.fmod_nonneg_of_pos _ (by decide)
    · exact Int.fmod_lt_of_pos _ (by decide)
  · have hc : 0 ≤ ([5, 13, 22, 0] : List Int).getD ((k : Int)).toNat 0 ∧ ([5, 13, 22, 0] : List Int).getD ((k : Int)).toNat 0 < 1000000 := by
      have : k = 0 ∨ k = 1 ∨ k = 2 ∨ k = 3 := by omega
      rcases this with rfl | rfl | rfl | rfl <;> decide
    rename_i hA FA NA
    exact h _ _ _ _ hc.1 hc.2 FA NA
end
section
local macro_rules | `(tactic| walk_at "eval Name") => `(tactic| (refine ld (by assumption) (by assumption) ?_))
local macro_rules | `(tactic| walk_at "loadName") => `(tactic| (refine wpAny_loadName_local (by rfl) (by rfl) (Fr.ns (by assumption)) (by first | assumption | (refine (if_neg (by decide)).trans ?_; first | assumption | (refine (if_neg (by decide)).trans ?_; assumption))) ?_))
local macro_rules | `(tactic| walk_at "eval Name") => `(tactic| (refine ld (by assumption) (by first | assumption | (refine (if_neg (by decide)).trans ?_; first | assumption | (refine (if_neg (by decide)).trans ?_; assumption))) ?_))
section
variable {prog : Program} {w : World} {A : Around} {E : Value → Shared → Prop} {s : Shared} {Q : Value → Shared → Prop}
theorem mul_T {c : Nat} {n : Int} {t u : Tok} (h0 : 0 ≤ n) (h1 : n ≤ 1000) (h : ∀ t' k, Q (.str (tx (List.replicate n.toNat c)) t') { s with toks := k }) : wpAny (model prog w) A (binaryOp .Mult (.str (tx [c]) t) (.int n u)) Q E s := by
  refine SB.mul ⟨by simp; omega, fun _ _ => ?_, fun _ _ => ?_⟩ (fun t' k => by rw [tx_mul]; exact h t' k)
  · rw [tx_len]
    have : (1 : Int) ≤ 9223372036854775807 / n := by
      rw [Int.le_ediv_iff_mul_le (by omega)]; omega
    simp; omega
  · rw [tx_len]
    exact short24 (by simp; omega)
end
def lettersL : List Nat := [102, 105, 108, 115, 116]
theorem isExecs {M : Model} {A : Around} {st : Stmt} {r : List Stmt} {env : Env} {Q : Flow → Shared → Prop} {E : Value → Shared → Prop} {s : Shared} (h : wpAny M A (execs (st :: r) env) Q E s) : wpAny M A (execs (st :: r) env) Q E s := h
def armsOf : Nat → Stmt → List (List Stmt)
  | n + 1, .If _ b [s] _ => match s with
    | .If _ _ _ _ => b :: armsOf n s
    | _ => [b, [s]]
  | _, _ => []
noncomputable def armAt (j : Nat) : List Stmt := (armsOf 10 (textLoop.getD 3 (.Pass default))).getD j []
/-- the code points that `text` makes of a typed piece -/
noncomputable def madeOf (t : List Nat) : List Nat := (t.filter fun (c : Nat) => !decide ((c : Int) ∈ b1K)).flatMap fun (c : Nat) => (b3Of c).cps.toList
noncomputable def okP (t p : List Nat) : Bool := decide (madeOf t = p) && p.all (fun c => c == 32 || (decide (97 ≤ c) && decide (c ≤ 122))) && decide (t.length ≤ 2) && decide (p.length ≤ 2)
/-- what an arm leaves: typed and plain, longer by a piece -/
def ArmPost (Q : Flow → Shared → Prop) (h₀ : Heap) (L : Addr) (m : Str → Option Value) (news : List (Addr × Obj)) (T P : List Nat) (s : Shared) : Prop :=
  ∀ t p h' tk m' t4 t5, okP t p = true → Fr h₀ L h' m' → News h₀ L h' news → m' (Str.ofString "typed") = some (.str (tx (T ++ t)) t4) → m' (Str.ofString "plain") = some (.str (tx (P ++ p)) t5) →
    (∀ y, y ≠ Str.ofString "typed" → y ≠ Str.ofString "plain" → m' y = m y) → Q .next { s with heap := h', toks := tk }
theorem ok_blank : ∀ i : Nat, i < 2 → okP (List.replicate (i + 1) 32) (List.replicate (i + 1) 32) = true := by decide +kernel
theorem ok_letter : ∀ i : Nat, i < 5 → okP [lettersL.getD i 0] [lettersL.getD i 0] = true := by decide +kernel
theorem ok_cap : ∀ i : Nat, i < 11 → ∀ j : Nat, j < 5 → okP [(([65, 119808, 119860, 119912, 120016, 120172, 120224, 120276, 120328, 120380, 120432] : List Int).getD i 0 + (lettersL.getD j 0 : Int) - 97).toNat] [lettersL.getD j 0] = true := by decide +kernel
def pairsL : List (List Nat) := [[102, 102], [102, 105], [102, 108], [115, 116], [115, 115]]
theorem ok_double : ∀ i : Nat, i < 5 → okP [(([64256, 64257, 64258, 64261, 223] : List Int).getD i 0).toNat] (pairsL.getD i []) = true := by decide +kernel
theorem ok_nothing : ∀ i : Nat, i < 27 → okP [(([173, 847, 6150, 6155, 6156, 6157, 8203, 8204, 8205, 8288, 65279] ++ rangeKs 65024 16 : List Int).getD i 0).toNat] [] = true := by decide +kernel
theorem ok_I : okP [73] [105] = true := by decide +kernel
set_option maxHeartbeats 4000000 in
theorem T_arm0 {w : World} {mg mb : Str → Option Value} {A : Around} {s : Shared} {Q : Flow → Shared → Prop} {L D1 D2 D3 D5 : Addr} {h₀ : Heap} {m : Str → Option Value} {news : List (Addr × Obj)} {v1 v2 v3 v5 : List Value} {pt : Int} {T P : List Nat} {t1 t3 t4 t5 : Tok} (X : Std w mg mb h₀)
    (F : Fr h₀ L s.heap m) (N : News h₀ L s.heap news) (m1 : m (Str.ofString "letters") = some (.str (tx lettersL) t1)) (m3 : m (Str.ofString "part") = some (.int pt t3))
    (m4 : m (Str.ofString "typed") = some (.str (tx T) t4)) (m5 : m (Str.ofString "plain") = some (.str (tx P) t5))  (hp : 0 ≤ pt) (hT : T.length ≤ 20) (hP : P.length ≤ 20)
    (h : ArmPost Q h₀ L m news T P s) :
    wpAny (model P0 w) A (execs (armAt 0) (envOf (Str.ofString "_law_text") (scOf 18) L 148 (.ref 147))) Q (fun _ _ => False) s := by
  have hl : lettersL.length = 5 := rfl
  have hb : Str.ofString " " = tx [32] := by decide +kernel
  have f2 : 0 ≤ pt.fmod 2 ∧ pt.fmod 2 < 2 := ⟨Int.fmod_nonneg_of_pos _ (by decide), Int.fmod_lt_of_pos _ (by decide)⟩
  conv in (execs _ _) => arg 1; whnf
  repeat' (walk_at "wd")
  rw [hb, tx_mul]
  refine iadd_T (by simp only [List.length_cons, List.length_nil, List.length_replicate]; omega) (fun t' k => ?_)
  repeat' (walk_at "wd")
  rw [tx_mul]
  refine iadd_T (by simp only [List.length_cons, List.length_nil, List.length_replicate]; omega) (fun t' k => ?_)
  repeat' (walk_at "wd")
  rename_i hA FA NA
  have e : (1 + pt.fmod 2).toNat = (pt.fmod 2).toNat + 1 := by omega
  rw [e] at FA
  exact h _ _ _ _ _ _ _ (ok_blank _ (by omega)) FA NA ((if_neg (by decide)).trans (if_pos rfl)) (if_pos rfl) (fun y h1 h2 => (if_neg h2).trans (if_neg h1))
set_option maxHeartbeats 4000000 in
theorem T_arm1 {w : World} {mg mb : Str → Option Value} {A : Around} {s : Shared} {Q : Flow → Shared → Prop} {L D1 D2 D3 D5 : Addr} {h₀ : Heap} {m : Str → Option Value} {news : List (Addr × Obj)} {v1 v2 v3 v5 : List Value} {pt : Int} {T P : List Nat} {t1 t3 t4 t5 : Tok} (X : Std w mg mb h₀)
    (F : Fr h₀ L s.heap m) (N : News h₀ L s.heap news) (m1 : m (Str.ofString "letters") = some (.str (tx lettersL) t1)) (m3 : m (Str.ofString "part") = some (.int pt t3))
    (m4 : m (Str.ofString "typed") = some (.str (tx T) t4)) (m5 : m (Str.ofString "plain") = some (.str (tx P) t5))  (hp : 0 ≤ pt) (hT : T.length ≤ 20) (hP : P.length ≤ 20)
    (h : ArmPost Q h₀ L m news T P s) :
    wpAny (model P0 w) A (execs (armAt 1) (envOf (Str.ofString "_law_text") (scOf 18) L 148 (.ref 147))) Q (fun _ _ => False) s := by
  have hl : lettersL.length = 5 := rfl
  have f5 : 0 ≤ pt.fmod 5 ∧ pt.fmod 5 < 5 := ⟨Int.fmod_nonneg_of_pos _ (by decide), Int.fmod_lt_of_pos _ (by decide)⟩
  conv in (execs _ _) => arg 1; whnf
  repeat' (walk_at "wd")
  refine iadd_T (by simp only [List.length_cons, List.length_nil, List.length_replicate]; omega) (fun t' k => ?_)
  repeat' (walk_at "wd")
  refine iadd_T (by simp only [List.length_cons, List.length_nil, List.length_replicate]; omega) (fun t' k => ?_)
  repeat' (walk_at "wd")
  rename_i hA FA NA
  exact h _ _ _ _ _ _ _ (ok_letter _ (by omega)) FA NA ((if_neg (by decide)).trans (if_pos rfl)) (if_pos rfl) (fun y h1 h2 => (if_neg h2).trans (if_neg h1))
set_option maxHeartbeats 4000000 in
theorem T_arm4 {w : World} {mg mb : Str → Option Value} {A : Around} {s : Shared} {Q : Flow → Shared → Prop} {L D1 D2 D3 D5 : Addr} {h₀ : Heap} {m : Str → Option Value} {news : List (Addr × Obj)} {v1 v2 v3 v5 : List Value} {pt : Int} {T P : List Nat} {t1 t3 t4 t5 : Tok} (X : Std w mg mb h₀)
    (F : Fr h₀ L s.heap m) (N : News h₀ L s.heap news) (m1 : m (Str.ofString "letters") = some (.str (tx lettersL) t1)) (m3 : m (Str.ofString "part") = some (.int pt t3))
    (m4 : m (Str.ofString "typed") = some (.str (tx T) t4)) (m5 : m (Str.ofString "plain") = some (.str (tx P) t5)) (m9 : m (Str.ofString "nothing") = some (.ref D5)) (e5 : IntsAre v5 ([173, 847, 6150, 6155, 6156, 6157, 8203, 8204, 8205, 8288, 65279] ++ rangeKs 65024 16)) (n5 : (D5, lst v5) ∈ news) (hp : 0 ≤ pt) (hT : T.length ≤ 20) (hP : P.length ≤ 20)
    (h : ArmPost Q h₀ L m news T P s) :
    wpAny (model P0 w) A (execs (armAt 4) (envOf (Str.ofString "_law_text") (scOf 18) L 148 (.ref 147))) Q (fun _ _ => False) s := by
  have hl : lettersL.length = 5 := rfl
  have f27 : 0 ≤ pt.fmod 27 ∧ pt.fmod 27 < 27 := ⟨Int.fmod_nonneg_of_pos _ (by decide), Int.fmod_lt_of_pos _ (by decide)⟩
  have h5 : s.heap.IsList D5 v5.toArray := ⟨_, (N _ n5).1, rfl, _, rfl⟩
  have hi := e5.length
  have hlen : ([173, 847, 6150, 6155, 6156, 6157, 8203, 8204, 8205, 8288, 65279] ++ rangeKs 65024 16 : List Int).length = 27 := by decide +kernel
  conv in (execs _ _) => arg 1; whnf
  repeat' (walk_at "wd")
  have hr : ∀ i : Nat, i < 27 → 0 ≤ ([173, 847, 6150, 6155, 6156, 6157, 8203, 8204, 8205, 8288, 65279] ++ rangeKs 65024 16 : List Int).getD i 0 ∧ ([173, 847, 6150, 6155, 6156, 6157, 8203, 8204, 8205, 8288, 65279] ++ rangeKs 65024 16 : List Int).getD i 0 ≤ 1114111 := by decide +kernel
  have hx := hr (pt.fmod 27).toNat (by omega)
  have hok := ok_nothing (pt.fmod 27).toNat (by omega)
  refine chr_of_range hx.1 hx.2 ?_
  refine iadd_T (b := [_]) (by simp only [List.length_cons, List.length_nil]; omega) (fun t' k => ?_)
  repeat' (walk_at "wd")
  rename_i hA FA NA
  exact h _ [] _ _ _ _ _ hok FA NA (if_pos rfl) ((if_neg (by decide)).trans (by rw [List.append_nil]; exact m5)) (fun y h1 h2 => if_neg h1)
set_option maxHeartbeats 4000000 in
theorem T_arm3 {w : World} {mg mb : Str → Option Value} {A : Around} {s : Shared} {Q : Flow → Shared → Prop} {L D1 D2 D3 D5 : Addr} {h₀ : Heap} {m : Str → Option Value} {news : List (Addr × Obj)} {v1 v2 v3 v5 : List Value} {pt : Int} {T P : List Nat} {t1 t3 t4 t5 : Tok} (X : Std w mg mb h₀)
    (F : Fr h₀ L s.heap m) (N : News h₀ L s.heap news) (m1 : m (Str.ofString "letters") = some (.str (tx lettersL) t1)) (m3 : m (Str.ofString "part") = some (.int pt t3))
    (m4 : m (Str.ofString "typed") = some (.str (tx T) t4)) (m5 : m (Str.ofString "plain") = some (.str (tx P) t5)) (m6 : m (Str.ofString "pairs") = some (.ref D1)) (m7 : m (Str.ofString "doubles") = some (.ref D2)) (e1 : StrsAre v1 (pairsL.map tx)) (e2 : IntsAre v2 [64256, 64257, 64258, 64261, 223]) (n1 : (D1, lst v1) ∈ news) (n2 : (D2, lst v2) ∈ news) (hp : 0 ≤ pt) (hT : T.length ≤ 20) (hP : P.length ≤ 20)
    (h : ArmPost Q h₀ L m news T P s) :
    wpAny (model P0 w) A (execs (armAt 3) (envOf (Str.ofString "_law_text") (scOf 18) L 148 (.ref 147))) Q (fun _ _ => False) s := by
  have hl : lettersL.length = 5 := rfl
  have f5 : 0 ≤ pt.fmod 5 ∧ pt.fmod 5 < 5 := ⟨Int.fmod_nonneg_of_pos _ (by decide), Int.fmod_lt_of_pos _ (by decide)⟩
  have h2 : s.heap.IsList D2 v2.toArray := ⟨_, (N _ n2).1, rfl, _, rfl⟩
  have h1 : s.heap.IsList D1 v1.toArray := ⟨_, (N _ n1).1, rfl, _, rfl⟩
  have hi := e2.length
  have hi1 := e1.length
  have hlen : ([64256, 64257, 64258, 64261, 223] : List Int).length = 5 := rfl
  have hlen1 : (pairsL.map tx).length = 5 := rfl
  conv in (execs _ _) => arg 1; whnf
  repeat' (walk_at "wd")
  have hr : ∀ i : Nat, i < 5 → 0 ≤ ([64256, 64257, 64258, 64261, 223] : List Int).getD i 0 ∧ ([64256, 64257, 64258, 64261, 223] : List Int).getD i 0 ≤ 1114111 := by decide +kernel
  have hx := hr (pt.fmod 5).toNat (by omega)
  have hok := ok_double (pt.fmod 5).toNat (by omega)
  refine chr_of_range hx.1 hx.2 ?_
  refine iadd_T (b := [_]) (by simp only [List.length_cons, List.length_nil]; omega) (fun t' k => ?_)
  repeat' (walk_at "wd")
  rename_i hA FA NA tkA tkB
  have h1' : Heap.IsList hA D1 v1.toArray := ⟨_, (NA _ n1).1, rfl, _, rfl⟩
  refine item_strsA h1' e1 (by omega) (by omega) (by omega) (fun t'' => ?_)
  have e9 : (pairsL.map tx).getD (pt.fmod 5).toNat Str.empty = tx (pairsL.getD (pt.fmod 5).toNat []) := by
    have : ∀ i : Nat, i < 5 → (pairsL.map tx).getD i Str.empty = tx (pairsL.getD i []) := by
      intro i hi
      have : i = 0 ∨ i = 1 ∨ i = 2 ∨ i = 3 ∨ i = 4 := by omega
      rcases this with rfl | rfl | rfl | rfl | rfl <;> rfl
    exact this _ (by omega)
  rw [e9]
  have hz : (pairsL.getD (pt.fmod 5).toNat []).length ≤ 2 := by
    have : ∀ i : Nat, i < 5 → (pairsL.getD i []).length ≤ 2 := by decide
    exact this _ (by omega)
  refine iadd_T (by omega) (fun t3' k' => ?_)
  repeat' (walk_at "wd")
  rename_i hB FB NB
  exact h _ _ _ _ _ _ _ hok FB NB ((if_neg (by decide)).trans (if_pos rfl)) (if_pos rfl) (fun y h1 h2 => (if_neg h2).trans (if_neg h1))
set_option maxHeartbeats 4000000 in
theorem T_arm2 {w : World} {mg mb : Str → Option Value} {A : Around} {s : Shared} {Q : Flow → Shared → Prop} {L D1 D2 D3 D5 : Addr} {h₀ : Heap} {m : Str → Option Value} {news : List (Addr × Obj)} {v1 v2 v3 v5 : List Value} {pt : Int} {T P : List Nat} {t1 t3 t4 t5 : Tok} (X : Std w mg mb h₀)
    (F : Fr h₀ L s.heap m) (N : News h₀ L s.heap news) (m1 : m (Str.ofString "letters") = some (.str (tx lettersL) t1)) (m3 : m (Str.ofString "part") = some (.int pt t3))
    (m4 : m (Str.ofString "typed") = some (.str (tx T) t4)) (m5 : m (Str.ofString "plain") = some (.str (tx P) t5)) (m8 : m (Str.ofString "capitals") = some (.ref D3)) (e3 : IntsAre v3 [65, 119808, 119860, 119912, 120016, 120172, 120224, 120276, 120328, 120380, 120432]) (n3 : (D3, lst v3) ∈ news) (hp : 0 ≤ pt) (hT : T.length ≤ 20) (hP : P.length ≤ 20)
    (h : ArmPost Q h₀ L m news T P s) :
    wpAny (model P0 w) A (execs (armAt 2) (envOf (Str.ofString "_law_text") (scOf 18) L 148 (.ref 147))) Q (fun _ _ => False) s := by
  have hl : lettersL.length = 5 := rfl
  have f5 : 0 ≤ pt.fmod 5 ∧ pt.fmod 5 < 5 := ⟨Int.fmod_nonneg_of_pos _ (by decide), Int.fmod_lt_of_pos _ (by decide)⟩
  have f11 : 0 ≤ (pt.fdiv 5).fmod 11 ∧ (pt.fdiv 5).fmod 11 < 11 := ⟨Int.fmod_nonneg_of_pos _ (by decide), Int.fmod_lt_of_pos _ (by decide)⟩
  have h3 : s.heap.IsList D3 v3.toArray := ⟨_, (N _ n3).1, rfl, _, rfl⟩
  have hi := e3.length
  have hlen : ([65, 119808, 119860, 119912, 120016, 120172, 120224, 120276, 120328, 120380, 120432] : List Int).length = 11 := rfl
  conv in (execs _ _) => arg 1; whnf
  repeat' (walk_at "wd")
  have hr : ∀ i : Nat, i < 11 → ∀ j : Nat, j < 5 → 0 ≤ (([65, 119808, 119860, 119912, 120016, 120172, 120224, 120276, 120328, 120380, 120432] : List Int).getD i 0 + (lettersL.getD j 0 : Int) - 97) ∧ (([65, 119808, 119860, 119912, 120016, 120172, 120224, 120276, 120328, 120380, 120432] : List Int).getD i 0 + (lettersL.getD j 0 : Int) - 97) ≤ 1114111 := by decide +kernel
  have hx := hr ((pt.fdiv 5).fmod 11).toNat (by omega) (pt.fmod 5).toNat (by omega)
  have hok := ok_cap ((pt.fdiv 5).fmod 11).toNat (by omega) (pt.fmod 5).toNat (by omega)
  refine chr_of_range hx.1 hx.2 ?_
  refine iadd_T (b := [_]) (by simp only [List.length_cons, List.length_nil]; omega) (fun t' k => ?_)
  repeat' (walk_at "wd")
  refine iadd_T (b := [_]) (by simp only [List.length_cons, List.length_nil]; omega) (fun t' k => ?_)
  repeat' (walk_at "wd")
  rename_i hA FA NA
  exact h _ _ _ _ _ _ _ hok FA NA ((if_neg (by decide)).trans (if_pos rfl)) (if_pos rfl) (fun y h1 h2 => (if_neg h2).trans (if_neg h1))
set_option maxHeartbeats 4000000 in
theorem T_branch {w : World} {mg mb : Str → Option Value} {A : Around} {s : Shared} {Q : Flow → Shared → Prop} {L D1 D2 D3 D5 : Addr} {h₀ : Heap} {m : Str → Option Value} {news : List (Addr × Obj)} {v1 v2 v3 v5 : List Value} {kd pt : Int} {T P : List Nat} {t1 t2 t3 t4 t5 : Tok} (X : Std w mg mb h₀)
    (F : Fr h₀ L s.heap m) (N : News h₀ L s.heap news) (m1 : m (Str.ofString "letters") = some (.str (tx lettersL) t1)) (m2 : m (Str.ofString "kind") = some (.int kd t2)) (m3 : m (Str.ofString "part") = some (.int pt t3))
    (m4 : m (Str.ofString "typed") = some (.str (tx T) t4)) (m5 : m (Str.ofString "plain") = some (.str (tx P) t5)) (m6 : m (Str.ofString "pairs") = some (.ref D1)) (m7 : m (Str.ofString "doubles") = some (.ref D2)) (m8 : m (Str.ofString "capitals") = some (.ref D3)) (m9 : m (Str.ofString "nothing") = some (.ref D5))
    (e1 : StrsAre v1 (pairsL.map tx)) (e2 : IntsAre v2 [64256, 64257, 64258, 64261, 223]) (e3 : IntsAre v3 [65, 119808, 119860, 119912, 120016, 120172, 120224, 120276, 120328, 120380, 120432])
    (e5 : IntsAre v5 ([173, 847, 6150, 6155, 6156, 6157, 8203, 8204, 8205, 8288, 65279] ++ rangeKs 65024 16))
    (n1 : (D1, lst v1) ∈ news) (n2 : (D2, lst v2) ∈ news) (n3 : (D3, lst v3) ∈ news) (n5 : (D5, lst v5) ∈ news) (hp : 0 ≤ pt) (hT : T.length ≤ 20) (hP : P.length ≤ 20)
    (h : ArmPost Q h₀ L m news T P s) :
    wpAny (model P0 w) A (exec (textLoop.getD 3 (.Pass default)) (envOf (Str.ofString "_law_text") (scOf 18) L 148 (.ref 147))) Q (fun _ _ => False) s := by
  conv in (exec _ _) => arg 1; whnf
  repeat' ((fail_if_success (with_reducible show wpAny _ _ (execs (_ :: _) _) _ _ _)); walk_at "wd")
  · exact T_arm0 (D1 := D1) (D2 := D2) (D3 := D3) (D5 := D5) (v1 := v1) (v2 := v2) (v3 := v3) (v5 := v5) X (by assumption) (by assumption) m1 m3 m4 m5 hp hT hP (fun t p h' tk m' t4 t5 a b c d e f => by
      dsimp only
      repeat' refine wpAny_execs_nil ?_
      exact h t p h' tk m' t4 t5 a b c d e f)
  refine wpAny_execs_cons ?_
  repeat' ((fail_if_success (with_reducible show wpAny _ _ (execs (_ :: _) _) _ _ _)); walk_at "wd")
  · exact T_arm1 (D1 := D1) (D2 := D2) (D3 := D3) (D5 := D5) (v1 := v1) (v2 := v2) (v3 := v3) (v5 := v5) X (by assumption) (by assumption) m1 m3 m4 m5 hp hT hP (fun t p h' tk m' t4 t5 a b c d e f => by
      dsimp only
      repeat' refine wpAny_execs_nil ?_
      exact h t p h' tk m' t4 t5 a b c d e f)
  refine wpAny_execs_cons ?_
  repeat' ((fail_if_success (with_reducible show wpAny _ _ (execs (_ :: _) _) _ _ _)); walk_at "wd")
  · exact T_arm2 (D1 := D1) (D2 := D2) (D3 := D3) (D5 := D5) (v1 := v1) (v2 := v2) (v3 := v3) (v5 := v5) X (by assumption) (by assumption) m1 m3 m4 m5 m8 e3 n3 hp hT hP (fun t p h' tk m' t4 t5 a b c d e f => by
      dsimp only
      repeat' refine wpAny_execs_nil ?_
      exact h t p h' tk m' t4 t5 a b c d e f)
  refine wpAny_execs_cons ?_
  repeat' ((fail_if_success (with_reducible show wpAny _ _ (execs (_ :: _) _) _ _ _)); walk_at "wd")
  · exact T_arm3 (D1 := D1) (D2 := D2) (D3 := D3) (D5 := D5) (v1 := v1) (v2 := v2) (v3 := v3) (v5 := v5) X (by assumption) (by assumption) m1 m3 m4 m5 m6 m7 e1 e2 n1 n2 hp hT hP (fun t p h' tk m' t4 t5 a b c d e f => by
      dsimp only
      repeat' refine wpAny_execs_nil ?_
      exact h t p h' tk m' t4 t5 a b c d e f)
  · exact T_arm4 (D1 := D1) (D2 := D2) (D3 := D3) (D5 := D5) (v1 := v1) (v2 := v2) (v3 := v3) (v5 := v5) X (by assumption) (by assumption) m1 m3 m4 m5 m9 e5 n5 hp hT hP (fun t p h' tk m' t4 t5 a b c d e f => by
      dsimp only
      repeat' refine wpAny_execs_nil ?_
      exact h t p h' tk m' t4 t5 a b c d e f)
set_option maxHeartbeats 4000000 in
theorem T_one {w : World} {mg mb : Str → Option Value} {A : Around} {s : Shared} {Q : Flow → Shared → Prop} {L : Addr} {h₀ : Heap} {m : Str → Option Value} {news : List (Addr × Obj)} {k : Nat} {T P : List Nat} {t2 t4 t5 : Tok} (X : Std w mg mb h₀)
    (F : Fr h₀ L s.heap m) (N : News h₀ L s.heap news) (m2 : m (Str.ofString "k") = some (.int (k : Int) t2))
    (m4 : m (Str.ofString "typed") = some (.str (tx T) t4)) (m5 : m (Str.ofString "plain") = some (.str (tx P) t5)) (hT : T.length ≤ 20) (hP : P.length ≤ 20)
    (h : ∀ t p h' tk m' t4 t5, ((k = 1 ∧ t = [73] ∧ p = [105]) ∨ (k ≠ 1 ∧ t = [] ∧ p = [])) → Fr h₀ L h' m' → News h₀ L h' news → m' (Str.ofString "typed") = some (.str (tx (T ++ t)) t4) → m' (Str.ofString "plain") = some (.str (tx (P ++ p)) t5) →
      (∀ y, y ≠ Str.ofString "typed" → y ≠ Str.ofString "plain" → m' y = m y) → Q .next { s with heap := h', toks := tk }) :
    wpAny (model P0 w) A (exec (textLoop.getD 4 (.Pass default)) (envOf (Str.ofString "_law_text") (scOf 18) L 148 (.ref 147))) Q (fun _ _ => False) s := by
  have hI : Str.ofString "I" = tx [73] := by decide +kernel
  have hi : Str.ofString "i" = tx [105] := by decide +kernel
  conv in (exec _ _) => arg 1; whnf
  repeat' (walk_at "wd")
  · rw [hI]
    refine iadd_T (by simp only [List.length_cons, List.length_nil]; omega) (fun t' k => ?_)
    repeat' (walk_at "wd")
    rw [hi]
    refine iadd_T (by simp only [List.length_cons, List.length_nil]; omega) (fun t' k => ?_)
    repeat' (walk_at "wd")
    rename_i hA FA NA
    exact h _ _ _ _ _ _ _ (.inl ⟨by omega, rfl, rfl⟩) FA NA ((if_neg (by decide)).trans (if_pos rfl)) (if_pos rfl) (fun y h1 h2 => (if_neg h2).trans (if_neg h1))
  · exact h [] [] _ _ _ _ _ (.inr ⟨by omega, rfl, rfl⟩) (by assumption) (by assumption) (by rw [List.append_nil]; exact m4) (by rw [List.append_nil]; exact m5) (fun y h1 h2 => rfl)
set_option maxHeartbeats 4000000 in
theorem T_turn {w : World} {mg mb : Str → Option Value} {A : Around} {s : Shared} {Q : Flow → Shared → Prop} {L a D1 D2 D3 D5 D6 : Addr} {h₀ : Heap} {m : Str → Option Value} {news : List (Addr × Obj)} {vs v1 v2 v3 v5 v6 : List Value} {ns : List Int} {k : Nat} {T P : List Nat} {t1 t2 t4 t5 : Tok} (X : Std w mg mb h₀)
    (F : Fr h₀ L s.heap m) (N : News h₀ L s.heap news) (m0 : m (Str.ofString "script") = some (.ref a)) (m1 : m (Str.ofString "letters") = some (.str (tx lettersL) t1)) (m2 : m (Str.ofString "k") = some (.int (k : Int) t2)) (m3 : m (Str.ofString "cells") = some (.ref D6))
    (m4 : m (Str.ofString "typed") = some (.str (tx T) t4)) (m5 : m (Str.ofString "plain") = some (.str (tx P) t5)) (m6 : m (Str.ofString "pairs") = some (.ref D1)) (m7 : m (Str.ofString "doubles") = some (.ref D2)) (m8 : m (Str.ofString "capitals") = some (.ref D3)) (m9 : m (Str.ofString "nothing") = some (.ref D5))
    (hl : h₀.IsList a vs.toArray) (hi : IntsAre vs ns) (hn : vs.length ≤ 1000)
    (e1 : StrsAre v1 (pairsL.map tx)) (e2 : IntsAre v2 [64256, 64257, 64258, 64261, 223]) (e3 : IntsAre v3 [65, 119808, 119860, 119912, 120016, 120172, 120224, 120276, 120328, 120380, 120432])
    (e5 : IntsAre v5 ([173, 847, 6150, 6155, 6156, 6157, 8203, 8204, 8205, 8288, 65279] ++ rangeKs 65024 16)) (e6 : IntsAre v6 [5, 13, 22, 0])
    (n1 : (D1, lst v1) ∈ news) (n2 : (D2, lst v2) ∈ news) (n3 : (D3, lst v3) ∈ news) (n5 : (D5, lst v5) ∈ news) (n6 : (D6, lst v6) ∈ news) (hk : k < 4) (hT : T.length ≤ 18) (hP : P.length ≤ 18)
    (h : ∀ t p t' p' h' tk m' t4 t5, okP t p = true → ((k = 1 ∧ t' = [73] ∧ p' = [105]) ∨ (k ≠ 1 ∧ t' = [] ∧ p' = [])) → Fr h₀ L h' m' → News h₀ L h' news → m' (Str.ofString "typed") = some (.str (tx (T ++ t ++ t')) t4) → m' (Str.ofString "plain") = some (.str (tx (P ++ p ++ p')) t5) →
      (∀ y, y ≠ Str.ofString "typed" → y ≠ Str.ofString "plain" → y ≠ Str.ofString "cell" → y ≠ Str.ofString "kind" → y ≠ Str.ofString "part" → m' y = m y) → Q .next { s with heap := h', toks := tk }) :
    wpAny (model P0 w) A (execs textLoop (envOf (Str.ofString "_law_text") (scOf 18) L 148 (.ref 147))) Q (fun _ _ => False) s := by
  conv in (execs _ _) => arg 1; whnf
  refine wpAny_execs_cons (T_cell (a := a) (D6 := D6) (news := news) (vs := vs) (v6 := v6) (ns := ns) (k := k) X F N m0 m2 m3 hl hi hn n6 e6 hk (fun c tc h₁ tk₁ c0 c1 F₁ N₁ => ?_))
  dsimp only
  obtain ⟨mA, hmA⟩ : ∃ mA : Str → Option Value, mA = fun y => if y = Str.ofString "cell" then some (.int c tc) else m y := ⟨_, rfl⟩
  rw [← hmA] at F₁
  have kA : ∀ y, y ≠ Str.ofString "cell" → mA y = m y := fun y hy => by rw [hmA]; exact if_neg hy
  have cA : mA (Str.ofString "cell") = some (.int c tc) := by rw [hmA]; exact if_pos rfl
  clear hmA
  refine wpAny_execs_cons ?_
  repeat' ((fail_if_success (with_reducible show wpAny _ _ (execs (_ :: _) _) _ _ _)); walk_at "wd")
  refine wpAny_execs_cons ?_
  repeat' ((fail_if_success (with_reducible show wpAny _ _ (execs (_ :: _) _) _ _ _)); walk_at "wd")
  rename_i tkk _ _ _ _ _ tkp _ hB FB NB
  obtain ⟨mB, hmB⟩ : ∃ mB : Str → Option Value, mB = fun y => if y = Str.ofString "part" then some (.int (c.fdiv 5) tkp) else if y = Str.ofString "kind" then some (.int (c.fmod 5) tkk) else mA y := ⟨_, rfl⟩
  rw [← hmB] at FB
  have kB : ∀ y, y ≠ Str.ofString "cell" → y ≠ Str.ofString "kind" → y ≠ Str.ofString "part" → mB y = m y := fun y h1 h2 h3 => by rw [hmB]; exact (if_neg h3).trans ((if_neg h2).trans (kA y h1))
  have bK : mB (Str.ofString "kind") = some (.int (c.fmod 5) tkk) := by rw [hmB]; exact (if_neg (by decide)).trans (if_pos rfl)
  have bP : mB (Str.ofString "part") = some (.int (c.fdiv 5) tkp) := by rw [hmB]; exact if_pos rfl
  clear hmB
  have hp : 0 ≤ c.fdiv 5 := by rw [Int.fdiv_eq_ediv_of_nonneg _ (by decide)]; omega
  refine wpAny_execs_cons (T_branch (D1 := D1) (D2 := D2) (D3 := D3) (D5 := D5) (v1 := v1) (v2 := v2) (v3 := v3) (v5 := v5) X FB NB ((kB _ (by decide) (by decide) (by decide)).trans m1) bK bP ((kB _ (by decide) (by decide) (by decide)).trans m4) ((kB _ (by decide) (by decide) (by decide)).trans m5) ((kB _ (by decide) (by decide) (by decide)).trans m6) ((kB _ (by decide) (by decide) (by decide)).trans m7) ((kB _ (by decide) (by decide) (by decide)).trans m8) ((kB _ (by decide) (by decide) (by decide)).trans m9) e1 e2 e3 e5 n1 n2 n3 n5 hp (by omega) (by omega) ?_)
  intro t p h₃ tk₃ m₃ t4' t5' hok F₃ N₃ q4 q5 q6
  dsimp only
  have hlen : t.length ≤ 2 ∧ p.length ≤ 2 := by
    unfold okP at hok
    simp only [Bool.and_eq_true, decide_eq_true_eq] at hok
    exact ⟨hok.1.2, hok.2⟩
  refine wpAny_execs_cons (T_one (k := k) X F₃ N₃ ((q6 _ (by decide) (by decide)).trans ((kB _ (by decide) (by decide) (by decide)).trans m2)) q4 q5 (by rw [List.length_append]; omega) (by rw [List.length_append]; omega) ?_)
  intro t' p' h₄ tk₄ m₄ t4'' t5'' ho F₄ N₄ r4 r5 r6
  dsimp only
  refine wpAny_execs_nil ?_
  exact h t p t' p' h₄ tk₄ m₄ _ _ hok ho F₄ N₄ r4 r5 (fun y y1 y2 y3 y4 y5 => (r6 y y1 y2).trans ((q6 y y1 y2).trans (kB y y3 y4 y5)))
theorem madeOf_append (a b : List Nat) : madeOf (a ++ b) = madeOf a ++ madeOf b := by
  unfold madeOf
  rw [List.filter_append, List.flatMap_append]
/-- what holds of typed and plain behind k turns -/
structure Good (k : Nat) (T P : List Nat) : Prop where
  made : madeOf T = P
  signs : ∀ c ∈ P, c = 32 ∨ (97 ≤ c ∧ c ≤ 122)
  lt : T.length ≤ 3 * k
  lp : P.length ≤ 3 * k
  letter : 2 ≤ k → 105 ∈ P
theorem Good.zero : Good 0 [] [] := ⟨rfl, by simp, by simp, by simp, by omega⟩
theorem Good.succ {k : Nat} {T P t p t' p' : List Nat} (G : Good k T P) (ho : okP t p = true) (ho' : (k = 1 ∧ t' = [73] ∧ p' = [105]) ∨ (k ≠ 1 ∧ t' = [] ∧ p' = [])) : Good (k + 1) (T ++ t ++ t') (P ++ p ++ p') := by
  obtain ⟨g1, g2, g3, g4, g5⟩ := G
  unfold okP at ho
  simp only [Bool.and_eq_true, decide_eq_true_eq, List.all_eq_true, Bool.or_eq_true, beq_iff_eq] at ho
  obtain ⟨⟨⟨h1, h2⟩, h3⟩, h4⟩ := ho
  have hI : madeOf [73] = [105] := by
    have := ok_I
    unfold okP at this
    simp only [Bool.and_eq_true, decide_eq_true_eq] at this
    exact this.1.1.1
  rcases ho' with ⟨hk, rfl, rfl⟩ | ⟨hk, rfl, rfl⟩
  · refine ⟨by rw [madeOf_append, madeOf_append, g1, h1, hI], fun c hc => ?_, by simp only [List.length_append, List.length_cons, List.length_nil]; omega, by simp only [List.length_append, List.length_cons, List.length_nil]; omega, fun _ => by simp⟩
    rcases List.mem_append.mp hc with hc | hc
    · rcases List.mem_append.mp hc with hc | hc
      · exact g2 c hc
      · exact h2 c hc
    · rw [List.mem_singleton.mp hc]; exact .inr (by omega)
  · refine ⟨by rw [List.append_nil, List.append_nil, madeOf_append, g1, h1], fun c hc => ?_, by simp only [List.length_append, List.length_nil]; omega, by simp only [List.length_append, List.length_nil]; omega, fun h => ?_⟩
    · rw [List.append_nil] at hc
      rcases List.mem_append.mp hc with hc | hc
      · exact g2 c hc
      · exact h2 c hc
    · rw [List.append_nil]
      exact List.mem_append_left _ (g5 (by omega))
set_option maxHeartbeats 4000000 in
theorem C_text {w : World} {mg mb : Str → Option Value} {A : Around} {s : Shared} {Q E : Value → Shared → Prop} {a : Addr} {vs : List Value} {ns : List Int} (X : Std w mg mb s.heap) (hd : A.depth + 1 < recursionLimit) (hh : A.handled = none)
    (hl : s.heap.IsList a vs.toArray) (hi : IntsAre vs ns) (hn : vs.length ≤ 1000)
    (h : ∀ D h' tk t1 t2 T P, Good 4 T P → Ext s.heap h' → s.heap.get? D = none → h'.get? D = some { cls := .type "tuple", data := .seq #[.str (tx T) t1, .str (tx P) t2] } → Q (.ref D) { s with heap := h', toks := tk }) : wpAny (model P0 w) A (call (.ref 148) [.ref a]) Q E s := by
  refine call_fn 18 (binds := [(Str.ofString "script", .ref a)]) X (Nat.lt_of_succ_lt hd) rfl rfl rfl rfl rfl rfl (locs (by rfl)) (fun h₁ F => ?_)
  have N : News s.heap s.heap.objs.size h₁ [] := News.nil
  replace F : Fr s.heap s.heap.objs.size h₁ (B [(Str.ofString "script", .ref a)]) := F
  conv in (execs _ _) => arg 1; whnf
  with_reducible refine stepS (P := fun h' => ∃ (tl : Tok), Fr s.heap s.heap.objs.size h' (B [(Str.ofString "script", .ref a), (Str.ofString "letters", .str (Str.ofString "filst") tl)]) ∧ News s.heap s.heap.objs.size h' []) (fun Q' hQ => ?_) (fun h₁ tk hP => ?_)
  · clear h
    repeat' (walk_at "wd")
    exact hQ _ _ ⟨_, Fr.put (by assumption), by assumption⟩
  clear F N
  obtain ⟨tl, F, N⟩ := hP
  with_reducible refine stepS (P := fun h' => ∃ (tl : Tok) (D1 : Addr) (v1 : List Value), Fr s.heap s.heap.objs.size h' (B [(Str.ofString "script", .ref a), (Str.ofString "letters", .str (Str.ofString "filst") tl), (Str.ofString "pairs", .ref D1)]) ∧ News s.heap s.heap.objs.size h' [(D1, lst v1)] ∧ StrsAre v1 [Str.ofString "ff", Str.ofString "fi", Str.ofString "fl", Str.ofString "st", Str.ofString "ss"]) (fun Q' hQ => ?_) (fun h₁ tk hP => ?_)
  · clear h
    walk1
    with_reducible refine eval_strs [Str.ofString "ff", Str.ofString "fi", Str.ofString "fl", Str.ofString "st", Str.ofString "ss"] (by assumption) (by assumption) ?_ ?_ ?_
    · kernel_rfl
    · decide
    intro D vs1 h3 tk3 F3 N3 e9
    repeat' (walk_at "wd")
    exact hQ _ _ ⟨_, _, _, Fr.put (by assumption), by assumption, e9⟩
  clear F N
  obtain ⟨tl, D1, v1, F, N, ev1⟩ := hP
  with_reducible refine stepS (P := fun h' => ∃ (tl : Tok) (D1 : Addr) (v1 : List Value) (D2 : Addr) (v2 : List Value), Fr s.heap s.heap.objs.size h' (B [(Str.ofString "script", .ref a), (Str.ofString "letters", .str (Str.ofString "filst") tl), (Str.ofString "pairs", .ref D1), (Str.ofString "doubles", .ref D2)]) ∧ News s.heap s.heap.objs.size h' [(D2, lst v2), (D1, lst v1)] ∧ StrsAre v1 [Str.ofString "ff", Str.ofString "fi", Str.ofString "fl", Str.ofString "st", Str.ofString "ss"] ∧ IntsAre v2 [64256, 64257, 64258, 64261, 223]) (fun Q' hQ => ?_) (fun h₁ tk hP => ?_)
  · clear h
    walk1
    with_reducible refine eval_ints [64256, 64257, 64258, 64261, 223] (by assumption) (by assumption) ?_ ?_ ?_
    · kernel_rfl
    · decide
    intro D vs1 h3 tk3 F3 N3 e9
    repeat' (walk_at "wd")
    exact hQ _ _ ⟨_, _, _, _, _, Fr.put (by assumption), by assumption, ev1, e9⟩
  clear F N ev1
  obtain ⟨tl, D1, v1, D2, v2, F, N, ev1, ev2⟩ := hP
  with_reducible refine stepS (P := fun h' => ∃ (tl : Tok) (D1 : Addr) (v1 : List Value) (D2 : Addr) (v2 : List Value) (D3 : Addr) (v3 : List Value), Fr s.heap s.heap.objs.size h' (B [(Str.ofString "script", .ref a), (Str.ofString "letters", .str (Str.ofString "filst") tl), (Str.ofString "pairs", .ref D1), (Str.ofString "doubles", .ref D2), (Str.ofString "capitals", .ref D3)]) ∧ News s.heap s.heap.objs.size h' [(D3, lst v3), (D2, lst v2), (D1, lst v1)] ∧ StrsAre v1 [Str.ofString "ff", Str.ofString "fi", Str.ofString "fl", Str.ofString "st", Str.ofString "ss"] ∧ IntsAre v2 [64256, 64257, 64258, 64261, 223] ∧ IntsAre v3 [65, 119808, 119860, 119912, 120016, 120172, 120224, 120276, 120328, 120380, 120432]) (fun Q' hQ => ?_) (fun h₁ tk hP => ?_)
  · clear h
    walk1
    with_reducible refine eval_ints [65, 119808, 119860, 119912, 120016, 120172, 120224, 120276, 120328, 120380, 120432] (by assumption) (by assumption) ?_ ?_ ?_
    · kernel_rfl
    · decide
    intro D vs1 h3 tk3 F3 N3 e9
    repeat' (walk_at "wd")
    exact hQ _ _ ⟨_, _, _, _, _, _, _, Fr.put (by assumption), by assumption, ev1, ev2, e9⟩
  clear F N ev1 ev2
  obtain ⟨tl, D1, v1, D2, v2, D3, v3, F, N, ev1, ev2, ev3⟩ := hP
  with_reducible refine stepS (P := fun h' => ∃ (tl : Tok) (D1 : Addr) (v1 : List Value) (D2 : Addr) (v2 : List Value) (D3 : Addr) (v3 : List Value) (D4 : Addr) (v4 : List Value), Fr s.heap s.heap.objs.size h' (B [(Str.ofString "script", .ref a), (Str.ofString "letters", .str (Str.ofString "filst") tl), (Str.ofString "pairs", .ref D1), (Str.ofString "doubles", .ref D2), (Str.ofString "capitals", .ref D3), (Str.ofString "nothing", .ref D4)]) ∧ News s.heap s.heap.objs.size h' [(D4, lst v4), (D3, lst v3), (D2, lst v2), (D1, lst v1)] ∧ StrsAre v1 [Str.ofString "ff", Str.ofString "fi", Str.ofString "fl", Str.ofString "st", Str.ofString "ss"] ∧ IntsAre v2 [64256, 64257, 64258, 64261, 223] ∧ IntsAre v3 [65, 119808, 119860, 119912, 120016, 120172, 120224, 120276, 120328, 120380, 120432] ∧ IntsAre v4 [173, 847, 6150, 6155, 6156, 6157, 8203, 8204, 8205, 8288, 65279]) (fun Q' hQ => ?_) (fun h₁ tk hP => ?_)
  · clear h
    walk1
    with_reducible refine eval_ints [173, 847, 6150, 6155, 6156, 6157, 8203, 8204, 8205, 8288, 65279] (by assumption) (by assumption) ?_ ?_ ?_
    · kernel_rfl
    · decide
    intro D vs1 h3 tk3 F3 N3 e9
    repeat' (walk_at "wd")
    exact hQ _ _ ⟨_, _, _, _, _, _, _, _, _, Fr.put (by assumption), by assumption, ev1, ev2, ev3, e9⟩
  clear F N ev1 ev2 ev3
  obtain ⟨tl, D1, v1, D2, v2, D3, v3, D4, v4, F, N, ev1, ev2, ev3, ev4⟩ := hP
  refine wpAny_execs_cons (T_nothing X hh F N ev4 (fun D5 v5 h₅ tk₅ F N e5 => ?_))
  dsimp only
  with_reducible refine stepS (P := fun h' => ∃ (D6 : Addr) (v6 : List Value), Fr s.heap s.heap.objs.size h' (B [(Str.ofString "script", .ref a), (Str.ofString "letters", .str (Str.ofString "filst") tl), (Str.ofString "pairs", .ref D1), (Str.ofString "doubles", .ref D2), (Str.ofString "capitals", .ref D3), (Str.ofString "nothing", .ref D5), (Str.ofString "cells", .ref D6)]) ∧ News s.heap s.heap.objs.size h' [(D6, lst v6), (D5, lst v5), (D3, lst v3), (D2, lst v2), (D1, lst v1)] ∧ IntsAre v6 [5, 13, 22, 0]) (fun Q' hQ => ?_) (fun h₁ tk hP => ?_)
  · clear h
    walk1
    with_reducible refine eval_ints [5, 13, 22, 0] (by assumption) (by assumption) ?_ ?_ ?_
    · kernel_rfl
    · decide
    intro D vs1 h3 tk3 F3 N3 e9
    repeat' (walk_at "wd")
    exact hQ _ _ ⟨_, _, Fr.put (by assumption), by assumption, e9⟩
  clear F N
  obtain ⟨D6, v6, F, N, e6⟩ := hP
  with_reducible refine stepS (P := fun h' => ∃ (t4 : Tok), Fr s.heap s.heap.objs.size h' (B [(Str.ofString "script", .ref a), (Str.ofString "letters", .str (Str.ofString "filst") tl), (Str.ofString "pairs", .ref D1), (Str.ofString "doubles", .ref D2), (Str.ofString "capitals", .ref D3), (Str.ofString "nothing", .ref D5), (Str.ofString "cells", .ref D6), (Str.ofString "typed", .str (tx []) t4)]) ∧ News s.heap s.heap.objs.size h' [(D6, lst v6), (D5, lst v5), (D3, lst v3), (D2, lst v2), (D1, lst v1)]) (fun Q' hQ => ?_) (fun h₁ tk hP => ?_)
  · clear h
    repeat' (walk_at "wd")
    exact hQ _ _ ⟨_, Fr.put (by assumption), by assumption⟩
  clear F N
  obtain ⟨t4, F, N⟩ := hP
  with_reducible refine stepS (P := fun h' => ∃ (t5 : Tok), Fr s.heap s.heap.objs.size h' (B [(Str.ofString "script", .ref a), (Str.ofString "letters", .str (Str.ofString "filst") tl), (Str.ofString "pairs", .ref D1), (Str.ofString "doubles", .ref D2), (Str.ofString "capitals", .ref D3), (Str.ofString "nothing", .ref D5), (Str.ofString "cells", .ref D6), (Str.ofString "typed", .str (tx []) t4), (Str.ofString "plain", .str (tx []) t5)]) ∧ News s.heap s.heap.objs.size h' [(D6, lst v6), (D5, lst v5), (D3, lst v3), (D2, lst v2), (D1, lst v1)]) (fun Q' hQ => ?_) (fun h₁ tk hP => ?_)
  · clear h
    repeat' (walk_at "wd")
    exact hQ _ _ ⟨_, Fr.put (by assumption), by assumption⟩
  clear F N
  obtain ⟨t5, F, N⟩ := hP
  have hlet : Str.ofString "filst" = tx lettersL := by decide +kernel
  have hpairs : [Str.ofString "ff", Str.ofString "fi", Str.ofString "fl", Str.ofString "st", Str.ofString "ss"] = pairsL.map tx := by decide +kernel
  rw [hlet] at F
  rw [hpairs] at ev1
  refine wpAny_execs_cons ?_
  refine For_invVF (by assumption) rfl rfl ?_
  repeat' (walk_at "wk")
  refine iter_rangeJ (n := 4) (fun i m news => news = [(D6, lst v6), (D5, lst v5), (D3, lst v3), (D2, lst v2), (D1, lst v1)] ∧ ∃ T P t4 t5, Good i T P ∧ m (Str.ofString "script") = some (.ref a) ∧ m (Str.ofString "letters") = some (.str (tx lettersL) tl) ∧ m (Str.ofString "cells") = some (.ref D6) ∧ m (Str.ofString "typed") = some (.str (tx T) t4) ∧ m (Str.ofString "plain") = some (.str (tx P) t5) ∧ m (Str.ofString "pairs") = some (.ref D1) ∧ m (Str.ofString "doubles") = some (.ref D2) ∧ m (Str.ofString "capitals") = some (.ref D3) ∧ m (Str.ofString "nothing") = some (.ref D5)) hh (by assumption) (by decide +kernel) (by decide +kernel) (by assumption) (by assumption) ?_ ?_ ?_
  · exact ⟨rfl, [], [], t4, t5, Good.zero, rfl, rfl, rfl, rfl, rfl, rfl, rfl, rfl, rfl⟩
  · rintro i t m₁ news₁ h₅ tk₅ own hi' ha ho' ⟨rfl, T, P, t4, t5, G, q0, q1, q3, q4, q5, q6, q7, q8, q9⟩ F₅ N₅
    have g3 := G.lt
    have g4 := G.lp
    have ek : (0 : Int) + (i : Int) * 1 = (i : Int) := by omega
    rw [ek] at F₅
    have up : ∀ {x : Str} {v : Value}, x ≠ Str.ofString "k" → m₁ x = some v → (if x = Str.ofString "k" then some (Value.int (i : Int) t) else m₁ x) = some v := fun hx e => (if_neg hx).trans e
    refine T_turn (a := a) (D1 := D1) (D2 := D2) (D3 := D3) (D5 := D5) (D6 := D6) (v1 := v1) (v2 := v2) (v3 := v3) (v5 := v5) (v6 := v6) (k := i) (T := T) (P := P) X F₅ N₅ (up (by decide) q0) (up (by decide) q1) (if_pos rfl) (up (by decide) q3) (up (by decide) q4) (up (by decide) q5) (up (by decide) q6) (up (by decide) q7) (up (by decide) q8) (up (by decide) q9) hl hi hn ev1 ev2 ev3 e5 e6 (by simp) (by simp) (by simp) (by simp) (by simp) hi' (by omega) (by omega) ?_
    intro t' p' t'' p'' h₆ tk₆ m₆ t4' t5' hok hk1 F₆ N₆ r4 r5 r6
    have kp : ∀ {x : Str} {v : Value}, x ≠ Str.ofString "k" → x ≠ Str.ofString "typed" → x ≠ Str.ofString "plain" → x ≠ Str.ofString "cell" → x ≠ Str.ofString "kind" → x ≠ Str.ofString "part" → m₁ x = some v → m₆ x = some v := fun x0 x1 x2 x3 x4 x5 e => (r6 _ x1 x2 x3 x4 x5).trans (up x0 e)
    refine InvEndN.intro F₆ N₆ (nx := [(D6, lst v6), (D5, lst v5), (D3, lst v3), (D2, lst v2), (D1, lst v1)]) ⟨rfl, _, _, _, _, G.succ hok hk1, kp (by decide) (by decide) (by decide) (by decide) (by decide) (by decide) q0, kp (by decide) (by decide) (by decide) (by decide) (by decide) (by decide) q1, kp (by decide) (by decide) (by decide) (by decide) (by decide) (by decide) q3, r4, r5, kp (by decide) (by decide) (by decide) (by decide) (by decide) (by decide) q6, kp (by decide) (by decide) (by decide) (by decide) (by decide) (by decide) q7, kp (by decide) (by decide) (by decide) (by decide) (by decide) (by decide) q8, kp (by decide) (by decide) (by decide) (by decide) (by decide) (by decide) q9⟩ rfl (fun p hp => List.mem_append_left _ hp) (fun p hp => List.mem_append_right _ hp)
  · rintro m₁ news₁ h₅ tk₅ ⟨rfl, T, P, t4, t5, G, q0, q1, q3, q4, q5, q6, q7, q8, q9⟩ F₅ N₅
    dsimp only
    repeat' (walk_at "wd")
    rename_i hA FA NA
    exact h _ _ _ _ _ _ _ G (Fr.growth FA) (NA _ (List.mem_cons_self ..)).2.2 (NA _ (List.mem_cons_self ..)).1
end
end Mine
namespace Mine
local macro_rules | `(tactic| walk_at "eval Name") => `(tactic| (refine name_G (by assumption) (by assumption) (by rfl) ?_))
local macro_rules | `(tactic| walk_at "eval Name") => `(tactic| (refine name_Bl (by assumption) (by assumption) (by rfl) ?_))
local macro_rules | `(tactic| walk_at "wk") => `(tactic| ((fail_if_success (with_reducible show wpAny _ _ (exec (.While _ _ _ _) _) _ _ _)); (fail_if_success (with_reducible show wpAny _ _ (exec (.For _ _ _ _ _) _) _ _ _)); (fail_if_success (with_reducible show InvPostN _ _ _ _ _ _ _ _ _)); (fail_if_success (with_reducible show WhileStep _ _ _ _ _ _ _)); (fail_if_success (with_reducible show wpAny _ _ (eval (.ListComp _ _ _ _) _) _ _ _)); (fail_if_success (with_reducible show wpAny _ _ (pyIter _) _ _ _)); first | walk1 | (dsimp only; walk1)))
local macro_rules | `(tactic| walk_at "subscriptTail Name Name str int") => `(tactic| (refine item_T (by omega) (by omega) (by omega) ?_))
local macro_rules | `(tactic| walk_at "subscriptTail Name BinOp str int") => `(tactic| (refine item_T (by omega) (by omega) (by omega) ?_))
local macro_rules | `(tactic| walk_at "subscriptTail Name Constant str int") => `(tactic| (refine item_T (by omega) (by omega) (by omega) ?_))
local macro_rules | `(tactic| walk_at "subscriptTail") => `(tactic| (refine item_T (by omega) (by omega) (by omega) ?_))
local macro_rules | `(tactic| walk_at "subscriptTail Name Slice str ref") => `(tactic| (refine slice_ss_T (s := ⟨_, _, _, _, _⟩) (by assumption) (by assumption) (by omega) (by omega) (by omega) (by omega) ?_; intro _ _ _ _ _))
local macro_rules | `(tactic| walk_at "subscriptTail Name Slice str ref") => `(tactic| (refine slice_sn_T (s := ⟨_, _, _, _, _⟩) (by assumption) (by assumption) (by omega) (by omega) (by omega) ?_; intro _ _ _ _ _))
local macro_rules | `(tactic| walk_at "subscriptTail Name Slice str ref") => `(tactic| (refine slice_ns_T (s := ⟨_, _, _, _, _⟩) (by assumption) (by assumption) (by omega) (by omega) (by omega) ?_; intro _ _ _ _ _))
local macro_rules | `(tactic| walk_at "subscriptTail Name Slice str ref") => `(tactic| (refine slice_rev_T (s := ⟨_, _, _, _, _⟩) (by assumption) (by assumption) (by omega) ?_; intro _ _ _ _ _))
local macro_rules | `(tactic| walk_at "subscriptTail") => `(tactic| (refine slice_ss_T (s := ⟨_, _, _, _, _⟩) (by assumption) (by assumption) (by omega) (by omega) (by omega) (by omega) ?_; intro _ _ _ _ _))
local macro_rules | `(tactic| walk_at "subscriptTail") => `(tactic| (refine slice_sn_T (s := ⟨_, _, _, _, _⟩) (by assumption) (by assumption) (by omega) (by omega) (by omega) ?_; intro _ _ _ _ _))
local macro_rules | `(tactic| walk_at "subscriptTail") => `(tactic| (refine slice_ns_T (s := ⟨_, _, _, _, _⟩) (by assumption) (by assumption) (by omega) (by omega) (by omega) ?_; intro _ _ _ _ _))
local macro_rules | `(tactic| walk_at "subscriptTail") => `(tactic| (refine slice_rev_T (s := ⟨_, _, _, _, _⟩) (by assumption) (by assumption) (by omega) ?_; intro _ _ _ _ _))
local macro_rules | `(tactic| walk_at "call builtin:len") => `(tactic| (refine len_T (by omega) ?_))
local macro_rules | `(tactic| walk_at "call builtin:str.count") => `(tactic| (refine count_T ?_))
local macro_rules | `(tactic| walk_at "binaryOp Add str str") => `(tactic| (refine add_T (by omega) ?_; intro _ _))
local macro_rules | `(tactic| walk_at "inplaceOp Add str str") => `(tactic| (refine iadd_T (by omega) ?_; intro _ _))
local macro_rules | `(tactic| walk_at "eval Name") => `(tactic| (refine nameC_G (by assumption) (by assumption) (by rfl) ?_))
local macro_rules | `(tactic| walk_at "eval Name") => `(tactic| (refine nameC_Bl (by assumption) (by assumption) (by rfl) ?_))
/-- place and ways of a text, read from its end -/
def rk : List Nat → Int × Int
  | [] => (0, 1)
  | c :: t => ((rk t).1 + (((rk t).2 * ((t.length : Int) + 1)).fdiv ((c :: t).count c) * (((c :: t).filter (· < c)).length : Int)).fdiv ((t.length : Int) + 1), ((rk t).2 * ((t.length : Int) + 1)).fdiv ((c :: t).count c))
set_option maxHeartbeats 4000000 in
theorem C_place {w : World} {mg mb : Str → Option Value} {A : Around} {s : Shared} {Q E : Value → Shared → Prop} {l : List Nat} {t0 : Tok} (X : Std w mg mb s.heap) (hd : A.depth + 1 < recursionLimit) (hh : A.handled = none) (hl : l.length ≤ 100)
    (h : ∀ D h' tk t1 t2, Ext s.heap h' → s.heap.get? D = none → h'.get? D = some { cls := .type "tuple", data := .seq #[.int (rk l).1 t1, .int (rk l).2 t2] } → Q (.ref D) { s with heap := h', toks := tk }) : wpAny (model P0 w) A (call (.ref 153) [.str (tx l) t0]) Q E s := by
  refine callC_fn 19 (binds := [(Str.ofString "text", .str (tx l) t0)]) X (Nat.lt_of_succ_lt hd) rfl rfl rfl rfl rfl rfl (fun x hx => Or.inl (locs (by rfl) x hx)) (by decide +kernel) (fun h₁ tk₁ cells F N C => ?_)
  obtain ⟨o, rfl, ho⟩ := CellsAre.one C
  conv in (execs _ _) => arg 1; whnf
  repeat' (walk_at "wk")
  refine For_invVF (by assumption) rfl rfl ?_
  repeat' (walk_at "wk")
  refine iter_rangeJ (n := l.length) (fun i m news => ∃ (oc : Obj) (vc : Option Value) (tp tw : Tok) (p q : Int) (e : List (Str × Value)), (p, q) = rk (l.drop (l.length - i)) ∧ news = [(s.heap.objs.size + 1, oc)] ∧ oc.data = .cell vc ∧ (e = [] ∨ ∃ v, e = [(Str.ofString "k", v)]) ∧ m = B ([(Str.ofString "text", .str (tx l) t0), (Str.ofString "place", .int p tp), (Str.ofString "ways", .int q tw)] ++ e)) hh (by assumption) ?_ ?_ (by assumption) (by assumption) ?_ ?_ ?_
  · exact small_one (by omega) (by omega) (by omega) (by omega)
  · unfold Builtin.Range.rangeSize; rw [if_pos (by decide)]; split <;> omega
  · exact ⟨o, _, _, _, 0, 1, [], by simp [rk], rfl, ho, .inl rfl, B_put (B_put (m := _) (l := [(Str.ofString "text", .str (tx l) t0)]) (bindL_one (by rfl)))⟩
  · rintro i t m₁ news₁ h₅ tk₅ own hi ha ho' ⟨oc, vc, tp, tw, p, q, e, hpq, rfl, hoc, he, rfl⟩ F₅ N₅
    have F₆ : Fr s.heap s.heap.objs.size h₅ (B [(Str.ofString "text", .str (tx l) t0), (Str.ofString "place", .int p tp), (Str.ofString "ways", .int q tw), (Str.ofString "k", .int (1 + i) t)]) := by
      rcases he with rfl | ⟨v, rfl⟩
      · have := B_put (k := Str.ofString "k") (v := .int (1 + i * 1) t) (m := _) (l := _) (Eq.refl (B ([(Str.ofString "text", .str (tx l) t0), (Str.ofString "place", .int p tp), (Str.ofString "ways", .int q tw)] ++ [])))
        rw [this, Int.mul_one] at F₅
        exact F₅
      · have := B_put (k := Str.ofString "k") (v := .int (1 + i * 1) t) (m := _) (l := _) (Eq.refl (B ([(Str.ofString "text", .str (tx l) t0), (Str.ofString "place", .int p tp), (Str.ofString "ways", .int q tw)] ++ [(Str.ofString "k", v)])))
        rw [this, Int.mul_one] at F₅
        exact F₅
    clear F₅
    dsimp only [List.cons_append, List.nil_append] at N₅
    repeat' (walk_at "wk")
    refine stCN (own := []) (rest := own) (by assumption) (by assumption) rfl hoc (by simp) (fun p hp => ho' p hp _ (by simp)) (fun h₆ oc₆ F₇ N₇ hoc₆ => ?_)
    dsimp only [List.nil_append] at N₇
    obtain ⟨c, hc⟩ : ∃ c, l.drop ((l.length : Int) - (1 + i)).toNat = c :: l.drop (l.length - i) := by
      refine ⟨l[l.length - 1 - i], ?_⟩
      rw [show ((l.length : Int) - (1 + i)).toNat = l.length - 1 - i by omega, List.drop_eq_getElem_cons (by omega), show l.length - 1 - i + 1 = l.length - i by omega]
    rw [hc] at hoc₆
    have hT : (c :: l.drop (l.length - i)).length = i + 1 := by simp; omega
    generalize l.drop (l.length - i) = T at hc hoc₆ hT hpq
    have hcnt : 0 < ((List.count ((c :: T).getD (Int.toNat 0) 0) (c :: T) : Nat) : Int) ∧ ((List.count ((c :: T).getD (Int.toNat 0) 0) (c :: T) : Nat) : Int) ≤ 100 := by
      have : List.count c (c :: T) = T.count c + 1 := List.count_cons_self
      have := List.count_le_length (a := c) (l := c :: T)
      show 0 < ((List.count c (c :: T) : Nat) : Int) ∧ ((List.count c (c :: T) : Nat) : Int) ≤ 100
      omega
    repeat' (walk_at "wk")
    refine comp_T (p := fun c' => decide (c' < c)) (G := fun c' => [c']) hh rfl (by decide +kernel) rfl (by decide +kernel) rfl ?_
    walk1
    refine ⟨_, _, rfl, by omega, ?_, ?_, ?_⟩
    · intro C c' tc s₃ m₃ E' hc' hC hn hm he
      refine wpAny_tests_one ?_
      walk1
      refine wpAny_Name (wpAny_loadName_local rfl rfl hn hm ?_) (by decide)
      walk1
      refine wpAny_Name (wpAny_loadName_cell (c := s.heap.objs.size + 1) rfl rfl rfl ⟨_, he _ _ (News.get (by assumption) (List.mem_cons_self ..)), hoc₆⟩ ?_) (by decide)
      repeat' (walk_at "wk")
      · simp [List.cons_lt_cons_iff]
      · exact ⟨_, _, rfl, fun _ _ e => e⟩
    · intro C c' tc s₃ m₃ E' hc' hp hC hn hm he
      exact wpAny_Name (wpAny_loadName_local rfl rfl hn hm ⟨⟨_, rfl⟩, _, _, rfl, fun _ _ e => e⟩) (by decide)
    · intro D h' tk ys hD hpl hys he
      have F₈ := Fr.ext (by assumption) he
      have N₈ := News.ext (by assumption) he
      have hlen : ys.length = ((c :: T).filter (· < c)).length := by rw [hys.length, List.length_map]
      have hlen2 : ys.length ≤ 100 := by
        have := List.length_filter_le (· < c) (c :: T)
        omega
      repeat' (walk_at "wk")
      refine len_D hpl (by omega) ?_
      dsimp only
      generalize hcq : ((List.count ((c :: T).getD (Int.toNat 0) 0) (c :: T) : Nat) : Int) = cq at *
      generalize hyl : (ys.length : Int) = yl at *
      have hyl2 : 0 ≤ yl ∧ yl ≤ 100 := by omega
      repeat' (walk_at "wk")
      have hc' : l.drop (l.length - (i + 1)) = c :: T := by rw [← hc, show ((l.length : Int) - (1 + i)).toNat = l.length - (i + 1) by omega]
      have hTl : (T.length : Int) + 1 = 1 + i := by simp at hT; omega
      refine InvEndN.intro (by assumption) (by assumption) ⟨oc₆, _, _, _, _, _, [(Str.ofString "k", _)], ?_, rfl, hoc₆, .inr ⟨_, rfl⟩, B_put (B_put rfl)⟩ rfl (by simp) (fun p hp => List.mem_cons_of_mem _ hp)
      rw [hc', rk, hTl, ← hpq, ← hcq, ← hyl, hlen]
      rfl
  · rintro m₁ news₁ h₅ tk₅ ⟨oc, vc, tp, tw, p, q, e, hpq, rfl, hoc, he, rfl⟩ F₅ N₅
    rw [Nat.sub_self, List.drop_zero] at hpq
    have F₆ : ∃ r, Fr s.heap s.heap.objs.size h₅ (B ((Str.ofString "text", .str (tx l) t0) :: (Str.ofString "place", .int p tp) :: (Str.ofString "ways", .int q tw) :: r)) := ⟨e, F₅⟩
    obtain ⟨r, F₆⟩ := F₆
    dsimp only
    repeat' (walk_at "wk")
    rw [← hpq] at h
    rename_i h₉ F₉ N₉
    exact h _ _ _ _ _ (Fr.growth F₉) (N₉ _ (List.mem_cons_self ..)).2.2 (N₉ _ (List.mem_cons_self ..)).1
end Mine
namespace Mine
local macro_rules | `(tactic| walk_at "eval Name") => `(tactic| (refine name_G (by assumption) (by assumption) (by rfl) ?_))
local macro_rules | `(tactic| walk_at "eval Name") => `(tactic| (refine name_Bl (by assumption) (by assumption) (by rfl) ?_))
local macro_rules | `(tactic| walk_at "wk") => `(tactic| ((fail_if_success (with_reducible show wpAny _ _ (exec (.While _ _ _ _) _) _ _ _)); (fail_if_success (with_reducible show wpAny _ _ (exec (.For _ _ _ _ _) _) _ _ _)); first | walk1 | (dsimp only; walk1)))
local macro_rules | `(tactic| walk_at "subscriptTail Name Name str int") => `(tactic| (refine item_T (by omega) (by omega) (by omega) ?_))
local macro_rules | `(tactic| walk_at "subscriptTail Name BinOp str int") => `(tactic| (refine item_T (by omega) (by omega) (by omega) ?_))
local macro_rules | `(tactic| walk_at "subscriptTail Name Constant str int") => `(tactic| (refine item_T (by omega) (by omega) (by omega) ?_))
local macro_rules | `(tactic| walk_at "subscriptTail") => `(tactic| (refine item_T (by omega) (by omega) (by omega) ?_))
local macro_rules | `(tactic| walk_at "subscriptTail Name Slice str ref") => `(tactic| (refine slice_ss_T (s := ⟨_, _, _, _, _⟩) (by assumption) (by assumption) (by omega) (by omega) (by omega) (by omega) ?_; intro _ _ _ _ _))
local macro_rules | `(tactic| walk_at "subscriptTail Name Slice str ref") => `(tactic| (refine slice_sn_T (s := ⟨_, _, _, _, _⟩) (by assumption) (by assumption) (by omega) (by omega) (by omega) ?_; intro _ _ _ _ _))
local macro_rules | `(tactic| walk_at "subscriptTail Name Slice str ref") => `(tactic| (refine slice_ns_T (s := ⟨_, _, _, _, _⟩) (by assumption) (by assumption) (by omega) (by omega) (by omega) ?_; intro _ _ _ _ _))
local macro_rules | `(tactic| walk_at "subscriptTail Name Slice str ref") => `(tactic| (refine slice_rev_T (s := ⟨_, _, _, _, _⟩) (by assumption) (by assumption) (by omega) ?_; intro _ _ _ _ _))
local macro_rules | `(tactic| walk_at "subscriptTail") => `(tactic| (refine slice_ss_T (s := ⟨_, _, _, _, _⟩) (by assumption) (by assumption) (by omega) (by omega) (by omega) (by omega) ?_; intro _ _ _ _ _))
local macro_rules | `(tactic| walk_at "subscriptTail") => `(tactic| (refine slice_sn_T (s := ⟨_, _, _, _, _⟩) (by assumption) (by assumption) (by omega) (by omega) (by omega) ?_; intro _ _ _ _ _))
local macro_rules | `(tactic| walk_at "subscriptTail") => `(tactic| (refine slice_ns_T (s := ⟨_, _, _, _, _⟩) (by assumption) (by assumption) (by omega) (by omega) (by omega) ?_; intro _ _ _ _ _))
local macro_rules | `(tactic| walk_at "subscriptTail") => `(tactic| (refine slice_rev_T (s := ⟨_, _, _, _, _⟩) (by assumption) (by assumption) (by omega) ?_; intro _ _ _ _ _))
local macro_rules | `(tactic| walk_at "call builtin:len") => `(tactic| (refine len_T (by omega) ?_))
local macro_rules | `(tactic| walk_at "call builtin:str.count") => `(tactic| (refine count_T ?_))
local macro_rules | `(tactic| walk_at "binaryOp Add str str") => `(tactic| (refine add_T (by omega) ?_; intro _ _))
local macro_rules | `(tactic| walk_at "inplaceOp Add str str") => `(tactic| (refine iadd_T (by omega) ?_; intro _ _))
set_option maxHeartbeats 4000000 in
theorem C_strip {w : World} {mg mb : Str → Option Value} {A : Around} {s : Shared} {Q E : Value → Shared → Prop} {l : List Nat} {a : Int} {t0 t1 : Tok} (X : Std w mg mb s.heap) (hd : A.depth + 1 < recursionLimit)
    {f t : Nat} (ha : 0 ≤ a ∧ a ≤ l.length) (hl : l.length ≤ 1000) (hf : f < l.length) (ht : t < l.length)
    (f1 : ∀ k < f, l[k]? = some 32) (f2 : ∀ c, l[f]? = some c → c ≠ 32) (r1 : ∀ k < t, l[l.length - 1 - k]? = some 32) (r2 : ∀ c, l[l.length - 1 - t]? = some c → c ≠ 32)
    (h : ∀ h' tk t', Ext s.heap h' → Q (.str (tx ((l.drop (min a (f : Int)).toNat).take ((l.length : Int) - min (a - min a f) t - min a f).toNat)) t') { s with heap := h', toks := tk }) : wpAny (model P0 w) A (call (.ref 28) [.str (tx l) t0, .int a t1]) Q E s := by
  refine call_fn 2 (binds := [(Str.ofString "s", .str (tx l) t0), (Str.ofString "amount", .int a t1)]) X (Nat.lt_of_succ_lt hd) rfl rfl rfl rfl rfl rfl (locs (by rfl)) (fun h₁ F => ?_)
  have N : News s.heap s.heap.objs.size h₁ [] := News.nil
  have hb : Str.ofString " " = tx [32] := by decide +kernel
  conv in (execs _ _) => arg 1; whnf
  walk1; walk1; walk1; walk1; walk1
  rename_i F₂ N₂
  refine While_inv (fun n m news => news = [] ∧ ∃ (k : Nat) (tp tq : Tok), m = B [(Str.ofString "amount", .int (a - k) tq), (Str.ofString "s", .str (tx l) t0), (Str.ofString "lpos", .int k tp)] ∧ n = (a - k).toNat ∧ (k : Int) ≤ min a f) (n₀ := a.toNat) F₂ N₂ ⟨rfl, 0, _, t1, by rw [show a - ((0 : Nat) : Int) = a by simp]; exact B_put rfl, by simp, by omega⟩ ?_
  rintro n m₁ news₁ h₂ tk₂ F₃ N₃ ⟨rfl, k, tp, tq, rfl, hn, hk⟩
  have hk1 : k < l.length := by omega
  have ek : Txt.item (tx l) k = tx [l[k]] := tx_item (by omega) (by simp [hk1])
  repeat' (walk_at "wk")
  · refine WhileStep.intro (by assumption) (by assumption) (n' := (a - (k + 1 : Nat)).toNat) (by omega) ⟨rfl, k + 1, _, _, by rw [show a - ((k + 1 : Nat) : Int) = a - k - 1 by omega, show ((k + 1 : Nat) : Int) = k + 1 by omega]; exact B_put (B_put rfl), rfl, ?_⟩
    · have : k ≠ f := by
        rintro rfl
        refine f2 (l.getD k 0) (by simp [List.getD, List.getElem?_eq_getElem hk1]) ?_
        have hx := ‹(tx [l.getD ((k : Int)).toNat 0] == Str.ofString " ") = true›
        rw [hb, tx_beq, decide_eq_true_eq] at hx
        simpa using hx
      omega
  all_goals
    have hk' : (k : Int) = min a f := by
      first
        | omega
        | (have hx := ‹(tx [l.getD ((k : Int)).toNat 0] == Str.ofString " ") = false›
           rw [hb, tx_beq, decide_eq_false_iff_not] at hx
           have : ¬ k < f := fun hkf => hx (by simp [List.getD, f1 k hkf])
           omega)
    refine While_inv (fun n m news => news = [] ∧ ∃ (r : Nat) (tr tq : Tok), m = B [(Str.ofString "amount", .int (a - k - r) tq), (Str.ofString "s", .str (tx l) t0), (Str.ofString "lpos", .int k tp), (Str.ofString "rpos", .int (l.length - 1 - r) tr)] ∧ n = (a - k - r).toNat ∧ (r : Int) ≤ min (a - k) t) (n₀ := (a - k).toNat) (by assumption) (by assumption) ⟨rfl, 0, _, tq, by rw [show a - (k : Int) - ((0 : Nat) : Int) = a - k by simp, show (l.length : Int) - 1 - ((0 : Nat) : Int) = l.length - 1 by simp]; exact B_put rfl, by simp, by omega⟩ ?_
    rintro n m₁ news₁ h₅ tk₅ F₅ N₅ ⟨rfl, r, tr, tq', rfl, hn', hr⟩
    repeat' (walk_at "wk")
    · refine WhileStep.intro (by assumption) (by assumption) (n' := (a - k - (r + 1 : Nat)).toNat) (by omega) ⟨rfl, r + 1, _, _, by rw [show a - (k : Int) - ((r + 1 : Nat) : Int) = a - k - r - 1 by omega, show (l.length : Int) - 1 - ((r + 1 : Nat) : Int) = l.length - 1 - r - 1 by omega]; exact B_put (B_put rfl), rfl, ?_⟩
      have e : ((l.length : Int) - 1 - r).toNat = l.length - 1 - r := by omega
      have : r ≠ t := by
        rintro rfl
        refine r2 (l.getD (l.length - 1 - r) 0) (by simp [List.getD, List.getElem?_eq_getElem (show l.length - 1 - r < l.length by omega)]) ?_
        have hx := ‹(tx [l.getD ((l.length : Int) - 1 - r).toNat 0] == Str.ofString " ") = true›
        rw [hb, tx_beq, decide_eq_true_eq, e] at hx
        simpa using hx
      omega
    all_goals
      have hr' : (r : Int) = min (a - k) t := by
        first
          | omega
          | (have e : ((l.length : Int) - 1 - r).toNat = l.length - 1 - r := by omega
             have hx := ‹(tx [l.getD ((l.length : Int) - 1 - r).toNat 0] == Str.ofString " ") = false›
             rw [hb, tx_beq, decide_eq_false_iff_not, e] at hx
             have : ¬ r < t := fun hkf => hx (by simp [List.getD, r1 r hkf])
             omega)
      rw [← hk', ← hr', show (l.length : Int) - r - k = l.length - 1 - r + 1 - k by omega] at h
      exact h _ _ _ (Fr.growth (by assumption))
end Mine
namespace Mine
def Fc : List Nat → Nat
  | [] => 1
  | c :: t => Fc t * ((c :: t).count c)
def fact : Nat → Nat
  | 0 => 1
  | n + 1 => fact n * (n + 1)
def lessN (c : Nat) (l : List Nat) : Nat := (l.filter (· < c)).length
theorem lessN_nil (c : Nat) : lessN c [] = 0 := rfl
theorem lessN_cons (c a : Nat) (t : List Nat) : lessN c (a :: t) = lessN c t + (if a < c then 1 else 0) := by
  unfold lessN
  rw [List.filter_cons]
  by_cases h : a < c <;> simp [h]
theorem lessN_succ (c : Nat) (l : List Nat) : lessN (c + 1) l = lessN c l + l.count c := by
  induction l with
  | nil => rfl
  | cons a t ih =>
    rw [lessN_cons, lessN_cons, ih, List.count_cons]
    by_cases h1 : a < c
    · have : (a == c) = false := by simp; omega
      rw [if_pos h1, if_pos (by omega), this]; simp; omega
    · by_cases h2 : a = c
      · subst h2; simp; omega
      · have : (a == c) = false := by simp [h2]
        rw [if_neg h1, if_neg (by omega), this]; simp
theorem lessN_zero (l : List Nat) : lessN 0 l = 0 := by
  induction l with
  | nil => rfl
  | cons a t ih => rw [lessN_cons, ih]; simp
theorem lessN_all {B : Nat} {l : List Nat} (h : ∀ x ∈ l, x < B) : lessN B l = l.length := by
  unfold lessN
  rw [List.filter_eq_self.mpr (by simpa using h)]
theorem lessN_perm {l r : List Nat} (h : l.Perm r) (c : Nat) : lessN c l = lessN c r := by
  unfold lessN
  exact (h.filter _).length_eq
theorem Fc_pos (l : List Nat) : 0 < Fc l := by
  induction l with
  | nil => exact Nat.one_pos
  | cons c t ih => exact Nat.mul_pos ih (List.count_pos_iff.mpr (.head _))
theorem Fc_perm {l r : List Nat} (h : l.Perm r) : Fc l = Fc r := by
  induction h with
  | nil => rfl
  | cons x h ih => simp only [Fc]; rw [ih, (h.cons x).count_eq]
  | swap x y l =>
    simp only [Fc]
    by_cases e : x = y
    · subst e; rfl
    · have e' : ¬ y = x := fun h => e h.symm
      simp only [List.count_cons, beq_self_eq_true, if_true, beq_iff_eq, e, e', if_false]
      grind
  | trans _ _ h1 h2 => exact h1.trans h2
theorem Fc_erase {d : Nat} {l : List Nat} (h : d ∈ l) : Fc l = Fc (l.erase d) * l.count d := by
  have p := List.perm_cons_erase h
  rw [Fc_perm p]
  show _ * List.count d (d :: l.erase d) = _
  rw [← p.count_eq]
theorem bound_of (l : List Nat) : ∃ B, ∀ x ∈ l, x < B := by
  induction l with
  | nil => exact ⟨0, by simp⟩
  | cons a t ih =>
    obtain ⟨B, h⟩ := ih
    refine ⟨max B (a + 1), fun x hx => ?_⟩
    rcases List.mem_cons.mp hx with rfl | hx
    · omega
    · have := h x hx; omega
theorem Fc_dvd : ∀ (n : Nat) (l : List Nat), l.length = n → Fc l ∣ fact n
  | 0, l, h => by
    have := List.eq_nil_of_length_eq_zero h
    subst this; exact Nat.dvd_refl _
  | n + 1, l, h => by
    have one : ∀ d, Fc l ∣ fact n * l.count d := fun d => by
      by_cases hd : d ∈ l
      · rw [Fc_erase hd]
        exact Nat.mul_dvd_mul_right (Fc_dvd n _ (by rw [List.length_erase_of_mem hd, h]; rfl)) _
      · rw [List.count_eq_zero.mpr hd]; exact ⟨0, rfl⟩
    have all : ∀ B, Fc l ∣ fact n * lessN B l := fun B => by
      induction B with
      | zero => rw [lessN_zero]; exact ⟨0, rfl⟩
      | succ B ih => rw [lessN_succ, Nat.mul_add]; exact Nat.dvd_add ih (one B)
    obtain ⟨B, hB⟩ := bound_of l
    have := all B
    rw [lessN_all hB, h] at this
    exact this
/-- how many texts have the same signs -/
def Wn (l : List Nat) : Nat := fact l.length / Fc l
theorem Wn_mul (l : List Nat) : Wn l * Fc l = fact l.length := Nat.div_mul_cancel (Fc_dvd _ l rfl)
theorem fact_pos : ∀ n, 0 < fact n
  | 0 => Nat.one_pos
  | n + 1 => Nat.mul_pos (fact_pos n) (Nat.succ_pos n)
theorem Wn_pos (l : List Nat) : 0 < Wn l := by
  have := Wn_mul l
  have h := fact_pos l.length
  rcases Nat.eq_zero_or_pos (Wn l) with e | e
  · rw [e, Nat.zero_mul] at this; omega
  · exact e
theorem Wn_perm {l r : List Nat} (h : l.Perm r) : Wn l = Wn r := by unfold Wn; rw [Fc_perm h, h.length_eq]
theorem Wn_cons (c : Nat) (t : List Nat) : Wn t * (t.length + 1) = Wn (c :: t) * (c :: t).count c := by
  have h1 := Wn_mul t
  have h2 := Wn_mul (c :: t)
  have h3 := Fc_pos t
  simp only [Fc, fact, List.length_cons] at h2
  apply Nat.eq_of_mul_eq_mul_right h3
  rw [← h1] at h2
  grind
theorem Wn_erase {d : Nat} {l : List Nat} (h : d ∈ l) : Wn (l.erase d) * l.length = Wn l * l.count d := by
  have p := List.perm_cons_erase h
  have := Wn_cons d (l.erase d)
  rw [← Wn_perm p, ← p.count_eq] at this
  rw [← this, List.length_erase_of_mem h]
  have := List.length_pos_of_mem h
  rw [show l.length - 1 + 1 = l.length by omega]
/-- how many texts begin with a sign below c -/
def Sn (l : List Nat) (c : Nat) : Nat := Wn l * lessN c l / l.length
theorem Sn_dvd (l : List Nat) (c : Nat) : l.length ∣ Wn l * lessN c l := by
  induction c with
  | zero => rw [lessN_zero]; exact ⟨0, rfl⟩
  | succ c ih =>
    rw [lessN_succ, Nat.mul_add]
    refine Nat.dvd_add ih ?_
    by_cases hd : c ∈ l
    · rw [← Wn_erase hd]; exact ⟨_, Nat.mul_comm _ _⟩
    · rw [List.count_eq_zero.mpr hd]; exact ⟨0, rfl⟩
theorem Sn_mul (l : List Nat) (c : Nat) : Sn l c * l.length = Wn l * lessN c l := Nat.div_mul_cancel (Sn_dvd l c)
theorem Sn_perm {l r : List Nat} (h : l.Perm r) (c : Nat) : Sn l c = Sn r c := by unfold Sn; rw [Wn_perm h, lessN_perm h, h.length_eq]
theorem Sn_succ {l : List Nat} {c : Nat} (h : c ∈ l) : Sn l (c + 1) = Sn l c + Wn (l.erase c) := by
  have h0 := List.length_pos_of_mem h
  apply Nat.eq_of_mul_eq_mul_right h0
  rw [Nat.add_mul, Sn_mul, Sn_mul, Wn_erase h, lessN_succ, Nat.mul_add]
theorem Sn_skip {l : List Nat} {c : Nat} (h : c ∉ l) : Sn l (c + 1) = Sn l c := by
  unfold Sn; rw [lessN_succ, List.count_eq_zero.mpr h, Nat.add_zero]
theorem Sn_le_succ (l : List Nat) (c : Nat) : Sn l c ≤ Sn l (c + 1) := by
  by_cases h : c ∈ l
  · rw [Sn_succ h]; omega
  · rw [Sn_skip h]; exact Nat.le_refl _
theorem Sn_mono (l : List Nat) {c d : Nat} (h : c ≤ d) : Sn l c ≤ Sn l d := by
  induction d with
  | zero => rw [Nat.le_zero.mp h]; exact Nat.le_refl _
  | succ d ih =>
    rcases Nat.lt_or_eq_of_le h with h1 | h1
    · exact Nat.le_trans (ih (by omega)) (Sn_le_succ l d)
    · rw [h1]; exact Nat.le_refl _
theorem Sn_gap {l : List Nat} {c d : Nat} (h : c ≤ d) (hg : ∀ x ∈ l, ¬ (c ≤ x ∧ x < d)) : Sn l c = Sn l d := by
  induction d with
  | zero => rw [Nat.le_zero.mp h]
  | succ d ih =>
    rcases Nat.lt_or_eq_of_le h with h1 | h1
    · rw [Sn_skip (fun hd => hg d hd (by omega))]
      exact ih (by omega) (fun x hx hc => hg x hx (by omega))
    · rw [h1]
theorem Sn_all {B : Nat} {l : List Nat} (hn : l ≠ []) (h : ∀ x ∈ l, x < B) : Sn l B = Wn l := by
  unfold Sn
  rw [lessN_all h]
  exact Nat.mul_div_cancel _ (List.length_pos_iff.mpr hn)
theorem Sn_none {c : Nat} {l : List Nat} (h : ∀ x ∈ l, c ≤ x) : Sn l c = 0 := by
  have : lessN c l = 0 := by
    unfold lessN
    rw [List.filter_eq_nil_iff.mpr (by simpa using h)]; rfl
  unfold Sn; rw [this]; simp
/-- the place of a text among all texts of the same signs -/
def Pn : List Nat → Nat
  | [] => 0
  | c :: t => Pn t + Sn (c :: t) c
theorem Sn_head (c : Nat) (t : List Nat) : Sn (c :: t) (c + 1) = Sn (c :: t) c + Wn t := by
  have := Sn_succ (l := c :: t) (c := c) (.head _)
  rwa [List.erase_cons_head] at this
theorem Sn_le_W (l : List Nat) (hn : l ≠ []) (c : Nat) : Sn l c ≤ Wn l := by
  obtain ⟨B, hB⟩ := bound_of l
  rw [← Sn_all (B := max B c) hn (fun x hx => by have := hB x hx; omega)]
  exact Sn_mono l (by omega)
theorem Pn_lt (l : List Nat) : Pn l < Wn l := by
  induction l with
  | nil => exact Wn_pos []
  | cons c t ih =>
    have h1 := Sn_head c t
    have h2 := Sn_le_W (c :: t) (by simp) (c + 1)
    simp only [Pn]; omega
theorem Pn_mono : ∀ {l r : List Nat}, l.Perm r → l < r → Pn l < Pn r
  | [], [], _, h => absurd h (by simp)
  | [], b :: r, p, _ => by simpa using p.length_eq
  | a :: l, [], p, _ => by simpa using p.length_eq
  | a :: l, b :: r, p, h => by
    rcases List.cons_lt_cons_iff.mp h with hab | ⟨rfl, hlr⟩
    · have h1 := Pn_lt l
      have h2 := Sn_head a l
      have h3 := Sn_perm p b
      have h4 := Sn_mono (a :: l) (show a + 1 ≤ b by omega)
      simp only [Pn]; omega
    · have := Pn_mono (p.cons_inv) hlr
      have h3 := Sn_perm p a
      simp only [Pn]; omega
theorem Pn_sorted : ∀ {l : List Nat}, l.Pairwise (· ≤ ·) → Pn l = 0
  | [], _ => rfl
  | c :: t, h => by
    have h1 := List.pairwise_cons.mp h
    show Pn t + Sn (c :: t) c = 0
    rw [Pn_sorted h1.2, Sn_none (fun x hx => ?_)]
    rcases List.mem_cons.mp hx with rfl | hx
    · exact Nat.le_refl _
    · exact h1.1 x hx
theorem Pn_desc : ∀ {l : List Nat}, l.Pairwise (· ≥ ·) → Pn l + 1 = Wn l
  | [], _ => rfl
  | c :: t, h => by
    have h1 := List.pairwise_cons.mp h
    have h2 := Pn_desc h1.2
    have h3 := Sn_head c t
    have h4 := Sn_all (B := c + 1) (l := c :: t) (by simp) (fun x hx => by
      rcases List.mem_cons.mp hx with rfl | hx
      · omega
      · have := h1.1 x hx; omega)
    simp only [Pn]; omega
theorem Pn_prefix {x y : List Nat} (p : y.Perm x) (h : Pn y = Pn x + 1) : ∀ u : List Nat, Pn (u ++ y) = Pn (u ++ x) + 1
  | [] => h
  | c :: u => by
    have := Pn_prefix p h u
    have q : (c :: (u ++ y)).Perm (c :: (u ++ x)) := (p.append_left u).cons c
    have := Sn_perm q c
    simp only [List.cons_append, Pn]; omega
/-- what `_law_after` gives back -/
def After (l r : List Nat) : Prop :=
  (∃ u c t sg sl, l = u ++ c :: t ∧ t.Pairwise (· ≥ ·) ∧ sg ∈ t ∧ c < sg ∧ (∀ x ∈ t, c < x → sg ≤ x) ∧ sl.Pairwise (· ≤ ·) ∧ sl.Perm ((c :: t).erase sg) ∧ r = u ++ sg :: sl) ∨ (l.Pairwise (· ≥ ·) ∧ r.Pairwise (· ≤ ·) ∧ r.Perm l)
theorem After.perm {l r : List Nat} (h : After l r) : r.Perm l := by
  rcases h with ⟨u, c, t, sg, sl, rfl, hd, hm, hc, hmin, hs, hp, rfl⟩ | h
  · refine List.Perm.append_left u ?_
    exact (hp.cons sg).trans (List.perm_cons_erase (List.mem_cons_of_mem _ hm)).symm
  · exact h.2.2
theorem After.place {l r : List Nat} (h : After l r) : Pn r = (Pn l + 1) % Wn l := by
  have hp := h.perm
  have hlt := Pn_lt r
  rw [Wn_perm hp] at hlt
  rcases h with ⟨u, c, t, sg, sl, rfl, hd, hm, hc, hmin, hs, hp', rfl⟩ | ⟨hd, hs, hp'⟩
  · have q : (sg :: sl).Perm (c :: t) := (hp'.cons sg).trans (List.perm_cons_erase (List.mem_cons_of_mem _ hm)).symm
    have e : Pn (sg :: sl) = Pn (c :: t) + 1 := by
      have h1 := Pn_sorted hs
      have h2 := Pn_desc hd
      have h3 := Sn_head c t
      have h4 := Sn_perm q sg
      have h5 := Sn_gap (l := c :: t) (c := c + 1) (d := sg) (by omega) (fun x hx hb => by
        rcases List.mem_cons.mp hx with rfl | hx
        · omega
        · have := hmin x hx (by omega); omega)
      simp only [Pn]; omega
    have := Pn_prefix q e u
    rw [← this, Nat.mod_eq_of_lt hlt]
  · rw [Pn_sorted hs, Pn_desc hd, Nat.mod_self]
/-- where a sign lies in a sorted list -/
theorem sorted_at : ∀ {s : List Nat} {c k : Nat}, s.Pairwise (· ≤ ·) → k < s.count c → s[lessN c s + k]? = some c
  | [], c, k, _, h => by simp at h
  | a :: s, c, k, hs, h => by
    have h1 := List.pairwise_cons.mp hs
    rw [lessN_cons]
    rw [List.count_cons] at h
    by_cases ha : a < c
    · have e : (a == c) = false := by simp; omega
      rw [if_pos ha, show lessN c s + 1 + k = (lessN c s + k) + 1 by omega, List.getElem?_cons_succ]
      exact sorted_at h1.2 (by rw [e] at h; simpa using h)
    · have hz : lessN c s = 0 := by
        unfold lessN
        rw [List.filter_eq_nil_iff.mpr]; rfl
        intro x hx
        have := h1.1 x hx
        simp; omega
      rw [if_neg ha, hz]
      by_cases e : a = c
      · cases k with
        | zero => simp [e]
        | succ k =>
          rw [show 0 + 0 + (k + 1) = k + 1 by omega, List.getElem?_cons_succ]
          have := sorted_at (s := s) (c := c) (k := k) h1.2 (by simp [e] at h; omega)
          rw [hz] at this
          simpa using this
      · have : s.count c = 0 := List.count_eq_zero.mpr (fun hx => by have := h1.1 c hx; omega)
        simp [e] at h; omega
theorem sorted_idx : ∀ {s : List Nat} {c : Nat}, s.Pairwise (· ≤ ·) → c ∈ s → s.idxOf c = lessN c s
  | [], c, _, h => by simp at h
  | a :: s, c, hs, h => by
    have h1 := List.pairwise_cons.mp hs
    rw [lessN_cons, List.idxOf_cons]
    by_cases e : a = c
    · subst e
      have hz : lessN a s = 0 := by
        unfold lessN
        rw [List.filter_eq_nil_iff.mpr]; rfl
        intro x hx
        have := h1.1 x hx
        simp; omega
      simp [hz]
    · have hc : c ∈ s := by
        rcases List.mem_cons.mp h with h | h
        · exact absurd h.symm e
        · exact h
      have := h1.1 c hc
      have e' : (a == c) = false := by simp [e]
      rw [e', if_pos (by omega), sorted_idx h1.2 hc]; rfl
theorem less_count (c : Nat) (l : List Nat) : lessN c l + l.count c ≤ l.length := by
  rw [← lessN_succ]
  exact List.length_filter_le _ _
/-- one turn of `_law_read` -/
theorem read_step {c : Nat} {t : List Nat} {e p q r : Int} (hp : p = (Pn (c :: t) : Int) - e * Wn (c :: t))
    (hq : q = (p * ((t.length : Int) + 1)).fdiv (Wn (c :: t))) (hr : r = (p * ((t.length : Int) + 1)).fmod (Wn (c :: t))) :
    ∃ k : Nat, k < (c :: t).count c ∧ q = (lessN c (c :: t) : Int) + k - e * ((t.length : Int) + 1) ∧
      (q - ((lessN c (c :: t) : Int) + e * ((c :: t).count c - ((t.length : Int) + 1)))) * Wn (c :: t) + r = ((Pn t : Int) - e * Wn t) * ((t.length : Int) + 1) := by
  have h1 := Wn_cons c t
  have h2 := Sn_mul (c :: t) c
  have h3 := Pn_lt t
  have h4 := Wn_pos (c :: t)
  have hk : Pn t * (t.length + 1) / Wn (c :: t) < (c :: t).count c := by
    rw [Nat.div_lt_iff_lt_mul h4, Nat.mul_comm (List.count _ _), ← h1]
    exact Nat.mul_lt_mul_of_pos_right h3 (Nat.succ_pos _)
  have hqr := Int.mul_fdiv_add_fmod (p * ((t.length : Int) + 1)) (Wn (c :: t))
  have hq' : q = (lessN c (c :: t) : Int) + (Pn t * (t.length + 1) / Wn (c :: t) : Nat) - e * ((t.length : Int) + 1) := by
    have e1 : p * ((t.length : Int) + 1) = ((Pn t * (t.length + 1) : Nat) : Int) + (Wn (c :: t) : Int) * ((lessN c (c :: t) : Int) - e * ((t.length : Int) + 1)) := by
      have h2' : ((Sn (c :: t) c * (t.length + 1) : Nat) : Int) = ((Wn (c :: t) * lessN c (c :: t) : Nat) : Int) := by rw [← h2]; rfl
      rw [hp]
      show (((Pn t + Sn (c :: t) c : Nat) : Int) - _) * _ = _
      push_cast at h2' ⊢
      grind
    rw [hq, e1, Int.add_mul_fdiv_left _ _ (by omega), Int.fdiv_eq_ediv_of_nonneg _ (by omega), ← Int.natCast_ediv]
    omega
  refine ⟨_, hk, hq', ?_⟩
  rw [← hq, ← hr] at hqr
  have h2' : ((Sn (c :: t) c * (t.length + 1) : Nat) : Int) = ((Wn (c :: t) * lessN c (c :: t) : Nat) : Int) := by rw [← h2]; rfl
  have h1' : ((Wn t * (t.length + 1) : Nat) : Int) = ((Wn (c :: t) * (c :: t).count c : Nat) : Int) := by rw [h1]
  rw [hp] at hqr
  change _ = (((Pn t + Sn (c :: t) c : Nat) : Int) - _) * _ at hqr
  push_cast at h2' h1' hqr
  grind
def lead : List Nat → Nat
  | [] => 0
  | c :: t => if c = 32 then lead t + 1 else 0
theorem Pn_blank {t : List Nat} (h : ∀ x ∈ t, 32 ≤ x) : Pn (32 :: t) = Pn t := by
  show Pn t + Sn (32 :: t) 32 = Pn t
  rw [Sn_none (fun x hx => ?_)]; rfl
  rcases List.mem_cons.mp hx with rfl | hx
  · exact Nat.le_refl _
  · exact h x hx
theorem lead_le : ∀ l : List Nat, lead l ≤ l.count 32
  | [] => Nat.le_refl _
  | c :: t => by
    have := lead_le t
    by_cases e : c = 32
    · subst e; simp [lead]; omega
    · simp [lead, e]
theorem lead_head : ∀ (l : List Nat) (k : Nat), k < lead l → l[k]? = some 32
  | [], k, h => by simp [lead] at h
  | c :: t, k, h => by
    by_cases e : c = 32
    · subst e
      cases k with
      | zero => rfl
      | succ k =>
        rw [List.getElem?_cons_succ]
        exact lead_head t k (by simpa [lead] using h)
    · simp [lead, e] at h
theorem lead_stop : ∀ (l : List Nat) (c : Nat), l[lead l]? = some c → c ≠ 32
  | [], c, h => by simp at h
  | a :: t, c, h => by
    by_cases e : a = 32
    · subst e
      simp only [lead, if_true, List.getElem?_cons_succ] at h
      exact lead_stop t c h
    · simp only [lead, if_neg e, List.getElem?_cons_zero, Option.some.injEq] at h
      exact h ▸ e
theorem lead_lt : ∀ {l : List Nat}, (∃ x ∈ l, x ≠ 32) → lead l < l.length
  | [], h => by simp at h
  | a :: t, h => by
    by_cases e : a = 32
    · subst e
      have := lead_lt (l := t) (by
        obtain ⟨x, hx, hne⟩ := h
        rcases List.mem_cons.mp hx with rfl | hx
        · exact absurd rfl hne
        · exact ⟨x, hx, hne⟩)
      simp [lead]; omega
    · simp [lead, e]
theorem Pn_bare : ∀ {l : List Nat}, (∀ x ∈ l, 32 ≤ x) → Pn (l.drop (lead l)) = Pn l
  | [], _ => rfl
  | a :: t, h => by
    have ht : ∀ x ∈ t, 32 ≤ x := fun x hx => h x (List.mem_cons_of_mem _ hx)
    by_cases e : a = 32
    · subst e
      rw [Pn_blank ht, ← Pn_bare ht]
      simp [lead]
    · simp [lead, e]
theorem aheadF_lead (size blanks : Int) : ∀ (t : List Nat) (fuel a X : Nat), (∀ x ∈ t, 32 ≤ x) → 0 < X → t.count 32 ≤ fuel → size = a + t.length → blanks = a + t.count 32 →
    aheadF size blanks fuel (Pn t * X) (Wn t * X) a = a + lead t
  | [], fuel, a, X, _, hX, hf, hs, hb => by
    simp only [List.count_nil] at hb
    rw [aheadF_stop (by omega)]
    simp [lead]
  | c :: t, fuel, a, X, h, hX, hf, hs, hb => by
    have ht : ∀ x ∈ t, 32 ≤ x := fun x hx => h x (List.mem_cons_of_mem _ hx)
    have h1 := Wn_cons c t
    have h3 := Pn_lt t
    by_cases e : c = 32
    · subst e
      have hc : (32 :: t).count 32 = t.count 32 + 1 := by simp
      obtain ⟨f, rfl⟩ : ∃ f, fuel = f + 1 := ⟨fuel - 1, by omega⟩
      have hPt := Pn_blank ht
      have s1 : size - a = ((t.length + 1 : Nat) : Int) := by rw [hs]; simp only [List.length_cons]; omega
      have b1 : blanks - a = (((32 :: t).count 32 : Nat) : Int) := by omega
      have key : ((Wn (32 :: t) : Int) * X) * (((32 :: t).count 32 : Nat) : Int) = (Wn t : Int) * ((X * (t.length + 1) : Nat) : Int) := by
        have : ((Wn t * (t.length + 1) : Nat) : Int) = ((Wn (32 :: t) * (32 :: t).count 32 : Nat) : Int) := by rw [h1]
        push_cast at this ⊢
        grind
      have key2 : ((Pn t : Int) * X) * ((t.length + 1 : Nat) : Int) = (Pn t : Int) * ((X * (t.length + 1) : Nat) : Int) := by
        push_cast
        grind
      have hX' : 0 < X * (t.length + 1) := Nat.mul_pos hX (Nat.succ_pos _)
      have hlt : (Pn t : Int) * ((X * (t.length + 1) : Nat) : Int) < (Wn t : Int) * ((X * (t.length + 1) : Nat) : Int) := Int.mul_lt_mul_of_pos_right (by omega) (by omega)
      have hab : (a : Int) < blanks := by omega
      rw [aheadF, hPt, s1, b1, key, key2, if_pos ⟨hab, hlt⟩]
      · have := aheadF_lead size blanks t f (a + 1) (X * (t.length + 1)) ht hX' (by omega) (by rw [hs]; simp only [List.length_cons]; omega) (by rw [hb, hc]; omega)
        rw [show ((a : Int) + 1) = ((a + 1 : Nat) : Int) by omega, this]
        simp [lead]; omega
    · have hc : (c :: t).count 32 = t.count 32 := by simp [e]
      have hl : lead (c :: t) = 0 := by simp [lead, e]
      rw [hl, Int.natCast_zero, Int.add_zero]
      refine aheadF_stop ?_
      rintro ⟨hab, hlt⟩
      have s1 : size - a = (((c :: t).length : Nat) : Int) := by rw [hs]; omega
      have b1 : blanks - a = (((c :: t).count 32 : Nat) : Int) := by omega
      rw [s1, b1] at hlt
      have h2 := Sn_mul (c :: t) c
      have h4 : (c :: t).count 32 ≤ lessN c (c :: t) := by
        have : ∀ d, 33 ≤ d → (c :: t).count 32 ≤ lessN d (c :: t) := by
          intro d hd
          induction d with
          | zero => omega
          | succ d ih =>
            rcases Nat.lt_or_eq_of_le hd with h | h
            · rw [lessN_succ]; have := ih (by omega); omega
            · have : d = 32 := by omega
              subst this
              rw [lessN_succ]; omega
        exact this c (by have := h c (.head _); omega)
      have h5 : Wn (c :: t) * (c :: t).count 32 ≤ Pn (c :: t) * (c :: t).length := by
        refine Nat.le_trans (Nat.mul_le_mul_left _ h4) ?_
        rw [← h2]
        exact Nat.mul_le_mul_right _ (by simp only [Pn]; omega)
      have h6 : Wn (c :: t) * X * (c :: t).count 32 ≤ Pn (c :: t) * X * (c :: t).length := by
        have := Nat.mul_le_mul_right X h5
        have e1 : Wn (c :: t) * X * (c :: t).count 32 = Wn (c :: t) * (c :: t).count 32 * X := by grind
        have e2 : Pn (c :: t) * X * (c :: t).length = Pn (c :: t) * (c :: t).length * X := by grind
        omega
      have h7 : ((Wn (c :: t) * X * (c :: t).count 32 : Nat) : Int) ≤ ((Pn (c :: t) * X * (c :: t).length : Nat) : Int) := Int.ofNat_le.mpr h6
      simp only [Int.natCast_mul] at h7
      omega
theorem rk_eq (l : List Nat) : rk l = ((Pn l : Int), (Wn l : Int)) := by
  induction l with
  | nil => rfl
  | cons c t ih =>
    have h1 := Wn_cons c t
    have hc : 0 < (c :: t).count c := List.count_pos_iff.mpr (.head _)
    have e1 : ((Wn t : Int) * ((t.length : Int) + 1)).fdiv (((c :: t).count c : Nat) : Int) = Wn (c :: t) := by
      have : (Wn t : Int) * ((t.length : Int) + 1) = (Wn (c :: t) : Int) * (((c :: t).count c : Nat) : Int) := by
        have : ((Wn t * (t.length + 1) : Nat) : Int) = ((Wn (c :: t) * (c :: t).count c : Nat) : Int) := by rw [h1]
        push_cast at this ⊢
        exact this
      rw [this, Int.mul_fdiv_cancel _ (by omega)]
    have h2 := Sn_mul (c :: t) c
    have e2 : ((Wn (c :: t) : Int) * (((c :: t).filter (· < c)).length : Int)).fdiv ((t.length : Int) + 1) = Sn (c :: t) c := by
      have : (Wn (c :: t) : Int) * (((c :: t).filter (· < c)).length : Int) = (Sn (c :: t) c : Int) * ((t.length : Int) + 1) := by
        have : ((Sn (c :: t) c * (t.length + 1) : Nat) : Int) = ((Wn (c :: t) * lessN c (c :: t) : Nat) : Int) := by rw [← h2]; rfl
        push_cast at this ⊢
        rw [this]; rfl
      rw [this, Int.mul_fdiv_cancel _ (by omega)]
    simp only [rk, ih, e1, e2]
    rfl
/-- the texts of single signs -/
abbrev ones (l : List Nat) : List Str := l.map fun c => tx [c]
theorem ones_perm {ss : List Str} {l : List Nat} (h : ss.Perm (ones l)) : ∃ l', ss = ones l' ∧ l'.Perm l := by
  have hg : ∀ l : List Nat, (ones l).map (fun x => x.cps.getD 0 0) = l := fun l => by
    rw [ones, List.map_map]
    exact List.map_id'' (f := (fun x : Str => x.cps.getD 0 0) ∘ fun c => tx [c]) (fun c => rfl) l
  refine ⟨ss.map fun x => x.cps.getD 0 0, ?_, ?_⟩
  · rw [ones, List.map_map]
    refine (List.map_id'' (f := id) (fun _ => rfl) ss).symm.trans (List.map_congr_left fun x hx => ?_)
    obtain ⟨c, hc, rfl⟩ := List.mem_map.mp (h.mem_iff.mp hx)
    rfl
  · have := h.map fun x => x.cps.getD 0 0
    rwa [hg] at this
theorem ones_sorted : ∀ {l : List Nat}, sortedS (ones l) = true → l.Pairwise (· ≤ ·) := by
  have rise : ∀ (l : List Nat) (p : Nat), risingS (tx [p]) (ones l) = true → (p :: l).Pairwise (· ≤ ·) := by
    intro l
    induction l with
    | nil => intro p _; exact List.pairwise_singleton _ _
    | cons c t ih =>
      intro p h
      simp only [ones, List.map_cons, risingS, Bool.and_eq_true, Bool.not_eq_true', ltCps_eq, tx_cps, decide_eq_false_iff_not] at h
      have h2 := ih c h.2
      have h1 : p ≤ c := by
        have := h.1
        simp [List.cons_lt_cons_iff] at this
        omega
      refine List.pairwise_cons.mpr ⟨fun x hx => ?_, h2⟩
      rcases List.mem_cons.mp hx with rfl | hx
      · exact h1
      · exact Nat.le_trans h1 ((List.pairwise_cons.mp h2).1 x hx)
  intro l h
  cases l with
  | nil => exact .nil
  | cons c t => exact rise t c h
section
variable {prog : Program} {w : World} {A : Around} {E : Value → Shared → Prop} {s : Shared} {h₀ : Heap} {L D : Addr} {m : Str → Option Value} {news : List (Addr × Obj)} {vs : List Value} {l : List Nat} {c : Nat} {t u : Tok}
theorem sorted_ref {Q : Value → Shared → Prop} (F : Fr h₀ L s.heap m) (N : News h₀ L s.heap news) (hl : s.heap.IsList D vs.toArray) (hS : StrsAre vs (ones l)) (h64 : l.length < 64)
    (h : ∀ D' h' vs' l' e, Fr h₀ L h' m → News h₀ L h' ((D', seqObj "list" vs'.toArray e) :: news) → (∀ p ∈ news, p.1 ≠ D') → StrsAre vs' (ones l') → l'.Perm l → l'.Pairwise (· ≤ ·) → Q (.ref D') { s with heap := h' }) :
    wpAny (model prog w) A (call (.builtin "sorted") [.ref D]) Q E s := by
  refine sorted_N_str F N hl hS (by have := hS.length; rw [List.length_map] at this; omega) fun h' vs' ss' e F' N' hS' hp hs => ?_
  obtain ⟨l', rfl, hp'⟩ := ones_perm hp
  exact h _ h' vs' l' e F' N' (fun p hp => Nat.ne_of_lt (Nat.lt_succ_of_lt (Heap.lt_size (N p hp).1))) hS' hp' (ones_sorted hs)
theorem strsAre_signs {acc : Array Value} (h : ItemsOf (SignAt (tx l)) acc (tx l).cps.size) : StrsAre acc.toList (ones l) := by
  have key : ∀ (l : List Nat) (vs : List Value), vs.length = l.length → (∀ (j : Nat) (v : Value), vs[j]? = some v → ∃ c u, l[j]? = some c ∧ v = .str (tx [c]) u) → StrsAre vs (ones l) := by
    intro l
    induction l with
    | nil => intro vs h _; rw [List.eq_nil_of_length_eq_zero h]; exact .nil
    | cons c r ih =>
      intro vs hlen hP
      cases vs with
      | nil => simp at hlen
      | cons v vr =>
        obtain ⟨c', u, hc, rfl⟩ := hP 0 v rfl
        simp only [List.getElem?_cons_zero, Option.some.injEq] at hc
        subst hc
        exact .cons _ _ (ih vr (by simpa using hlen) fun j v hv => by simpa using hP (j + 1) v (by simpa using hv))
  refine key l acc.toList ?_ fun j v hv => ?_
  · rw [Array.length_toList, h.1]; simp [tx]
  · obtain ⟨c, u, hc, rfl⟩ := h.2 j v (by rw [← Array.getElem?_toList]; exact hv)
    exact ⟨c, u, by simpa [tx] using hc, rfl⟩
theorem sorted_str {Q : Value → Shared → Prop} (hh : A.handled = none) (F : Fr h₀ L s.heap m) (N : News h₀ L s.heap news) (h64 : l.length < 64)
    (h : ∀ D' h' tk vs' l' e, Fr h₀ L h' m → News h₀ L h' ((D', seqObj "list" vs'.toArray e) :: news) → (∀ p ∈ news, p.1 ≠ D') → StrsAre vs' (ones l') → l'.Perm l → l'.Pairwise (· ≤ ·) → Q (.ref D') { s with heap := h', toks := tk }) :
    wpAny (model prog w) A (call (.builtin "sorted") [.str (tx l) t]) Q E s := by
  refine Calls.call_function_entry kind_sorted plain_sorted entry_sorted (args_sorted1 _) ?_
  unfold Builtin.«sorted»
  refine wpAny_bind (m := checkCount "sorted" 1 1 _) (wpAny_pure ?_)
  have hsz : (tx l).cps.size ≤ sizeLine := by have := tx_len l; unfold Str.length at this; rw [this]; unfold sizeLine; omega
  refine wpAny_bind (wpAny_collect_str (A := A.in1) hh (tx l) t (fun s' acc hk hg hd ho hacc => ?_) hsz)
  obtain ⟨hp', g', d', tk', os'⟩ := s'
  dsimp only at hk hg hd ho
  subst hg hd ho
  have hS := strsAre_signs hacc
  have hlen := hS.length
  rw [List.length_map] at hlen
  refine wpAny_bind (wpAny_newList ?_ (by unfold sizeLine; omega))
  have hoL : (hp'.push { cls := .type "list", data := .seq acc.toList.toArray }).get? hp'.objs.size = some (seqObj "list" acc.toList.toArray 0) := Heap.get?_push_size _ rfl
  refine wpAny_bind (wpAny_holding (wpAny_call_entry slot_list_sort ⟨_, hoL, rfl⟩ entry_list_sort (list_sort_treeK strKind_oneLt hoL hS.keysOf (fun v₁ v₂ rest e => keyKind_strs (ss := ones l) (by rw [← e]; exact hS)) (by omega) fun st' hp hs => ⟨_, rfl, ?_⟩) (args_list_sort _)))
  refine wpAny_pure ⟨_, rfl, ?_⟩
  obtain ⟨ss', h1, h2, h3⟩ := sorted_out_str hS hp hs
  obtain ⟨l', rfl, hp2⟩ := ones_perm h2
  obtain ⟨e, he⟩ := sortedHeap_at (out := (arrOf st').map (·.2)) hoL
  have old : ∀ b o, hp'.get? b = some o → (sortedHeap (hp'.push { cls := .type "list", data := .seq acc.toList.toArray }) hp'.objs.size acc.toList ((arrOf st').map (·.2))).get? b = some o := fun b o hb => by
    have hlt := Heap.lt_size hb
    have hlt2 : b < (hp'.push { cls := .type "list", data := .seq acc.toList.toArray }).objs.size := by rw [size_push']; exact Nat.lt_succ_of_lt hlt
    rw [sortedHeap_old (Nat.ne_of_lt hlt) hlt2]
    exact Heap.get?_push_of_some _ hb
  have F₁ := F.kept hk
  have N₁ : News h₀ L hp' news := fun p hp => ⟨hk _ _ (N p hp).1, (N p hp).2⟩
  exact h _ _ _ _ l' e (F₁.kept old) (N₁.kept_cons F₁ old (Nat.le_refl _) he) (fun p hp => Nat.ne_of_lt (Heap.lt_size (N₁ p hp).1)) h1 hp2 (ones_sorted h3)
theorem isStr_at (k : Nat) : ∀ {vs : List Value} {l : List Nat}, StrsAre vs (ones l) → ∀ (j : Nat) (h1 : j < vs.length) (h2 : j < l.length), isStrOf (tx [k]) vs[j] = (l[j] == k)
  | _, [], h, j, h1, h2 => by simp at h2
  | _, c :: r, h, j, h1, h2 => by
    cases h with
    | cons _ t h' =>
      cases j with
      | zero =>
        simp only [List.getElem_cons_zero, isStrOf, tx_beq, List.cons.injEq, and_true]
        exact (Bool.beq_eq_decide_eq c k).symm
      | succ j =>
        simp only [List.getElem_cons_succ]
        exact isStr_at k h' j _ _
theorem count_ones (k : Nat) : ∀ {vs : List Value} {l : List Nat}, StrsAre vs (ones l) → vs.countP (isStrOf (tx [k])) = l.count k
  | _, [], h => by cases h; rfl
  | _, c :: r, h => by
    cases h with
    | cons _ t h' =>
      rw [List.countP_cons, List.count_cons, count_ones k h']
      simp only [isStrOf, tx_beq, List.cons.injEq, and_true]
      rw [Bool.beq_eq_decide_eq c k]
theorem before_idx {l : List Nat} {c j : Nat} (h : j < l.idxOf c) (hj : j < l.length) : (l[j] == c) = false := by
  have := List.not_of_lt_findIdx (p := (· == c)) (xs := l) h
  simpa using this
theorem len_ones (h : StrsAre vs (ones l)) : vs.length = l.length := by rw [h.length, List.length_map]
theorem list_T {Q : Value → Shared → Prop} (hh : A.handled = none) (F : Fr h₀ L s.heap m) (N : News h₀ L s.heap news) (hl : l.length ≤ 1000)
    (h : ∀ D' h' tk vs' e, Fr h₀ L h' m → News h₀ L h' ((D', seqObj "list" vs'.toArray e) :: news) → (∀ p ∈ news, p.1 ≠ D') → StrsAre vs' (ones l) → Q (.ref D') { s with heap := h', toks := tk }) :
    wpAny (model prog w) A (call (.type "list") [.str (tx l) t]) Q E s := by
  have hsz : (tx l).cps.size ≤ sizeLine := by have := tx_len l; unfold Str.length at this; rw [this]; unfold sizeLine; omega
  refine call_list_str hh (tx l) t (hn := hsz) fun h' tk acc' c' hk hS' hacc => ?_
  exact h _ h' tk acc'.toList c' (F.kept hk) (N.kept_cons F hk (Nat.le_refl _) (by rw [Array.toArray_toList]; exact hS')) (fun p hp => Nat.ne_of_lt (Heap.lt_size (N p hp).1)) (strsAre_signs hacc)
theorem index_ones {Q : Value → Shared → Prop} (hl : s.heap.IsList D vs.toArray) (hi : StrsAre vs (ones l)) (hk : c ∈ l) (hz : l.length ≤ 1000) (h : Q (.int (l.idxOf c : Nat) s.toks) { s with toks := s.toks + 1 }) :
    wpAny (model prog w) A (call (.builtin "list.index") [.ref D, .str (tx [c]) t]) Q E s := by
  obtain ⟨⟨cls, dd, data, sl⟩, ho, hc, n, hd⟩ := id hl
  simp only at hc hd
  subst hc hd
  have hlen := len_ones hi
  have hj : l.idxOf c < l.length := List.idxOf_lt_length_iff.mpr hk
  refine call_meets PySem.F.slot_list_index ⟨_, ho, rfl⟩ PySem.F.entry_list_index (PySem.F.args_list_index_2 _ _)
    (SeqAt.list_indexAt D vs.toArray n dd sl (.str (tx [c]) t) (isStrOf (tx [c])) (l.idxOf c) (by simpa [hlen] using hj) (by omega) ?_ ?_) ⟨ho, fun y hy => (eq_isStrOf (tx [c]) t hi y (by simpa using hy)).at _ _, h⟩
  · show isStrOf (tx [c]) vs[l.idxOf c] = true
    rw [isStr_at c hi _ (by omega) hj]
    simp
  · intro j hjs hlt
    show isStrOf (tx [c]) vs[j] = false
    rw [isStr_at c hi j (by simpa using hjs) (by omega)]
    exact before_idx hlt _
theorem countL_ones {Q : Value → Shared → Prop} (hl : s.heap.IsList D vs.toArray) (hi : StrsAre vs (ones l)) (h : Q (.int (l.count c : Nat) s.toks) { s with toks := s.toks + 1 }) :
    wpAny (model prog w) A (call (.builtin "list.count") [.ref D, .str (tx [c]) t]) Q E s := by
  obtain ⟨⟨cls, dd, data, sl⟩, ho, hc, n, hd⟩ := id hl
  simp only at hc hd
  subst hc hd
  refine call_meets PySem.F.slot_list_count ⟨_, ho, rfl⟩ PySem.F.entry_list_count (PySem.F.args_list_count_2 _ _) (SeqAt.list_countAt D vs.toArray n dd sl (.str (tx [c]) t) (isStrOf (tx [c]))) ⟨ho, fun y hy => (eq_isStrOf (tx [c]) t hi y (by simpa using hy)).at _ _, ?_⟩
  rw [show vs.toArray.toList = vs from rfl, count_ones c hi]
  exact h
theorem erase_ones : ∀ {vs : List Value} {l : List Nat}, StrsAre vs (ones l) → ∀ j, StrsAre (vs.eraseIdx j) (ones (l.eraseIdx j))
  | _, [], h, j => by cases h; exact .nil
  | _, c :: r, h, j => by
    cases h with
    | cons _ t h' =>
      cases j with
      | zero => exact h'
      | succ j => exact .cons _ t (erase_ones h' j)
theorem remove_ones {n : Nat} {rest : List (Addr × Obj)} {Q : Value → Shared → Prop} (F : Fr h₀ L s.heap m) (N : News h₀ L s.heap ((D, seqObj "list" vs.toArray n) :: rest)) (hap : ∀ p ∈ rest, p.1 ≠ D)
    (hi : StrsAre vs (ones l)) (hk : c ∈ l) (hz : l.length ≤ 1000)
    (h : ∀ h' vs' n', Fr h₀ L h' m → News h₀ L h' ((D, seqObj "list" vs'.toArray n') :: rest) → StrsAre vs' (ones (l.erase c)) → Q .none { s with heap := h' }) :
    wpAny (model prog w) A (call (.builtin "list.remove") [.ref D, .str (tx [c]) t]) Q E s := by
  have ho : s.heap.get? D = some { cls := .type "list", data := .seq vs.toArray n } := N.get (.head _)
  have hlen := len_ones hi
  have hj : l.idxOf c < l.length := List.idxOf_lt_length_iff.mpr hk
  refine call_meets PySem.F.slot_list_remove ⟨_, ho, rfl⟩ PySem.F.entry_list_remove (PySem.F.args_list_remove_2 _ _)
    (MeetsSeq.list_remove D vs.toArray n (.str (tx [c]) t) (isStrOf (tx [c])) (fun y hy => eq_isStrOf (tx [c]) t hi y (by simpa using hy)) (l.idxOf c) (by simpa [hlen] using hj) ?_ ?_ (by rw [List.size_toArray]; unfold sizeLine; omega)) ⟨ho, ?_⟩
  · show isStrOf (tx [c]) vs[l.idxOf c] = true
    rw [isStr_at c hi _ (by omega) hj]
    simp
  · intro j hjs hlt
    show isStrOf (tx [c]) vs[j] = false
    rw [isStr_at c hi j (by simpa using hjs) (by omega)]
    exact before_idx hlt _
  · have e1 : vs.toArray.eraseIdxIfInBounds (l.idxOf c) = (vs.eraseIdx (l.idxOf c)).toArray := by simp
    have e2 := get?_update_seq ho (fun xs => xs.eraseIdxIfInBounds (l.idxOf c))
    rw [e1] at e2
    have hS := erase_ones hi (l.idxOf c)
    rw [← List.erase_eq_eraseIdx_of_idxOf rfl] at hS
    refine h _ _ _ (F.change (Heap.SameBut.update ..) (N _ (.head _)).2.1 (N _ (.head _)).2.2) (N.setHead hap (Heap.SameBut.update ..) e2) hS
end
theorem empty_tx : Str.ofString "" = tx [] := by decide +kernel
theorem join_tx : ∀ gs : List (List Nat), Str.join (tx []) (gs.map tx) = tx gs.flatten
  | [] => rfl
  | [g] => by simp [Str.join]
  | g :: g' :: r => by
    have ih := join_tx (g' :: r)
    show tx g ++ tx [] ++ Str.join (tx []) ((g' :: r).map tx) = _
    rw [ih, tx_add, tx_add, List.append_nil]; simp only [List.flatten_cons]
theorem flat_ones (l : List Nat) : (l.map fun c => [c]).flatten = l := by
  induction l with
  | nil => rfl
  | cons c r ih => rw [List.map_cons, List.flatten_cons, ih]; rfl
theorem join_T {prog : Program} {w : World} {A : Around} {E : Value → Shared → Prop} {s : Shared} {D : Addr} {vs : List Value} {gs : List (List Nat)} {t : Tok} {Q : Value → Shared → Prop} (hl : s.heap.IsList D vs.toArray) (hi : StrsAre vs (gs.map tx)) (hz : gs.flatten.length ≤ 1000)
    (h : ∀ t' k, Q (.str (tx gs.flatten) t') { s with toks := k }) : wpAny (model prog w) A (call (.builtin "str.join") [.str (Str.ofString "") t, .ref D]) Q E s := by
  refine join_list hl hi ?_ fun t' k => ?_
  · have e1 : (Str.ofString "").length = 0 := by decide +kernel
    have e2 : ((gs.map tx).map (·.length)).sum = gs.flatten.length := by
      rw [List.length_flatten, List.map_map]
      exact congrArg List.sum (List.map_congr_left fun g _ => tx_len g)
    rw [e1, e2]; omega
  · show Q (.str (Builtin.Str.glued _ _) t') _
    rw [StrLaws.glued_eq_join, empty_tx, join_tx]
    exact h t' k
theorem join_ones {prog : Program} {w : World} {A : Around} {E : Value → Shared → Prop} {s : Shared} {D : Addr} {vs : List Value} {l : List Nat} {t : Tok} {Q : Value → Shared → Prop} (hl : s.heap.IsList D vs.toArray) (hi : StrsAre vs (ones l)) (hz : l.length ≤ 1000)
    (h : ∀ t' k, Q (.str (tx l) t') { s with toks := k }) : wpAny (model prog w) A (call (.builtin "str.join") [.str (Str.ofString "") t, .ref D]) Q E s := by
  refine join_T (gs := l.map fun c => [c]) hl (by rw [List.map_map]; exact hi) (by rw [flat_ones]; exact hz) fun t' k => ?_
  rw [flat_ones]
  exact h t' k
section
variable {prog : Program} {w : World} {A : Around} {E : Value → Shared → Prop} {s : Shared} {env : Env} {h₀ : Heap} {x : Str} {px : Pos} {body : List Stmt} {Q : Flow → Shared → Prop}
/-- from an end of a turn by hand to the library's -/
theorem post_step {L : Addr} {J : (Str → Option Value) → List (Addr × Obj) → Prop} {own : List (Addr × Obj)} {adr : List Addr} {wr : List Addr} {s₁ s₂ : Shared} {f : Flow} (hw : ∀ b ∈ adr, b ∉ wr)
    (h : InvPostN h₀ L J own adr s₁ Q f s₂) : LoopStepV h₀ L wr own (fun m nw => nw.map (·.1) = adr ∧ J m nw) s₁ (fun v s' => Q (.ret v) s') (fun s' => Q .next s') f s₂ := by
  have key : InvEndN h₀ L J own adr s₁ s₂ → LoopStepU h₀ L wr own (fun m nw => nw.map (·.1) = adr ∧ J m nw) s₁ .next s₂ := by
    rintro ⟨h', tk, m', news', nx, rfl, F, N, hn, ho, ha, hj⟩
    refine LoopStepU.intro F (fun p hp => ?_) (fun p hp => hw _ (by rw [← ha]; exact List.mem_map_of_mem hp)) ⟨ha, hj⟩
    rcases List.mem_append.mp hp with hp | hp
    · exact N p (ho p hp)
    · exact N p (hn p hp)
  cases f with
  | ret v => exact h
  | brk => exact h
  | cont => exact key h
  | next => exact key h
theorem turns_W {I : Addr} {fp wr : List Addr} {n : Nat} {P : Nat → Value → Prop} {St : Nat → Heap → Prop} {m₀ : Str → Option Value} {news : List (Addr × Obj)} (J : Nat → (Str → Option Value) → List (Addr × Obj) → Prop)
    (W : Walks prog w A I fp wr n P St) (hLf : env.locals ∉ fp) (hwr : ∀ b ∈ wr, h₀.get? b = none) (hnw : ∀ p ∈ news, p.1 ∉ fp) (hst : St 0 s.heap) (F : Fr h₀ env.locals s.heap m₀) (N : News h₀ env.locals s.heap news) (hJ : J 0 m₀ news)
    (turn : ∀ (i : Nat) v m₁ news₁ h tk own, i < n → P i v → news₁.map (·.1) = news.map (·.1) → OwnOff own (news.map (·.1)) → J i m₁ news₁ → Fr h₀ env.locals h m₁ → News h₀ env.locals h (news₁ ++ own) →
      wpAny (model prog w) A (assign (.Name x px) env v) (fun _ s₃ => wpAny (model prog w) A (execs body env) (InvPostN h₀ env.locals (J (i + 1)) own (news.map (·.1)) { s with heap := h, toks := tk } Q) E s₃) E { s with heap := h, toks := tk })
    (done : ∀ m₁ news₁ h tk, news₁.map (·.1) = news.map (·.1) → J n m₁ news₁ → Fr h₀ env.locals h m₁ → News h₀ env.locals h news₁ → Q .next { s with heap := h, toks := tk }) :
    TurnsAt prog w A h₀ env (.Name x px) body Q E (.ref I) s := by
  have hw : ∀ b ∈ news.map (·.1), b ∉ wr := by
    intro b hb hbw
    obtain ⟨p, hp, rfl⟩ := List.mem_map.mp hb
    exact hnw p hp (W.sub _ hbw)
  refine ⟨I, fp, wr, n, _, _, St, m₀, news, fun i m nw => nw.map (·.1) = news.map (·.1) ∧ J i m nw, rfl, KTurns.ofWalks W (fun i v s Q E _ h => wpAny_pure h), hLf, hwr, fun p hp hb => hnw p hp (W.sub _ hb), hst, F, N, ⟨rfl, hJ⟩, ?_, ?_⟩
  · rintro i v m₁ news₁ h₁ tk₁ own hi hP ⟨ha, hj⟩ hnw₁ hof _ _ _ F₁ N₁
    refine wpAny_mono (turn i v m₁ news₁ h₁ tk₁ own hi hP ha (fun p hp b hb e => ?_) hj F₁ (fun p hp => N₁ p ((List.mem_append.mp hp).elim (List.mem_append_right _) (List.mem_append_left _)))) (fun _ s₃ h₃ => wpAny_mono h₃ (fun f s₄ h₄ => post_step hw h₄) fun _ _ e => e) fun _ _ e => e
    obtain ⟨q, hq, rfl⟩ := List.mem_map.mp hb
    exact hnw q hq (e ▸ hof p hp)
  · rintro h' tk m' news' F' N' _ ⟨ha, hj⟩
    exact done m' news' h' tk ha hj F' N'
theorem turns_rangeJ {r : Addr} {a₀ b₀ d : Int} {t₀ u₀ v₀ : Tok} {n : Nat} {m₀ : Str → Option Value} {news : List (Addr × Obj)}
    (J : Nat → (Str → Option Value) → List (Addr × Obj) → Prop)
    (hh : A.handled = none) (hr : IsRange s.heap r a₀ b₀ d t₀ u₀ v₀) (hsmall : Builtin.Range.small a₀ b₀ d = true) (hn : Builtin.Range.rangeSize a₀ b₀ d = (n : Int)) (F : Fr h₀ env.locals s.heap m₀) (N : News h₀ env.locals s.heap news) (hJ : J 0 m₀ news)
    (turn : ∀ (i : Nat) t m₁ news₁ h tk own, i < n → news₁.map (·.1) = news.map (·.1) → OwnOff own (news.map (·.1)) → J i m₁ news₁ → Fr h₀ env.locals h m₁ → News h₀ env.locals h (news₁ ++ own) →
      wpAny (model prog w) A (assign (.Name x px) env (.int (a₀ + i * d) t)) (fun _ s₃ => wpAny (model prog w) A (execs body env) (InvPostN h₀ env.locals (J (i + 1)) own (news.map (·.1)) { s with heap := h, toks := tk } Q) E s₃) E { s with heap := h, toks := tk })
    (done : ∀ m₁ news₁ h tk, news₁.map (·.1) = news.map (·.1) → J n m₁ news₁ → Fr h₀ env.locals h m₁ → News h₀ env.locals h news₁ → Q .next { s with heap := h, toks := tk }) :
    wpAny (model prog w) A (pyIter (.ref r)) (fun it s₂ => TurnsAt prog w A h₀ env (.Name x px) body Q E it s₂) E s := by
  refine wpAny_pyIter_range hr hsmall ?_
  have W : Walks prog w A s.heap.objs.size [s.heap.objs.size] [s.heap.objs.size] n (fun i v => i < n ∧ ∃ t, v = .int (a₀ + i * d) t)
      (fun i h => IsRangeIter h s.heap.objs.size (a₀ + (i : Nat) * d) ((n : Int) - (i : Nat)) d) := (Walks.range hh _ a₀ d n).bound
  refine turns_W J W ?_ ?_ ?_ (by show IsRangeIter _ _ _ _ _; rw [hn]; simpa using Heap.get?_push_size _ rfl) (F.push _) (fun p hp => ⟨Heap.get?_push_of_some _ (N p hp).1, (N p hp).2⟩) hJ ?_ ?_
  · intro hm
    exact absurd F.ns.lt ((List.mem_singleton.mp hm) ▸ Nat.lt_irrefl _)
  · intro b hb
    rw [List.mem_singleton.mp hb]
    exact next_is_new F
  · intro p hp hI
    exact absurd (Heap.lt_size (N p hp).1) ((List.mem_singleton.mp hI) ▸ Nat.lt_irrefl _)
  · rintro i v m₁ nx h tk own hi ⟨_, t, rfl⟩ ha hoff hj F₁ N₁
    exact turn i t m₁ nx h tk own hi ha hoff hj F₁ N₁
  · exact done
end
theorem small_down {a b : Int} (ha : -(2 ^ 62) ≤ a) (ha' : a < 2 ^ 62) (hb : -(2 ^ 62) ≤ b) (hb' : b < 2 ^ 62) : Builtin.Range.small a b (-1) = true := by
  unfold Builtin.Range.small Builtin.Range.rangeSize
  simp only [Builtin.Range.rangeFitsLong, Bool.and_eq_true, Bool.or_eq_true, decide_eq_true_eq, beq_iff_eq, show ¬ (-1 : Int) > 0 by decide, if_false, Int.neg_neg, Int.ediv_one]
  split <;> omega
/-- the least of a list of texts of single signs -/
theorem min_ones {prog : Program} {w : World} {A : Around} {E : Value → Shared → Prop} {s : Shared} {h₀ : Heap} {L D : Addr} {m : Str → Option Value} {news : List (Addr × Obj)} {vs : List Value} {l : List Nat} {Q : Value → Shared → Prop} (hh : A.handled = none) (F : Fr h₀ L s.heap m) (N : News h₀ L s.heap news)
    (hl : s.heap.IsList D vs.toArray) (hi : StrsAre vs (ones l)) (hne : l ≠ [])
    (h : ∀ h' tk c t, Fr h₀ L h' m → News h₀ L h' news → c ∈ l → (∀ x ∈ l, c ≤ x) → Q (.str (tx [c]) t) { s with heap := h', toks := tk }) :
    wpAny (model prog w) A (call (.builtin "min") [.ref D]) Q E s := by
  have hlt : D < s.heap.objs.size := by obtain ⟨_, e, _⟩ := hl; exact Heap.lt_size e
  have hlen := len_ones hi
  have hpos : 0 < l.length := List.length_pos_iff.mpr hne
  have hat : ∀ (i : Nat) (v : Value), vs.toArray[i]? = some v → ∃ t, v = .str (tx [l.getD i 0]) t := fun i v hv => by
    have hv' : vs[i]? = some v := by simpa using hv
    have hil : i < vs.length := by
      rcases Nat.lt_or_ge i vs.length with h | h
      · exact h
      · rw [List.getElem?_eq_none h] at hv'; cases hv'
    have key : ∀ {vs : List Value} {l : List Nat}, StrsAre vs (ones l) → ∀ (i : Nat) (v : Value), vs[i]? = some v → ∃ t, v = .str (tx [l.getD i 0]) t := by
      intro vs l
      induction l generalizing vs with
      | nil => intro h i v hv; cases h; simp at hv
      | cons c r ih =>
        intro h i v hv
        cases h with
        | cons _ t h' =>
          cases i with
          | zero => simp only [List.getElem?_cons_zero, Option.some.injEq] at hv; exact ⟨t, hv.symm⟩
          | succ i => exact ih h' i v (by simpa using hv)
    exact key hi i v hv'
  refine call_min_walk ?_
  refine wpAny_pyIter_list hl ?_
  refine ⟨s.heap.objs.size, [s.heap.objs.size, D], _, vs.toArray.size, _, _, fun i j => decide (((l.getD i 0 : Nat) : Int) < ((l.getD j 0 : Nat) : Int)), rfl, Walks.list (A := A.in1) hh _ D (Nat.ne_of_lt hlt) vs.toArray, ⟨⟨_, Heap.get?_push_size _ rfl, rfl, rfl⟩, hl.push _⟩, fun b hb => ?_, by rw [List.size_toArray]; omega, ?_, ?_⟩
  · show b < (s.heap.push _).objs.size
    rw [Heap.size_push]
    rcases List.mem_cons.mp hb with rfl | hb
    · exact Nat.lt_succ_self _
    · rw [List.mem_singleton.mp hb]; exact Nat.lt_succ_of_lt hlt
  · intro i j vi vj s' Q' E' hvi hvj hq
    obtain ⟨t, rfl⟩ := hat i vi hvi
    obtain ⟨u, rfl⟩ := hat j vj hvj
    have e : decide ((tx [l.getD i 0]).cps.toList < (tx [l.getD j 0]).cps.toList) = decide (((l.getD i 0 : Nat) : Int) < ((l.getD j 0 : Nat) : Int)) := by
      rw [Bool.eq_iff_iff, decide_eq_true_eq, decide_eq_true_eq, tx_cps, tx_cps, List.cons_lt_cons_iff]
      simp
    dsimp only at hq
    rw [← e] at hq
    exact richCompare_gives (op := .Lt) (typeIs_str s' _ t) (typeIs_str s' _ u) PySem.F.slot_str_lt PySem.F.entry_str_lt (PySem.F.args_str_lt_2 _ _) (gives_str_lt _ _ t u) (fun x => nomatch x) hq
  · intro v h' tk hv hk
    obtain ⟨t, rfl⟩ := hat _ v hv
    obtain ⟨h1, h2⟩ := argBest_lt (fun i => ((l.getD i 0 : Nat) : Int)) (vs.toArray.size - 1)
    have hs : vs.toArray.size = l.length := by rw [List.size_toArray, hlen]
    rw [hs] at h1 h2 ⊢
    generalize argBest (fun i j => decide (((l.getD i 0 : Nat) : Int) < ((l.getD j 0 : Nat) : Int))) (l.length - 1) = b at h1 h2 ⊢
    have hb : b < l.length := by omega
    have old : ∀ b o, s.heap.get? b = some o → h'.get? b = some o := fun b o e => by
      refine hk b o (fun hm => ?_) (Heap.get?_push_of_some _ e)
      exact absurd (List.mem_singleton.mp hm ▸ Heap.lt_size e) (Nat.lt_irrefl _)
    refine h h' tk _ t (F.kept old) (N.grown old) ?_ fun x hx => ?_
    · rw [List.getD_eq_getElem?_getD, List.getElem?_eq_getElem hb, Option.getD_some]; exact List.getElem_mem hb
    · obtain ⟨j, hj, rfl⟩ := List.getElem_of_mem hx
      have := h2 j (by omega)
      simp only [List.getD_eq_getElem?_getD, List.getElem?_eq_getElem hj, Option.getD_some] at this ⊢
      omega
theorem meth_list {prog : Program} {w : World} {A : Around} {E : Value → Shared → Prop} {s : Shared} {h₀ : Heap} {L D : Addr} {news : List (Addr × Obj)} {xs : Array Value} {n : Nat} {name : Str} {id : String} {pl : Sem Bool} {Q : Value × List Value → Shared → Prop} (N : News h₀ L s.heap news) (hm : (D, seqObj "list" xs n) ∈ news) (slot : Slot "list" name id) (hty : typeOf (.builtin id) = pure (.type "method_descriptor"))
    (h : Q (.builtin id, [.ref D]) s) : wpAny (model prog w) A (getMethod (.ref D) name pl) Q E s := kf_method (its := xs) (n := n) N hm slot hty h
end Mine
namespace Mine
local macro_rules | `(tactic| walk_at "eval Name") => `(tactic| (refine name_G (by assumption) (by assumption) (by rfl) ?_))
local macro_rules | `(tactic| walk_at "eval Name") => `(tactic| (refine name_Bl (by assumption) (by assumption) (by rfl) ?_))
local macro_rules | `(tactic| walk_at "wk") => `(tactic| ((fail_if_success (with_reducible show wpAny _ _ (exec (.While _ _ _ _) _) _ _ _)); (fail_if_success (with_reducible show wpAny _ _ (exec (.For _ _ _ _ _) _) _ _ _)); (fail_if_success (with_reducible show InvPostN _ _ _ _ _ _ _ _ _)); (fail_if_success (with_reducible show WhileStep _ _ _ _ _ _ _)); (fail_if_success (with_reducible show wpAny _ _ (eval (.ListComp _ _ _ _) _) _ _ _)); (fail_if_success (with_reducible show wpAny _ _ (pyIter _) _ _ _)); first | walk1 | (dsimp only; walk1)))
local macro_rules | `(tactic| walk_at "subscriptTail Name Name str int") => `(tactic| (refine item_T (by omega) (by omega) (by omega) ?_))
local macro_rules | `(tactic| walk_at "subscriptTail Name BinOp str int") => `(tactic| (refine item_T (by omega) (by omega) (by omega) ?_))
local macro_rules | `(tactic| walk_at "subscriptTail Name Constant str int") => `(tactic| (refine item_T (by omega) (by omega) (by omega) ?_))
local macro_rules | `(tactic| walk_at "subscriptTail") => `(tactic| (refine item_T (by omega) (by omega) (by omega) ?_))
local macro_rules | `(tactic| walk_at "subscriptTail Name Slice str ref") => `(tactic| (refine slice_ss_T (s := ⟨_, _, _, _, _⟩) (by assumption) (by assumption) (by omega) (by omega) (by omega) (by omega) ?_; intro _ _ _ _ _))
local macro_rules | `(tactic| walk_at "subscriptTail Name Slice str ref") => `(tactic| (refine slice_sn_T (s := ⟨_, _, _, _, _⟩) (by assumption) (by assumption) (by omega) (by omega) (by omega) ?_; intro _ _ _ _ _))
local macro_rules | `(tactic| walk_at "subscriptTail Name Slice str ref") => `(tactic| (refine slice_ns_T (s := ⟨_, _, _, _, _⟩) (by assumption) (by assumption) (by omega) (by omega) (by omega) ?_; intro _ _ _ _ _))
local macro_rules | `(tactic| walk_at "subscriptTail Name Slice str ref") => `(tactic| (refine slice_rev_T (s := ⟨_, _, _, _, _⟩) (by assumption) (by assumption) (by omega) ?_; intro _ _ _ _ _))
local macro_rules | `(tactic| walk_at "subscriptTail") => `(tactic| (refine slice_ss_T (s := ⟨_, _, _, _, _⟩) (by assumption) (by assumption) (by omega) (by omega) (by omega) (by omega) ?_; intro _ _ _ _ _))
local macro_rules | `(tactic| walk_at "subscriptTail") => `(tactic| (refine slice_sn_T (s := ⟨_, _, _, _, _⟩) (by assumption) (by assumption) (by omega) (by omega) (by omega) ?_; intro _ _ _ _ _))
local macro_rules | `(tactic| walk_at "subscriptTail") => `(tactic| (refine slice_ns_T (s := ⟨_, _, _, _, _⟩) (by assumption) (by assumption) (by omega) (by omega) (by omega) ?_; intro _ _ _ _ _))
local macro_rules | `(tactic| walk_at "subscriptTail") => `(tactic| (refine slice_rev_T (s := ⟨_, _, _, _, _⟩) (by assumption) (by assumption) (by omega) ?_; intro _ _ _ _ _))
local macro_rules | `(tactic| walk_at "call builtin:len") => `(tactic| (refine len_T (by omega) ?_))
local macro_rules | `(tactic| walk_at "call builtin:str.count") => `(tactic| (refine count_T ?_))
local macro_rules | `(tactic| walk_at "binaryOp Add str str") => `(tactic| (refine add_T (by omega) ?_; intro _ _))
local macro_rules | `(tactic| walk_at "inplaceOp Add str str") => `(tactic| (refine iadd_T (by omega) ?_; intro _ _))
local macro_rules | `(tactic| walk_at "eval Name") => `(tactic| (refine nameC_G (by assumption) (by assumption) (by rfl) ?_))
local macro_rules | `(tactic| walk_at "eval Name") => `(tactic| (refine nameC_Bl (by assumption) (by assumption) (by rfl) ?_))
local macro_rules | `(tactic| walk_at "wd") => `(tactic| (walk_at "wk" <;> (try (conv => arg 6; dsimp only)) <;> (try k_gentoks)))
local macro_rules | `(tactic| walk_at "eval Name") => `(tactic| (refine ld (by assumption) (by assumption) ?_))
local macro_rules | `(tactic| walk_at "loadName") => `(tactic| (refine wpAny_loadName_local (by rfl) (by rfl) (Fr.ns (by assumption)) (by first | assumption | (refine (if_neg (by decide)).trans ?_; first | assumption | (refine (if_neg (by decide)).trans ?_; assumption))) ?_))
local macro_rules | `(tactic| walk_at "eval Name") => `(tactic| (refine ld (by assumption) (by first | assumption | (refine (if_neg (by decide)).trans ?_; first | assumption | (refine (if_neg (by decide)).trans ?_; assumption))) ?_))
def Aft (l r : List Nat) : Prop :=
  (∃ u c t sg sl, l = u ++ c :: t ∧ t.Pairwise (· ≥ ·) ∧ sg ∈ t ∧ c < sg ∧ (∀ x ∈ t, c < x → sg ≤ x) ∧ sl.Pairwise (· ≤ ·) ∧ sl.Perm ((c :: t).erase sg) ∧ r = u ++ sg :: sl) ∨ (l.Pairwise (· ≥ ·) ∧ r.Pairwise (· ≤ ·) ∧ r.Perm l)
set_option maxHeartbeats 4000000 in
theorem T_afterDone {w : World} {mg mb : Str → Option Value} {A : Around} {s : Shared} {Q : Flow → Shared → Prop} {L : Addr} {h₀ : Heap} {oc o2 : Obj} {l : List Nat} {t0 : Tok} (X : Std w mg mb h₀) (hh : A.handled = none) (hl : l.length ≤ 60)
    (F : Fr h₀ L s.heap (B [])) (N : News h₀ L s.heap [(L + 1 + 1, oc), (L + 1, o2)]) (ht : o2.data = .cell (some (.str (tx l) t0)))
    (h : ∀ h' tk t r, r.Pairwise (· ≤ ·) → r.Perm l → Fr h₀ L h' (B []) → Q (.ret (.str (tx r) t)) { s with heap := h', toks := tk }) :
    wpAny (model P0 w) A (execs ((bodyOf 20).drop 1) (envOfC (Str.ofString "_law_after") (scOf 20) L 158 (.ref 157))) Q (fun _ _ => False) s := by
  conv in (execs _ _) => arg 1; whnf
  repeat' (walk_at "wd")
  refine sorted_str hh (by assumption) (by assumption) (by omega) (fun D4 h4 tk4 vs4 l4 e4 F4 N4 hap4 hS4 hp4 hs4 => ?_)
  dsimp only
  repeat' (walk_at "wd")
  have q5 := hp4.length_eq
  refine join_ones (News.isList N4 (.head _)) hS4 (by omega) (fun t5 k5 => ?_)
  dsimp only
  exact h _ _ _ _ hs4 hp4 F4
theorem pw_short {l : List Nat} (h : l.length ≤ 1) : l.Pairwise (· ≥ ·) := by
  match l, h with
  | [], _ => exact .nil
  | [c], _ => exact List.pairwise_singleton _ _
set_option maxHeartbeats 2000000 in
theorem C_after {w : World} {mg mb : Str → Option Value} {A : Around} {s : Shared} {Q E : Value → Shared → Prop} {l : List Nat} {t0 : Tok} (X : Std w mg mb s.heap) (hd : A.depth + 1 < recursionLimit) (hh : A.handled = none) (hl : l.length ≤ 60) (h1 : 1 ≤ l.length)
    (h : ∀ h' tk t r, Aft l r → Ext s.heap h' → Q (.str (tx r) t) { s with heap := h', toks := tk }) : wpAny (model P0 w) A (call (.ref 158) [.str (tx l) t0]) Q E s := by
  refine callC_fn 20 (binds := [(Str.ofString "text", .str (tx l) t0)]) X (Nat.lt_of_succ_lt hd) rfl rfl rfl rfl rfl rfl (fun x hx => Or.inr (by rw [List.mem_singleton.mp hx]; exact ⟨rfl, rfl⟩)) (by decide +kernel) (fun h₁ tk₁ cells F N C => ?_)
  obtain ⟨o, o2, rfl, ho, ho2⟩ := CellsAre.two C
  replace F : Fr s.heap s.heap.objs.size h₁ (B []) := F
  have ht : o2.data = .cell (some (.str (tx l) t0)) := ho2
  have hi0 : o.data = .cell none := ho
  clear C ho ho2
  conv in (execs _ _) => arg 1; whnf
  refine wpAny_execs_cons ?_
  refine For_turns (by assumption) ?_
  repeat' (walk_at "wd")
  refine turns_rangeJ (n := l.length - 1) (fun i m news => ∃ (oc : Obj) (vc : Option Value), news = [(s.heap.objs.size + 1 + 1, oc), (s.heap.objs.size + 1, o2)] ∧ oc.data = .cell vc ∧ m = B [] ∧ (l.drop (l.length - 1 - i)).Pairwise (· ≥ ·)) hh (by assumption) ?_ ?_ (by assumption) (by assumption) ?_ ?_ ?_
  · exact small_down (by omega) (by omega) (by omega) (by omega)
  · unfold Builtin.Range.rangeSize; rw [if_neg (by decide), Int.neg_neg, Int.ediv_one]; split <;> omega
  · exact ⟨o, _, rfl, hi0, rfl, pw_short (by rw [List.length_drop]; omega)⟩
  · rintro i t m₁ news₁ h₅ tk₅ own hi ha hoff ⟨oc, vc, rfl, hoc, rfl, hdesc⟩ F₅ N₅
    repeat' (walk_at "wd")
    have off : ∀ p ∈ own, p.1 ≠ s.heap.objs.size + 1 + 1 := fun p hp => hoff p hp _ (by simp)
    refine stCN (own := []) (rest := (s.heap.objs.size + 1, o2) :: own) (by assumption) (by assumption) rfl hoc (by simp) (fun p hp => ?_) (fun h₆ oc₆ F₇ N₇ hoc₆ => ?_)
    · rcases List.mem_cons.mp hp with rfl | hp
      · simp
      · exact off p hp
    dsimp only [List.nil_append] at N₇
    dsimp only
    generalize hj : (l.length : Int) - 2 + (i : Int) * -1 = j at hoc₆ ⊢
    clear F₅ N₅
    repeat' (walk_at "wd")
    · rename_i hlt
      obtain ⟨jn, rfl⟩ : ∃ jn : Nat, j = jn := ⟨j.toNat, by omega⟩
      rw [show ((jn : Int)).toNat = jn by omega, show ((jn : Int) + 1).toNat = jn + 1 by omega] at hlt
      generalize hcc : l.getD jn 0 = cc at hlt
      refine comp_T (p := fun c' => decide (cc < c')) (G := fun c' => [c']) hh rfl (by decide +kernel) rfl (by decide +kernel) rfl ?_
      repeat' (walk_at "wd")
      · rw [List.length_drop]; omega
      · rw [show ((jn : Int)).toNat = jn by omega, hcc]; simp [List.cons_lt_cons_iff]
      · exact ⟨_, _, rfl, fun _ _ e => e⟩
      · exact ⟨_, _, rfl, fun _ _ e => e⟩
      · rename_i FA NA D h' tk' ys hD hpl hys he
        have F₈ := Fr.ext FA he
        have N₈ := News.ext NA he
        rw [show l.length - 1 - i = jn + 1 by omega] at hdesc
        clear FA NA F₇ hD he
        rw [show ((jn : Int) + 1).toNat = jn + 1 by omega] at hys
        have hmem : l.getD (jn + 1) 0 ∈ (l.drop (jn + 1)).filter (fun c' => decide (cc < c')) := by
          have hlt' : cc < l.getD (jn + 1) 0 := by simpa [List.cons_lt_cons_iff] using hlt
          refine List.mem_filter.mpr ⟨?_, by simpa using hlt'⟩
          rw [List.getD_eq_getElem?_getD, List.getElem?_eq_getElem (by omega), Option.getD_some, List.mem_iff_getElem]
          exact ⟨0, by rw [List.length_drop]; omega, by simp⟩
        refine min_ones hh F₈ N₈ hpl.isList hys (List.ne_nil_of_mem hmem) (fun h₉ tk₉ sg tsg F₉ N₉ hsg hmin => ?_)
        clear F₈ N₈
        dsimp only
        repeat' (walk_at "wd")
        refine list_T hh (by assumption) (by assumption) (by rw [List.length_drop]; omega) (fun D2 hB tkB vs2 e2 FB NB hap hS => ?_)
        dsimp only
        repeat' (walk_at "wd")
        refine meth_list (by assumption) (List.mem_cons_self ..) PySem.F.slot_list_remove PySem.F.type_list_remove ?_
        dsimp only
        repeat' (walk_at "wd")
        have hdr : l.drop jn = cc :: l.drop (jn + 1) := by
          rw [List.drop_eq_getElem_cons (by omega : jn < l.length), ← hcc, List.getD_eq_getElem?_getD, List.getElem?_eq_getElem (by omega), Option.getD_some]
        have hsgT := (List.mem_filter.mp hsg).1
        have q1 : (l.take ((jn : Int)).toNat).length ≤ 60 := by rw [List.length_take]; omega
        have q2 : (l.take ((jn : Int)).toNat ++ [sg]).length ≤ 61 := by rw [List.length_append, List.length_take, List.length_singleton]; omega
        have q3 : [sg].length = 1 := rfl
        have q4 : (l.drop ((jn : Int)).toNat).length ≤ 60 := by rw [List.length_drop]; omega
        refine remove_ones (by assumption) (by assumption) hap hS (by rw [show ((jn : Int)).toNat = jn by omega, hdr]; exact List.mem_cons_of_mem _ hsgT) (by omega) (fun hE vs3 n3 FE NE hS3 => ?_)
        dsimp only
        repeat' (walk_at "wd")
        refine sorted_ref (by assumption) (by assumption) (News.isList (by assumption) (.head _)) hS3 (by have := List.length_erase_le (a := sg) (l := l.drop ((jn : Int)).toNat); omega) (fun D4 h4 vs4 l4 e4 F4 N4 hap4 hS4 hp4 hs4 => ?_)
        dsimp only
        repeat' (walk_at "wd")
        have q5 : l4.length ≤ 60 := by have := hp4.length_eq; have := List.length_erase_le (a := sg) (l := l.drop ((jn : Int)).toNat); omega
        refine join_ones (News.isList N4 (.head _)) hS4 (by omega) (fun t5 k5 => ?_)
        dsimp only
        repeat' (walk_at "wd")
        rw [show ((jn : Int)).toNat = jn by omega, hdr] at hp4
        refine h _ _ _ _ (.inl ⟨l.take jn, cc, l.drop (jn + 1), sg, l4, ?_, hdesc, hsgT, by simpa using (List.mem_filter.mp hsg).2, fun x hx hcx => hmin x (List.mem_filter.mpr ⟨hx, by simpa using hcx⟩), hs4, hp4, ?_⟩) (Fr.growth F4)
        · rw [← hdr, List.take_append_drop]
        · rw [show ((jn : Int)).toNat = jn by omega, List.append_assoc]; rfl
    · rename (¬ (tx [l.getD _ 0]).cps.toList < (tx [l.getD _ 0]).cps.toList) => hlt
      obtain ⟨jn, rfl⟩ : ∃ jn : Nat, j = jn := ⟨j.toNat, by omega⟩
      rw [show ((jn : Int)).toNat = jn by omega, show ((jn : Int) + 1).toNat = jn + 1 by omega] at hlt
      refine InvEndN.intro (by assumption) (by assumption) (nx := [(s.heap.objs.size + 1 + 1, oc₆), (s.heap.objs.size + 1, o2)]) ⟨oc₆, _, rfl, hoc₆, rfl, ?_⟩ rfl (fun p hp => List.mem_append_left own hp) (fun p hp => List.mem_append_right [(s.heap.objs.size + 1 + 1, oc₆), (s.heap.objs.size + 1, o2)] hp)
      rw [show l.length - 1 - (i + 1) = jn by omega, List.drop_eq_getElem_cons (by omega : jn < l.length)]
      rw [show l.length - 1 - i = jn + 1 by omega] at hdesc
      refine List.pairwise_cons.mpr ⟨fun x hx => ?_, hdesc⟩
      rw [List.getD_eq_getElem?_getD, List.getElem?_eq_getElem (by omega : jn < l.length), Option.getD_some, List.getD_eq_getElem?_getD, List.getElem?_eq_getElem (by omega : jn + 1 < l.length), Option.getD_some] at hlt
      rw [List.drop_eq_getElem_cons (by omega : jn + 1 < l.length)] at hdesc hx
      have hge : l[jn + 1] ≤ l[jn] := by
        have : ¬ l[jn] < l[jn + 1] := by simpa [List.cons_lt_cons_iff] using hlt
        omega
      rcases List.mem_cons.mp hx with rfl | hx
      · exact hge
      · exact Nat.le_trans ((List.pairwise_cons.mp hdesc).1 x hx) hge
  · rintro m₁ news₁ h₅ tk₅ ha ⟨oc, vc, rfl, hoc, rfl, hdesc⟩ F₅ N₅
    rw [Nat.sub_self, List.drop_zero] at hdesc
    dsimp only
    exact T_afterDone X hh hl F₅ N₅ ht (fun h' tk t r a b F' => h _ _ _ _ (.inr ⟨hdesc, a, b⟩) (Fr.growth F'))
theorem bits_le {a : Int} {k : Nat} (h0 : 0 ≤ a) (h : a < 2 ^ k) : Builtin.Int.intBits a ≤ k := by
  unfold Builtin.Int.intBits
  split
  · omega
  · rename_i hne
    have hz : a.natAbs ≠ 0 := by
      intro e
      have : a = 0 := by omega
      exact hne (by simp [this])
    have h2 : a.natAbs < 2 ^ k := by
      have e : ((2 ^ k : Nat) : Int) = (2 : Int) ^ k := by simp
      omega
    exact (Nat.log2_lt hz).mpr h2
set_option maxHeartbeats 4000000 in
theorem C_div2 {w : World} {mg mb : Str → Option Value} {A : Around} {s : Shared} {Q E : Value → Shared → Prop} {a b n : Int} {t0 t1 t2 : Tok} (X : Std w mg mb s.heap) (hd : A.depth + 1 < recursionLimit) (ha : 0 ≤ a ∧ a < 4611686018427387904) (hb : 0 < b ∧ b < 1073741824) (hn : 0 ≤ n ∧ n ≤ 100)
    (h : ∀ D h' tk t1 t2, Ext s.heap h' → s.heap.get? D = none → h'.get? D = some { cls := .type "tuple", data := .seq #[.int (a.fdiv b) t1, .int (a.fmod b) t2] } → Q (.ref D) { s with heap := h', toks := tk }) :
    wpAny (model P0 w) A (call (.ref 35) [.int a t0, .int b t1, .int n t2]) Q E s := by
  refine call_fn 5 (binds := [(Str.ofString "a", .int a t0), (Str.ofString "b", .int b t1), (Str.ofString "n", .int n t2)]) X (Nat.lt_of_succ_lt hd) rfl rfl rfl rfl rfl rfl (locs (by rfl)) (fun h₁ F => ?_)
  have N : News s.heap s.heap.objs.size h₁ [] := News.nil
  have hB : b ≠ 0 := by omega
  have hbits : 0 ≤ Builtin.Int.intBits a ∧ Builtin.Int.intBits a ≤ 100 := by have := bits_le (k := 62) ha.1 ha.2; omega
  conv in (execs _ _) => arg 1; whnf
  refine wpAny_execs_cons ?_
  repeat' ((fail_if_success (with_reducible show wpAny _ _ (execs (_ :: _) _) _ _ _)); walk_at "wd")
  all_goals try (exfalso; omega)
  repeat' (walk_at "wd")
  rename_i hA FA NA
  exact h _ _ _ _ _ (Fr.growth FA) (NA _ (List.mem_cons_self ..)).2.2 (NA _ (List.mem_cons_self ..)).1
section
theorem callEnv_X {name qual : Str} {params : Arguments} {body : List Stmt} {scope : Scope} {cl : List (Str × Addr)} {dV kV doc pm : Value} {an : Option Addr} {cdv ct : Value} {L f : Addr} :
    callEnv (fnX name qual params body scope cl dV kV doc pm an cdv ct) L f = envX qual scope L f cdv cl := rfl
section
variable {M : Model} {A : Around} {E : Value → Shared → Prop} {s : Shared} {h₀ : Heap} {L a c : Addr} {m : Str → Option Value} {cn : Str} {cs : Scope} {ccd : Value} {cl : List (Str × Addr)} {x : Str} {pos : Pos} {v : Value} {o : Obj} {Q : Value → Shared → Prop}
/-- a free name, its cell below the frame -/
theorem nameF (F : Fr h₀ L s.heap m) (hc : cl.lookup x = some c) (ho : h₀.get? c = some o) (hd : o.data = .cell (some v)) (h : Q v s)
    (hk : cs.kind = .function := by rfl) (hx : (envX cn cs L a ccd cl).kindOf x = some .free := by rfl) (hb : (x == ("__debug__" : Str)) = false := by decide) (hn : (x == ("__classdict__" : Str)) = false := by decide) :
    wpAny M A (eval (.Name x pos) (envX cn cs L a ccd cl)) Q E s := wpAny_Name (wpAny_loadName_free hk hx hc ⟨o, F.keep _ _ ho, hd⟩ h hn) hb
end
/-- the call of a closure, from its own frame on -/
theorem call_X {w : World} {A : Around} {s : Shared} {Q E : Value → Shared → Prop} {f c' : Addr} {name qual : Str} {params : Arguments} {body : List Stmt} {scope : Scope} {cl : List (Str × Addr)} {doc pm ctv : Value} {args : List Value} {binds : List (Str × Value)}
    (hroom : A.depth < recursionLimit) (ho : s.heap.get? f = some (fnMade name qual params body scope cl doc pm c' ctv)) (hcd : s.heap.CodeRec (.ref c') qual) (hlim : s.heap.NoLimit)
    (hbind : bindArgs (fnX name qual params body scope cl .none .none doc pm none (.ref c') ctv) ⟨args, []⟩ = pure binds)
    (hloc : ∀ x ∈ binds, scope.names.lookup x.1 = some .local) (hcell : ∀ x ∈ scope.names, x.2 ≠ .cell)
    (h : ∀ h₁, Fr s.heap s.heap.objs.size h₁ (fun x => binds.reverse.lookup x) →
      wpAny (model P0 w) (A.deeper (envX qual scope s.heap.objs.size f (.ref c') cl)) (execs body (envX qual scope s.heap.objs.size f (.ref c') cl))
        (fun fl s' => Q (match fl with | .ret v => v | _ => .none) s') (fun _ _ => False) { s with heap := h₁, toks := s.toks + binds.length })
    (hco : scope.isCoroutine = false := by rfl) (hgen : scope.isGenerator = false := by rfl) (hk : scope.kind = .function := by rfl) :
    wpAny (model P0 w) A (call (.ref f) args) Q E s :=
  wpAny_call (codeAny_call_def (fd := fnX name qual params body scope cl .none .none doc pm none (.ref c') ctv) hroom ho rfl hlim hcd rfl (BindsTo.of_eq hbind) hcell hloc
    (fun h₁ hns hk₁ => wpAny_mono (h h₁ ⟨hns, hk₁, Nat.le_refl _⟩) (fun _ _ x => x) fun _ _ x => x.elim) hco hgen hk)
def fnParams : Stmt → Arguments
  | .FunctionDef _ a _ _ _ _ _ _ _ _ => a
  | _ => default
def fnBody : Stmt → List Stmt
  | .FunctionDef _ _ b _ _ _ _ _ _ _ => b
  | _ => []
def fnScope : Stmt → Scope
  | .FunctionDef _ _ _ _ _ _ s _ _ _ => s
  | _ => default
def fnPos : Stmt → Pos
  | .FunctionDef _ _ _ _ _ _ _ _ _ p => p
  | _ => default
noncomputable def dSt : Stmt := (bodyOf 8).getD 0 (.Pass default)
noncomputable def iSt : Stmt := (bodyOf 7).getD 1 (.Pass default)
/-- `inner` of `_digits2int` at f, over the list D and n -/
def D2I (h : Heap) (f D : Addr) (n : Int) : Prop := ∃ (q : Str) (doc pm ctv : Value) (c' cn ci cd : Addr) (on oi od : Obj) (tn : Tok),
  h.get? f = some (fnMade (Str.ofString "inner") q (fnParams dSt) (fnBody dSt) (fnScope dSt) [(Str.ofString "n", cn), (Str.ofString "inner", ci), (Str.ofString "digits", cd)] doc pm c' ctv) ∧ h.CodeRec (.ref c') q ∧
  h.get? cn = some on ∧ on.data = .cell (some (.int n tn)) ∧ h.get? ci = some oi ∧ oi.data = .cell (some (.ref f)) ∧ h.get? cd = some od ∧ od.data = .cell (some (.ref D))
theorem D2I.ext {h h' : Heap} {f D : Addr} {n : Int} (X : D2I h f D n) (e : Ext h h') : D2I h' f D n := by
  obtain ⟨q, doc, pm, ctv, c', cn, ci, cd, on, oi, od, tn, h1, h2, h3, h4, h5, h6, h7, h8⟩ := X
  exact ⟨q, doc, pm, ctv, c', cn, ci, cd, on, oi, od, tn, e _ _ h1, h2.keeps e, e _ _ h3, h4, e _ _ h5, h6, e _ _ h7, h8⟩
/-- the number that digits tell, the least first -/
def valOf (n : Nat) : List Int → Int
  | [] => 0
  | d :: r => d + 2 ^ n * valOf n r
local macro_rules | `(tactic| walk_at "eval Name") => `(tactic| (refine nameF (by assumption) (by rfl) (by assumption) (by assumption) ?_))
local macro_rules | `(tactic| walk_at "eval Name") => `(tactic| (refine nameX_L (by assumption) (by rfl) ?_))
local macro_rules | `(tactic| walk_at "storeName") => `(tactic| (refine storeX_L (by assumption) (by assumption) ?_; intro _ _ _))
theorem valOf_bound (n : Nat) : ∀ {l : List Int}, (∀ d ∈ l, 0 ≤ d ∧ d < 2 ^ n) → 0 ≤ valOf n l ∧ valOf n l < 2 ^ (l.length * n)
  | [], _ => by simp [valOf]
  | d :: r, h => by
    have h1 := valOf_bound n (l := r) (fun x hx => h x (.tail _ hx))
    have h2 := h d (.head _)
    have hp : (0 : Int) < 2 ^ n := Int.pow_pos (by decide)
    have e : (2 : Int) ^ ((d :: r).length * n) = 2 ^ n * 2 ^ (r.length * n) := by rw [List.length_cons, Nat.add_mul, Nat.one_mul, Nat.add_comm, Int.pow_add]
    rw [e]
    simp only [valOf]
    refine ⟨?_, ?_⟩
    · have := Int.mul_nonneg (Int.le_of_lt hp) h1.1
      omega
    · have h3 : valOf n r + 1 ≤ 2 ^ (r.length * n) := h1.2
      have h4 := Int.mul_le_mul_of_nonneg_left h3 (Int.le_of_lt hp)
      rw [Int.mul_add, Int.mul_one] at h4
      omega
theorem valOf_append (n : Nat) : ∀ a b : List Int, valOf n (a ++ b) = valOf n a + 2 ^ (a.length * n) * valOf n b
  | [], b => by simp [valOf]
  | d :: r, b => by
    have e : (2 : Int) ^ ((d :: r).length * n) = 2 ^ n * 2 ^ (r.length * n) := by rw [List.length_cons, Nat.add_mul, Nat.one_mul, Nat.add_comm, Int.pow_add]
    simp only [List.cons_append, valOf]
    rw [valOf_append n r b, e, Int.mul_add, Int.mul_assoc]
    omega
set_option maxHeartbeats 1000000 in
theorem C_dinner {w : World} {mg mb : Str → Option Value} {D f : Addr} {n : Nat} {vs : List Value} {ds : List Int} (hds : ds.length ≤ 100) (hdn : ds.length * n ≤ 100) (hi : IntsAre vs ds) (hdig : ∀ d ∈ ds, 0 ≤ d ∧ d < 2 ^ n) (k : Nat) :
    ∀ {A : Around} {s : Shared} {Q E : Value → Shared → Prop} {L R : Int} {tl tr : Tok}, Std w mg mb s.heap → D2I s.heap f D n → s.heap.IsList D vs.toArray → A.depth + k + 1 < recursionLimit → A.handled = none → 1 ≤ k → 0 ≤ L → R = L + k → R ≤ ds.length →
      (∀ h' tk t, Ext s.heap h' → Q (.int (valOf n ((ds.drop L.toNat).take k)) t) { s with heap := h', toks := tk }) → wpAny (model P0 w) A (call (.ref f) [.int L tl, .int R tr]) Q E s := by
  induction k using Nat.strongRecOn with
  | _ k ih =>
  intro A s Q E L R tl tr X DI hlD hd hh hk h0 hR hRl h
  obtain ⟨q, doc, pm, ctv, c', cn, ci, cd, on, oi, od, tn, h1, h2, h3, h4, h5, h6, h7, h8⟩ := id DI
  refine call_X (binds := [(Str.ofString "L", .int L tl), (Str.ofString "R", .int R tr)]) (by omega) h1 h2 X.nolimit rfl (locs (by rfl)) (by decide +kernel) (fun h₁ F => ?_)
  have N : News s.heap s.heap.objs.size h₁ [] := News.nil
  conv in (execs _ _) => arg 1; whnf
  refine wpAny_execs_cons ?_
  repeat' ((fail_if_success (with_reducible show wpAny _ _ (execs (_ :: _) _) _ _ _)); walk_at "wd")
  · have hl1 : s.heap.IsList D vs.toArray := hlD
    repeat' (walk_at "wd")
    have k1 : k = 1 := by omega
    subst k1
    have e : valOf n ((ds.drop L.toNat).take 1) = ds.getD L.toNat 0 := by
      rw [List.drop_eq_getElem_cons (by omega), List.getD_eq_getElem?_getD, List.getElem?_eq_getElem (by omega), Option.getD_some]
      show ds[L.toNat] + 2 ^ n * valOf n [] = ds[L.toNat]
      simp [valOf]
    rw [e] at h
    exact h _ _ _ (Fr.growth F)
  · dsimp only
    have hmid : (L + R).fdiv (2 ^ Int.toNat 1) = L + ((k / 2 : Nat) : Int) := by
      rw [show (2 : Int) ^ Int.toNat 1 = 2 from rfl, Int.fdiv_eq_ediv_of_nonneg _ (by decide)]; omega
    have hk2 : 1 ≤ k / 2 ∧ k / 2 < k := by omega
    refine wpAny_execs_cons ?_
    repeat' ((fail_if_success (with_reducible show wpAny _ _ (execs (_ :: _) _) _ _ _)); walk_at "wd")
    rw [hmid] at *
    generalize hmm : k / 2 = k1 at *
    have hsh : 0 ≤ (k1 : Int) * n ∧ (k1 : Int) * n ≤ 100 := by
      refine ⟨by exact Int.mul_nonneg (by omega) (by omega), ?_⟩
      have : k1 * n ≤ ds.length * n := Nat.mul_le_mul_right _ (by omega)
      rw [← Int.natCast_mul]; omega
    repeat' (walk_at "wd")
    refine callWith_F ⟨_, _, _, _, Fr.keep (by assumption) _ _ h1⟩ ?_
    repeat' (walk_at "wd")
    · exact ⟨_, _, _, _, Fr.keep (by assumption) _ _ h1⟩
    rename_i FA NA
    rw [show (L + (k1 : Int) - L) * n = k1 * n by rw [show L + (k1 : Int) - L = k1 by omega]] at FA
    refine ih (k - k1) (by omega) (X.fr FA) (DI.ext (Fr.growth FA)) (Fr.lst FA hlD) (by show A.depth + 1 + _ + 1 < _; omega) hh (by omega) (by omega) (by omega) (by omega) (fun h3 tk3 t3 e3 => ?_)
    have F3 := Fr.ext FA e3
    have N3 := News.ext NA e3
    clear FA NA
    dsimp only
    have hV := valOf_bound n (l := (ds.drop (L + (k1 : Int)).toNat).take (k - k1)) (fun d hd => hdig d (List.mem_of_mem_drop (List.mem_of_mem_take hd)))
    have hlen : ((ds.drop (L + (k1 : Int)).toNat).take (k - k1)).length = k - k1 := by rw [List.length_take, List.length_drop]; omega
    generalize hv1 : valOf n ((ds.drop (L + (k1 : Int)).toNat).take (k - k1)) = V1 at *
    repeat' (walk_at "wd")
    have hsz : (k - k1) * n ≤ 100 := Nat.le_trans (Nat.mul_le_mul_right _ (by omega)) hdn
    have hbit := bits_le hV.1 hV.2
    rw [hlen] at hbit
    refine lshift_int hsh.1 (by rw [show (2 : Int) ^ 27 = 134217728 by decide]; omega) ?_
    have hto : ((k1 : Int) * n).toNat = k1 * n := by rw [← Int.natCast_mul]; rfl
    rw [hto]
    repeat' (walk_at "wd")
    refine callWith_F ⟨_, _, _, _, Fr.keep (by assumption) _ _ h1⟩ ?_
    repeat' (walk_at "wd")
    · exact ⟨_, _, _, _, Fr.keep (by assumption) _ _ h1⟩
    refine ih k1 (by omega) (X.fr F3) (DI.ext (Fr.growth F3)) (Fr.lst F3 hlD) (by show A.depth + 1 + _ + 1 < _; omega) hh (by omega) h0 rfl (by omega) (fun h4 tk4 t4 e4 => ?_)
    have F4 := Fr.ext F3 e4
    dsimp only
    repeat' (walk_at "wd")
    have e : V1 * 2 ^ (k1 * n) + valOf n ((ds.drop L.toNat).take k1) = valOf n ((ds.drop L.toNat).take k) := by
      have e1 : (ds.drop L.toNat).take k = (ds.drop L.toNat).take k1 ++ (ds.drop (L + (k1 : Int)).toNat).take (k - k1) := by
        rw [show (L + (k1 : Int)).toNat = L.toNat + k1 by omega, ← List.drop_drop]
        conv => lhs; rw [show k = k1 + (k - k1) by omega, List.take_add]
      have e2 : ((ds.drop L.toNat).take k1).length = k1 := by rw [List.length_take, List.length_drop]; omega
      rw [e1, valOf_append, hv1, e2, Int.mul_comm]
      omega
    rw [e]
    exact h _ _ _ (Fr.growth F4)
end
theorem Ns.hide {h : Heap} {a : Addr} {mm : Str → Option Value} {l : List Addr} (x : h.Ns a mm) (ha : a ∉ l) : (hideAll h l).Ns a mm :=
  let ⟨o, es, ep, e, r⟩ := x; ⟨o, es, ep, hideAll_get _ e ha, r⟩
theorem KP_off (w : World) : ((KP w.params).all fun p => p.1 != 44 && p.1 != 51) = true := by kernel_rfl
theorem Std.hide {w : World} {mg mb : Str → Option Value} {h : Heap} (X : Std w mg mb h) (l : List Addr) (hl : ∀ a ∈ l, a = 44 ∨ a = 51) : Std w mg mb (hideAll h l) := by
  have off : ∀ a : Addr, a ≠ 44 → a ≠ 51 → a ∉ l := fun a h1 h2 hm => (hl a hm).elim h1 h2
  refine ⟨fun a o e => ?_, Ns.hide X.g (off _ (by decide) (by decide)), Ns.hide X.b (off _ (by decide) (by decide)), ?_, X.builtins⟩
  · have h2 := List.all_eq_true.mp (KP_off w) (a, o) (mem_of_lookupK e)
    simp only [Bool.and_eq_true, bne_iff_ne] at h2
    exact hideAll_get _ (X.K a o e) (off a h2.1 h2.2)
  · obtain ⟨mc, h1, h2⟩ := X.nolimit
    exact ⟨mc, Ns.hide h1 (off _ (by decide) (by decide)), h2⟩
/-- where `__builtins__` leads -/
def BM (mg : Str → Option Value) (h : Heap) : Prop := ∃ bm ob, mg "__builtins__" = some (.ref bm) ∧ bm ≠ builtinsNs ∧ h.get? bm = some ob ∧ ob.cls = .type "module" ∧ ob.dict = some builtinsNs ∧ ob.data = .plain
theorem BM.keeps {mg : Str → Option Value} {h h' : Heap} (X : BM mg h) (e : Ext h h') : BM mg h' :=
  let ⟨bm, ob, h1, h2, h3, r⟩ := X; ⟨bm, ob, h1, h2, e _ _ h3, r⟩
/-- a code table: empty, or with the one code of the nested def -/
def TabAt (q : Str) (pos : Pos) (P : Addr) (h : Heap) : Prop :=
  h.get? P = some (tabObj #[]) ∨ ∃ c', h.get? P = some (tabObj #[rawInt pos.line, rawInt pos.col, .ref c']) ∧ c' ≠ 44 ∧ c' ≠ 51 ∧ h.CodeRec (.ref c') q
theorem TabAt.keeps {q : Str} {pos : Pos} {P : Addr} {h h' : Heap} (X : TabAt q pos P h) (e : Ext h h') : TabAt q pos P h' := by
  rcases X with h1 | ⟨c', h1, h2, h3, h4⟩
  · exact .inl (e _ _ h1)
  · exact .inr ⟨c', e _ _ h1, h2, h3, h4.keeps e⟩
theorem BM.but {mg : Str → Option Value} {h h' : Heap} {P : Addr} {ps : Array Value} (X : BM mg h) (hP : h.get? P = some (tabObj ps)) (e : Heap.ExtBut P h h') : BM mg h' := by
  obtain ⟨bm, ob, h1, h2, h3, h4, r⟩ := X
  refine ⟨bm, ob, h1, h2, e _ _ (fun q => ?_) h3, h4, r⟩
  subst q
  rw [h3] at hP; cases hP; cases h4
theorem TabAt.tab {q : Str} {pos : Pos} {P : Addr} {h : Heap} (X : TabAt q pos P h) : ∃ ps, h.get? P = some (tabObj ps) := by
  rcases X with h1 | ⟨c', h1, _⟩
  · exact ⟨_, h1⟩
  · exact ⟨_, h1⟩
theorem BM.at {mg : Str → Option Value} {h : Heap} {P : Addr} {ps : Array Value} (X : BM mg h) (g : h.Ns mainGlobals mg) (hP : h.get? P = some (tabObj ps)) : h.BuiltinsAt mg P := by
  obtain ⟨bm, ob, h1, h2, h3, h4, h5, h6⟩ := X
  refine ⟨bm, ob, h1, h2, fun q => ?_, fun q => ?_, h3, h4, h5, h6⟩
  · obtain ⟨o, es, ep, e, hd, _⟩ := g
    rw [← q, h3] at e; cases e; rw [hd] at h6; cases h6
  · rw [q, hP] at h3; cases h3; cases h4
/-- a def within a def: the function is made, the table holds its code -/
theorem nest_T {M : Model} {A : Around} {E : Value → Shared → Prop} {s : Shared} {h₀ : Heap} {L c P : Addr} {m mg : Str → Option Value} {news : List (Addr × Obj)} {name qual : Str} {params : Arguments} {body : List Stmt} {scope : Scope} {pos : Pos} {firstLine : Nat} {clos : List (Str × Addr)} {env : Env} {Q : Value → Shared → Prop}
    (F : Fr h₀ L s.heap m) (N : News h₀ L s.heap news) (hP₀ : h₀.get? P = none) (hPL : P ≠ L) (hPn : ∀ p ∈ news, p.1 ≠ P) (T : TabAt qual pos P s.heap) (g : s.heap.Ns mainGlobals mg) (bm : BM mg s.heap) (hgP : mainGlobals ≠ P) (h51 : 52 ≤ L)
    (C : CodeHd s.heap c P) (hge : env.globals = mainGlobals) (hcode : env.code = .ref c) (hcl : closureFor scope env = pure clos)
    (h : ∀ f c' ctv doc h' tk, Fr h₀ L h' m → News h₀ L h' ((f, fnMade name qual params body scope clos doc ((mg "__name__").getD .none) c' ctv) :: news) → h'.CodeRec (.ref c') qual → TabAt qual pos P h' → (∀ p ∈ news, p.1 ≠ f) → Q (.ref f) { s with heap := h', toks := tk }) :
    wpAny M A (makeFunction name qual params (.stmts body) scope env [] [] [] pos firstLine) Q E s := by
  have hLs := F.ns.lt
  have hbig : 52 ≤ s.heap.objs.size := Nat.le_trans h51 (Nat.le_of_lt hLs)
  have fresh : ∀ b, L < b → h₀.get? b = none := fun b hb => Heap.get?_none_of_le (Nat.le_trans F.above (Nat.le_of_lt hb))
  rcases T with hP | ⟨c₁, hP, h1, h2, hrec⟩
  · refine makeFunction_K (ps := #[]) hcl hge g hcode C hP trivial rfl hgP (bm.at g hP) fun c' ctv doc h' tk hx hgt hlt hrec htb => ?_
    have F' : Fr h₀ L (h'.push (fnMade name qual params body scope clos doc ((mg "__name__").getD .none) c' ctv)) m :=
      ⟨(F.ns.extBut hx (Ne.symm hPL)).push _, fun b o e => Heap.get?_push_of_some _ (hx b o (fun q => by rw [q, hP₀] at e; cases e) (F.keep b o e)), F.above⟩
    have hr' : (h'.push (fnMade name qual params body scope clos doc ((mg "__name__").getD .none) c' ctv)).CodeRec (.ref c') qual := hrec.push _
    refine h _ c' ctv doc _ tk F' (fun p hp => ?_) hr' (.inr ⟨c', Heap.get?_push_of_some _ htb, Nat.ne_of_gt (Nat.lt_of_lt_of_le (by decide : 44 < 52) (Nat.le_trans hbig hgt)), Nat.ne_of_gt (Nat.lt_of_lt_of_le (by decide : 51 < 52) (Nat.le_trans hbig hgt)), hr'⟩) (fun p hp => Nat.ne_of_lt (Heap.lt_size (hx _ _ (hPn p hp) (N p hp).1)))
    rcases List.mem_cons.mp hp with rfl | hp
    · have : L < h'.objs.size := Nat.lt_of_lt_of_le hLs (Nat.le_of_lt (Nat.lt_of_le_of_lt hgt hlt))
      exact ⟨Heap.get?_push_size _ rfl, Nat.ne_of_gt this, fresh _ this⟩
    · exact ⟨Heap.get?_push_of_some _ (hx _ _ (hPn p hp) (N p hp).1), (N p hp).2⟩
  · refine makeFunction_hit (cv := .ref c₁) (ps := #[rawInt pos.line, rawInt pos.col, .ref c₁]) hcl hge g hcode C hP trivial (by simp [codeAmong, rawInt]) (bm.at g hP) fun ctv doc h' tk hk hsz => ?_
    have hk' : Ext s.heap (h'.push (fnMade name qual params body scope clos doc ((mg "__name__").getD .none) c₁ ctv)) := fun b o e => Heap.get?_push_of_some _ (hk b o e)
    refine h _ c₁ ctv doc _ tk (F.kept hk') (fun p hp => ?_) (hrec.keeps hk') (.inr ⟨c₁, hk' _ _ hP, h1, h2, hrec.keeps hk'⟩) (fun p hp => Nat.ne_of_lt (Heap.lt_size (hk _ _ (N p hp).1)))
    rcases List.mem_cons.mp hp with rfl | hp
    · have : L < h'.objs.size := Nat.lt_of_lt_of_le hLs hsz
      exact ⟨Heap.get?_push_size _ rfl, Nat.ne_of_gt this, fresh _ this⟩
    · exact ⟨hk' _ _ (N p hp).1, (N p hp).2⟩
theorem code56 {w : World} {mg mb : Str → Option Value} {h : Heap} (X : Std w mg mb h) : CodeHd h 55 51 :=
  ⟨o55 w.params, _, _, _, _, _, _, _, _, X.K _ _ rfl, rfl, rfl, rfl, rfl, rfl, rfl, rfl, rfl, by decide⟩
theorem code49 {w : World} {mg mb : Str → Option Value} {h : Heap} (X : Std w mg mb h) : CodeHd h 48 44 :=
  ⟨o48 w.params, _, _, _, _, _, _, _, _, X.K _ _ rfl, rfl, rfl, rfl, rfl, rfl, rfl, rfl, rfl, by decide⟩
section
theorem Fr.hide {h₀ h : Heap} {L : Addr} {m : Str → Option Value} (F : Fr h₀ L h m) (l : List Addr) : Fr (hideAll h₀ l) L h m := ⟨F.ns, fun b o e => F.keep b o (of_hideAll _ e), Nat.le_trans (Nat.le_of_eq (hideAll_size _ _)) F.above⟩
theorem hide_none {h : Heap} {b : Addr} {l : List Addr} (e : h.get? b = none) : (hideAll h l).get? b = none := by
  cases q : (hideAll h l).get? b with
  | none => rfl
  | some o => rw [of_hideAll _ q] at e; cases e
theorem News.hide {h₀ h : Heap} {L : Addr} {news : List (Addr × Obj)} (N : News h₀ L h news) (l : List Addr) : News (hideAll h₀ l) L h news := fun p hp => ⟨(N p hp).1, (N p hp).2.1, hide_none (N p hp).2.2⟩
theorem Fr.but {h₀ h' : Heap} {L P : Addr} {m : Str → Option Value} (F : Fr (hideAll h₀ [P]) L h' m) : Heap.ExtBut P h₀ h' := fun b o hb e => F.keep b o (hideAll_get _ e (by simpa using hb))
noncomputable def qD : Str := qualnameIn (envOfC (Str.ofString "_digits2int") (scOf 8) 0 56 (.ref 55)) (Str.ofString "inner") (Str.ofString "inner")
noncomputable def qI : Str := qualnameIn (envOfC (Str.ofString "_int2digits") (scOf 7) 0 49 (.ref 48)) (Str.ofString "inner") (Str.ofString "inner")
theorem codeRec_cell {h h' : Heap} {c : Addr} {o : Obj} {v₀ : Option Value} {cd : Value} {q : Str} (X : h.CodeRec cd q) (ho : h.get? c = some o) (hd : o.data = .cell v₀) (hs : Heap.SameBut c h h') : h'.CodeRec cd q := by
  obtain ⟨c₁, o₁, vs, t, e1, e2, e3, e4⟩ := X
  refine ⟨c₁, o₁, vs, t, e1, (hs.2 _ (fun z => ?_)).trans e2, e3, e4⟩
  rw [z, ho] at e2; cases e2; rw [hd] at e3; cases e3
theorem TabAt.cell {h h' : Heap} {c P : Addr} {o : Obj} {v₀ : Option Value} {q : Str} {pos : Pos} (X : TabAt q pos P h) (ho : h.get? c = some o) (hd : o.data = .cell v₀) (hs : Heap.SameBut c h h') : TabAt q pos P h' := by
  have key : ∀ {ps : Array Value}, h.get? P = some (tabObj ps) → h'.get? P = some (tabObj ps) := fun e => (hs.2 _ (fun z => by rw [z, ho] at e; cases e; cases hd)).trans e
  rcases X with h1 | ⟨c', h1, h2, h3, h4⟩
  · exact .inl (key h1)
  · exact .inr ⟨c', key h1, h2, h3, codeRec_cell h4 ho hd hs⟩
/-- a store into a cell: all else stands -/
theorem st_cell {M : Model} {A : Around} {E : Value → Shared → Prop} {s : Shared} {name : Str} {scope : Scope} {L a : Addr} {cd : Value} {h₀ : Heap} {m : Str → Option Value} {x : Str} {c : Addr} {o : Obj} {v₀ : Option Value} {v : Value} {own rest : List (Addr × Obj)} {Q : Unit → Shared → Prop}
    (F : Fr h₀ L s.heap m) (N : News h₀ L s.heap (own ++ (c, o) :: rest)) (hc : (cellsFrom (L + 1) scope.names []).lookup x = some c) (hd : o.data = .cell v₀) (h1 : ∀ p ∈ own, p.1 ≠ c) (h2 : ∀ p ∈ rest, p.1 ≠ c)
    (h : ∀ h' o', Fr h₀ L h' m → News h₀ L h' (own ++ (c, o') :: rest) → o'.data = .cell (some v) → Heap.SameBut c s.heap h' → Q () { s with heap := h' })
    (hk : scope.kind = .function := by rfl) (hl : (envOfC name scope L a cd).kindOf x = some .cell := by rfl) :
    wpAny M A (storeName (envOfC name scope L a cd) x v) Q E s := by
  have z := N (c, o) (List.mem_append_right _ (.head _))
  refine wpAny_storeName_cell hk hl hc ⟨o, z.1, hd⟩ fun h' ⟨o', ho', hd'⟩ hs => h h' o' (F.change hs z.2.1 z.2.2) (N.setAt h1 h2 hs ho') hd' hs
local macro_rules | `(tactic| walk_at "eval Name") => `(tactic| (refine ldCN (by assumption) (by rfl) (by first | exact .head _ | exact .tail _ (.head _) | exact .tail _ (.tail _ (.head _)) | exact .tail _ (.tail _ (.tail _ (.head _)))) (by assumption) ?_))
set_option maxHeartbeats 1000000 in
theorem C_d2i {w : World} {mg mb : Str → Option Value} {A : Around} {s : Shared} {Q E : Value → Shared → Prop} {D : Addr} {vs : List Value} {ds : List Int} {n : Nat} {t2 : Tok} (X : Std w mg mb s.heap) (bm : BM mg s.heap) (T : TabAt qD (fnPos dSt) 51 s.heap) (hd : A.depth + 120 < recursionLimit) (hh : A.handled = none)
    (hl : s.heap.IsList D vs.toArray) (hi : IntsAre vs ds) (hds : ds.length ≤ 100) (hdn : ds.length * n ≤ 100) (hdig : ∀ d ∈ ds, 0 ≤ d ∧ d < 2 ^ n)
    (h : ∀ h' tk t, Heap.ExtBut 51 s.heap h' → TabAt qD (fnPos dSt) 51 h' → Q (.int (valOf n ds) t) { s with heap := h', toks := tk }) :
    wpAny (model P0 w) A (call (.ref 56) [.ref D, .int n t2]) Q E s := by
  refine callC_fn 8 (binds := [(Str.ofString "digits", .ref D), (Str.ofString "n", .int n t2)]) X (Nat.lt_of_le_of_lt (Nat.le_add_right _ _) hd) rfl rfl rfl rfl rfl rfl (fun x hx => Or.inr ?_) (by decide +kernel) (fun h₁ tk₁ cells F N C => ?_)
  · rcases List.mem_cons.mp hx with rfl | hx
    · exact ⟨rfl, rfl⟩
    · rw [List.mem_singleton.mp hx]; exact ⟨rfl, rfl⟩
  obtain ⟨o1, o2, o3, rfl, c1, c2, c3⟩ := CellsAre.three C
  have d3 : o3.data = .cell (some (.ref D)) := c3
  have d2 : o2.data = .cell (some (.int n t2)) := c2
  have d1 : o1.data = .cell none := c1
  clear C c1 c2 c3
  have hbig : 178 ≤ s.heap.objs.size := Heap.lt_size (X.K 177 _ rfl)
  have T₁ := T.keeps F.keep
  have X₁ := X.fr F
  have bm₁ := bm.keeps F.keep
  replace F : Fr (hideAll s.heap [51]) s.heap.objs.size h₁ (B []) := Fr.hide F [51]
  replace N := News.hide N [51]
  have Xh := X.hide [51] (by simp)
  have hP₀ : (hideAll s.heap [51]).get? 51 = none := hideAll_none _ (.head _)
  conv in (execs _ _) => arg 1; whnf
  refine wpAny_execs_cons ?_
  refine nestDef_K rfl rfl rfl ?_
  refine nest_T (P := 51) (c := 55) F N hP₀ (Nat.ne_of_lt (Nat.lt_of_lt_of_le (by decide : 51 < 178) hbig)) (fun p hp => ?_) T₁ X₁.g bm₁ (by decide) (Nat.le_trans (by decide) hbig) (code56 X₁) rfl rfl (clos := [(Str.ofString "n", s.heap.objs.size + 2), (Str.ofString "inner", s.heap.objs.size + 3), (Str.ofString "digits", s.heap.objs.size + 1)]) rfl ?_
  · have : s.heap.objs.size < p.1 := by
      rcases List.mem_cons.mp hp with rfl | hp
      · show s.heap.objs.size < s.heap.objs.size + 1 + 1 + 1; omega
      · rcases List.mem_cons.mp hp with rfl | hp
        · show s.heap.objs.size < s.heap.objs.size + 1 + 1; omega
        · rw [List.mem_singleton.mp hp]; exact Nat.lt_succ_self _
    exact Nat.ne_of_gt (Nat.lt_of_lt_of_le (by decide : 51 < 178) (Nat.le_trans hbig (Nat.le_of_lt this)))
  intro f c' ctv doc h₂ tk₂ F₂ N₂ hrec T₂ hne
  obtain ⟨fo, hfo⟩ : ∃ fo : Obj, fo = fnMade (Str.ofString "inner") qD (fnParams dSt) (fnBody dSt) (fnScope dSt) [(Str.ofString "n", s.heap.objs.size + 2), (Str.ofString "inner", s.heap.objs.size + 3), (Str.ofString "digits", s.heap.objs.size + 1)] doc ((mg (Str.ofString "__name__")).getD Value.none) c' ctv := ⟨_, rfl⟩
  replace N₂ : News (hideAll s.heap [51]) s.heap.objs.size h₂ [(f, fo), (s.heap.objs.size + 1 + 1 + 1, o1), (s.heap.objs.size + 1 + 1, o2), (s.heap.objs.size + 1, o3)] := by rw [hfo]; exact N₂
  replace hrec : h₂.CodeRec (.ref c') qD := hrec
  replace T₂ : TabAt qD (fnPos dSt) 51 h₂ := T₂
  clear F N T₁ bm₁ X₁
  have hne1 : s.heap.objs.size + 1 + 1 + 1 ≠ f := hne _ (.head _)
  refine st_cell (own := [(f, fo)]) (rest := [(s.heap.objs.size + 1 + 1, o2), (s.heap.objs.size + 1, o3)]) F₂ N₂ rfl d1 (fun p hp => by rw [List.mem_singleton.mp hp]; exact Ne.symm hne1) (fun p hp => ?_) (fun h₃ o1' F₃ N₃ d1' hs => ?_)
  · rcases List.mem_cons.mp hp with rfl | hp
    · exact Nat.ne_of_lt (Nat.lt_succ_self _)
    · rw [List.mem_singleton.mp hp]; exact Nat.ne_of_lt (Nat.lt_succ_of_lt (Nat.lt_succ_self _))
  dsimp only [List.cons_append, List.nil_append] at N₃
  dsimp only
  have ho1 := (N₂ _ (.tail _ (.head _))).1
  have T₃ := T₂.cell ho1 d1 hs
  have hrec₃ := codeRec_cell hrec ho1 d1 hs
  have hl₀ : (hideAll s.heap [51]).IsList D vs.toArray := by
    obtain ⟨o, e, hc, r⟩ := hl
    refine ⟨o, hideAll_get _ e (fun hm => ?_), hc, r⟩
    rw [List.mem_singleton.mp hm] at e
    obtain ⟨ps, e'⟩ := T.tab
    rw [e'] at e; cases e; cases hc
  have hlen := hi.length
  clear T₂ hrec hs N₂ F₂
  have g1 := (N₃ _ (.tail _ (.head _))).1
  have g2 := (N₃ _ (.tail _ (.tail _ (.head _)))).1
  have g3 := (N₃ _ (.tail _ (.tail _ (.tail _ (.head _))))).1
  have hf : h₃.get? f = some fo := (N₃ _ (.head _)).1
  have hfa : FnAt f h₃ := by rw [hfo] at hf; exact ⟨_, _, _, _, hf⟩
  repeat' (walk_at "wd")
  have hlf := Fr.lst F₃ hl₀
  refine wpAny_truthy_list hlf (by rw [List.size_toArray]; omega) ?_
  have he : (!vs.toArray.isEmpty) = decide (0 < ds.length) := by
    rw [← hlen]; cases vs <;> simp
  rw [he]
  by_cases hz : 0 < ds.length
  · rw [decide_eq_true hz]
    dsimp only
    rw [if_pos rfl]
    repeat' (walk_at "wd")
    refine callWith_F hfa ?_
    repeat' (walk_at "wd")
    refine len_list (s := ⟨_, _, _, _, _⟩) hlf (by rw [List.size_toArray]; omega) ?_
    rw [show vs.toArray.size = ds.length by rw [List.size_toArray, hlen]]
    repeat' (walk_at "wd")
    · exact hfa
    have X₃ := (X.hide [51] (by simp)).fr F₃
    have DI : D2I h₃ f D n := ⟨qD, _, _, ctv, c', _, _, _, o2, o1', o3, t2, by rw [hf, hfo], hrec₃, g2, d2, g1, d1', g3, d3⟩
    refine C_dinner hds hdn hi hdig ds.length X₃ DI hlf (by show A.depth + 1 + _ + 1 < _; omega) hh (by omega) (Int.le_refl 0) (by omega) (Int.le_refl _) (fun h₄ tk₄ t₄ e₄ => ?_)
    have F₄ := Fr.ext F₃ e₄
    rw [show (0 : Int).toNat = 0 from rfl, List.drop_zero, List.take_length]
    exact h _ _ _ (Fr.but F₄) (T₃.keeps e₄)
  · rw [decide_eq_false hz]
    dsimp only
    rw [if_neg (by decide)]
    repeat' (walk_at "wd")
    have : ds = [] := List.eq_nil_of_length_eq_zero (by omega)
    subst this
    exact h _ _ _ (Fr.but F₃) T₃
end
section
/-- the digits of a number, the least first -/
def digs (n : Nat) : Nat → Int → List Int
  | 0, _ => []
  | k + 1, x => x % 2 ^ n :: digs n k (x / 2 ^ n)
theorem pow2_pos (k : Nat) : (0 : Int) < 2 ^ k := Int.pow_pos (by decide)
theorem digs_len (n : Nat) : ∀ (k : Nat) (x : Int), (digs n k x).length = k
  | 0, _ => rfl
  | k + 1, x => by rw [digs, List.length_cons, digs_len n k]
theorem digs_mem (n : Nat) : ∀ (k : Nat) (x : Int), ∀ d ∈ digs n k x, 0 ≤ d ∧ d < 2 ^ n
  | 0, _, d, h => by simp [digs] at h
  | k + 1, x, d, h => by
    rcases List.mem_cons.mp h with rfl | h
    · exact ⟨Int.emod_nonneg _ (Int.ne_of_gt (pow2_pos n)), Int.emod_lt_of_pos _ (pow2_pos n)⟩
    · exact digs_mem n k _ d h
theorem digs_split (n : Nat) (k2 : Nat) : ∀ (k1 : Nat) (x : Int), digs n (k1 + k2) x = digs n k1 (x % 2 ^ (k1 * n)) ++ digs n k2 (x / 2 ^ (k1 * n))
  | 0, x => by simp [digs]
  | k1 + 1, x => by
    have e : (2 : Int) ^ ((k1 + 1) * n) = 2 ^ n * 2 ^ (k1 * n) := by rw [Nat.add_mul, Nat.one_mul, Nat.add_comm, Int.pow_add]
    have e1 : x % 2 ^ ((k1 + 1) * n) % 2 ^ n = x % 2 ^ n := by rw [e]; exact Int.emod_emod_of_dvd _ ⟨_, rfl⟩
    have e2 : x % 2 ^ ((k1 + 1) * n) / 2 ^ n = (x / 2 ^ n) % 2 ^ (k1 * n) := by
      have hp := pow2_pos n
      have hq := pow2_pos (k1 * n)
      rw [e]
      have h1 := Int.mul_ediv_add_emod x (2 ^ n)
      have h2 := Int.mul_ediv_add_emod (x / 2 ^ n) (2 ^ (k1 * n))
      have h3 := Int.emod_nonneg x (Int.ne_of_gt hp)
      have h4 := Int.emod_lt_of_pos x hp
      have h5 := Int.emod_nonneg (x / 2 ^ n) (Int.ne_of_gt hq)
      have h6 := Int.emod_lt_of_pos (x / 2 ^ n) hq
      have h7 : x = 2 ^ n * 2 ^ (k1 * n) * (x / 2 ^ n / 2 ^ (k1 * n)) + (2 ^ n * (x / 2 ^ n % 2 ^ (k1 * n)) + x % 2 ^ n) := by
        conv => lhs; rw [← h1, ← h2]
        rw [Int.mul_add, Int.mul_assoc]; omega
      have h8 : x % (2 ^ n * 2 ^ (k1 * n)) = 2 ^ n * (x / 2 ^ n % 2 ^ (k1 * n)) + x % 2 ^ n := by
        have hpq : (0 : Int) < 2 ^ n * 2 ^ (k1 * n) := Int.mul_pos hp hq
        have hlo : 0 ≤ 2 ^ n * (x / 2 ^ n % 2 ^ (k1 * n)) := Int.mul_nonneg (Int.le_of_lt hp) h5
        have hhi : 2 ^ n * (x / 2 ^ n % 2 ^ (k1 * n) + 1) ≤ 2 ^ n * 2 ^ (k1 * n) := Int.mul_le_mul_of_nonneg_left h6 (Int.le_of_lt hp)
        rw [Int.mul_add, Int.mul_one] at hhi
        exact ((Int.ediv_emod_unique hpq).mpr ⟨by rw [Int.add_comm]; exact h7.symm, by omega, by omega⟩).2
      rw [h8, Int.add_comm, Int.add_mul_ediv_left _ _ (Int.ne_of_gt hp), Int.ediv_eq_zero_of_lt h3 h4, Int.zero_add]
    have e3 : x / 2 ^ ((k1 + 1) * n) = x / 2 ^ n / 2 ^ (k1 * n) := by rw [e, Int.ediv_ediv_of_nonneg (Int.le_of_lt (pow2_pos n))]
    rw [show k1 + 1 + k2 = (k1 + k2) + 1 by omega, digs, digs_split n k2 k1, digs, e1, e2, e3]
    rfl
theorem digs_val (n : Nat) : ∀ (k : Nat) (x : Int), 0 ≤ x → x < 2 ^ (k * n) → valOf n (digs n k x) = x
  | 0, x, h0, h1 => by
    rw [Nat.zero_mul] at h1
    simp only [digs, valOf]
    simp at h1; omega
  | k + 1, x, h0, h1 => by
    have e : (2 : Int) ^ ((k + 1) * n) = 2 ^ n * 2 ^ (k * n) := by rw [Nat.add_mul, Nat.one_mul, Nat.add_comm, Int.pow_add]
    have hp := pow2_pos n
    rw [e] at h1
    simp only [digs, valOf]
    rw [digs_val n k (x / 2 ^ n) (Int.ediv_nonneg h0 (Int.le_of_lt hp)) (Int.ediv_lt_of_lt_mul hp (by rw [Int.mul_comm]; exact h1))]
    have := Int.mul_ediv_add_emod x (2 ^ n)
    omega
theorem nat_low (n k : Nat) : n &&& (n / 2 ^ k * 2 ^ k) = n / 2 ^ k * 2 ^ k := by
  rw [← Nat.shiftRight_eq_div_pow, ← Nat.shiftLeft_eq]
  apply Nat.eq_of_testBit_eq
  intro j
  rw [Nat.testBit_and, Nat.testBit_shiftLeft, Nat.testBit_shiftRight]
  by_cases h : k ≤ j
  · rw [show k + (j - k) = j by omega]; simp [h]
  · simp [h]
theorem xor_low {x : Int} (k : Nat) (h0 : 0 ≤ x) : Builtin.bitXor x (x / 2 ^ k * 2 ^ k) = x % 2 ^ k := by
  obtain ⟨n, rfl⟩ : ∃ n : Nat, x = n := ⟨x.toNat, by omega⟩
  have e : ((n : Int) / 2 ^ k * 2 ^ k) = ((n / 2 ^ k * 2 ^ k : Nat) : Int) := by
    rw [Int.natCast_mul, Int.natCast_ediv, kbt_cast]
  rw [bitXor_and, e, bitAnd_pp (by omega) (by omega), Int.toNat_natCast, Int.toNat_natCast, nat_low, ← e]
  have := Int.mul_ediv_add_emod (n : Int) (2 ^ k)
  have h2 : (2 : Int) ^ k * ((n : Int) / 2 ^ k) = (n : Int) / 2 ^ k * 2 ^ k := Int.mul_comm _ _
  omega
/-- `inner` of `_int2digits` at f, over the list D and n -/
def I2D (h : Heap) (f D : Addr) (n : Int) : Prop := ∃ (q : Str) (doc pm ctv : Value) (c' cn ci cd : Addr) (on oi od : Obj) (tn : Tok),
  h.get? f = some (fnMade (Str.ofString "inner") q (fnParams iSt) (fnBody iSt) (fnScope iSt) [(Str.ofString "n", cn), (Str.ofString "inner", ci), (Str.ofString "a_digits", cd)] doc pm c' ctv) ∧ h.CodeRec (.ref c') q ∧
  h.get? cn = some on ∧ on.data = .cell (some (.int n tn)) ∧ h.get? ci = some oi ∧ oi.data = .cell (some (.ref f)) ∧ h.get? cd = some od ∧ od.data = .cell (some (.ref D))
/-- all but one list keeps -/
theorem but_list {h h' : Heap} {D : Addr} {xs : Array Value} {e : Nat} (hD : h.get? D = some (seqObj "list" xs e)) (X : Heap.ExtBut D h h') {b : Addr} {o : Obj} (hb : h.get? b = some o) (hn : o.data ≠ .seq xs e) : h'.get? b = some o := X _ _ (fun q => by rw [q, hD] at hb; cases hb; exact hn rfl) hb
theorem I2D.but {h h' : Heap} {f D : Addr} {n : Int} {xs : Array Value} {e : Nat} (X : I2D h f D n) (hD : h.get? D = some (seqObj "list" xs e)) (x : Heap.ExtBut D h h') : I2D h' f D n := by
  obtain ⟨q, doc, pm, ctv, c', cn, ci, cd, on, oi, od, tn, h1, ⟨c₁, o₁, vs, t, r1, r2, r3, r4⟩, h3, h4, h5, h6, h7, h8⟩ := X
  have k := @but_list h h' D xs e hD x
  exact ⟨q, doc, pm, ctv, c', cn, ci, cd, on, oi, od, tn, k h1 (by simp), ⟨c₁, o₁, vs, t, r1, k r2 (by rw [r3]; simp), r3, r4⟩, k h3 (by rw [h4]; simp), h4, k h5 (by rw [h6]; simp), h6, k h7 (by rw [h8]; simp), h8⟩
theorem Std.hideBig {w : World} {mg mb : Str → Option Value} {h : Heap} {D : Addr} (X : Std w mg mb h) (hD : 178 ≤ D) : Std w mg mb (hideAll h [D]) := by
  have low : ((KP w.params).all fun p => decide (p.1 < 178)) = true := by kernel_rfl
  have off : ∀ a : Addr, a < 178 → a ∉ [D] := fun a h1 hm => by rw [List.mem_singleton.mp hm] at h1; exact absurd (Nat.lt_of_lt_of_le h1 hD) (Nat.lt_irrefl _)
  refine ⟨fun a o e => ?_, Ns.hide X.g (off _ (by decide)), Ns.hide X.b (off _ (by decide)), ?_, X.builtins⟩
  · have h2 := List.all_eq_true.mp low (a, o) (mem_of_lookupK e)
    exact hideAll_get _ (X.K a o e) (off a (by simpa using h2))
  · obtain ⟨mc, h1, h2⟩ := X.nolimit
    exact ⟨mc, Ns.hide h1 (off _ (by decide)), h2⟩
theorem Fr.butD {h₀ h h' : Heap} {L D : Addr} {m : Str → Option Value} (F : Fr (hideAll h₀ [D]) L h m) (x : Heap.ExtBut D h h') (hL : L ≠ D) : Fr (hideAll h₀ [D]) L h' m :=
  ⟨F.ns.extBut x hL, fun b o e => x _ _ (fun q => by rw [q, hideAll_none _ (.head _)] at e; cases e) (F.keep b o e), F.above⟩
theorem mid_split {ds : List Int} {n L k1 k : Nat} {low up : Int} (hk : k1 ≤ k) (hR : L + k ≤ ds.length) :
    (ds.take L ++ digs n k1 low ++ ds.drop (L + k1)).take (L + k1) ++ digs n (k - k1) up ++ (ds.take L ++ digs n k1 low ++ ds.drop (L + k1)).drop (L + k) = ds.take L ++ (digs n k1 low ++ digs n (k - k1) up) ++ ds.drop (L + k) := by
  have hl : (ds.take L ++ digs n k1 low).length = L + k1 := by rw [List.length_append, List.length_take, digs_len]; omega
  rw [List.take_left' hl, List.drop_append, List.drop_eq_nil_of_le (by rw [hl]; omega), hl, List.nil_append, List.drop_drop, show L + k1 + (L + k - (L + k1)) = L + k by omega]
  simp only [List.append_assoc]
local macro_rules | `(tactic| walk_at "eval Name") => `(tactic| (refine nameF (by assumption) (by rfl) (by assumption) (by assumption) ?_))
local macro_rules | `(tactic| walk_at "eval Name") => `(tactic| (refine nameX_L (by assumption) (by rfl) ?_))
local macro_rules | `(tactic| walk_at "storeName") => `(tactic| (refine storeX_L (by assumption) (by assumption) ?_; intro _ _ _))
set_option maxHeartbeats 1000000 in
theorem C_iinner {w : World} {mg mb : Str → Option Value} {D f : Addr} {n N0 : Nat} (hD : 178 ≤ D) (hN : N0 ≤ 100) (hNn : N0 * n ≤ 100) (k : Nat) :
    ∀ {A : Around} {s : Shared} {Q E : Value → Shared → Prop} {L R x : Int} {tx tl tr : Tok} {vs : List Value} {ds : List Int} {e : Nat}, Std w mg mb s.heap → I2D s.heap f D n → s.heap.get? D = some (seqObj "list" vs.toArray e) → IntsAre vs ds → ds.length = N0 → A.depth + k + 1 < recursionLimit → A.handled = none → 1 ≤ k → 0 ≤ L → R = L + k → R ≤ N0 → 0 ≤ x → x < 2 ^ (k * n) →
      (∀ h' tk vs' e', Heap.ExtBut D s.heap h' → h'.get? D = some (seqObj "list" vs'.toArray e') → IntsAre vs' (ds.take L.toNat ++ digs n k x ++ ds.drop R.toNat) → Q .none { s with heap := h', toks := tk }) →
      wpAny (model P0 w) A (call (.ref f) [.int x tx, .int L tl, .int R tr]) Q E s := by
  induction k using Nat.strongRecOn with
  | _ k ih =>
  intro A s Q E L R x tx tl tr vs ds e X DI hlD hi hds hd hh hk h0 hR hRl hx0 hx1 h
  obtain ⟨q, doc, pm, ctv, c', cn, ci, cd, on, oi, od, tn, h1, h2, h3, h4, h5, h6, h7, h8⟩ := id DI
  refine call_X (binds := [(Str.ofString "x", .int x tx), (Str.ofString "L", .int L tl), (Str.ofString "R", .int R tr)]) (by omega) h1 h2 X.nolimit rfl (locs (by rfl)) (by decide +kernel) (fun h₁ F => ?_)
  have hDs : D < s.heap.objs.size := Heap.lt_size hlD
  have N : News (hideAll s.heap [D]) s.heap.objs.size h₁ [(D, seqObj "list" vs.toArray e)] := fun p hp => by
    rw [List.mem_singleton.mp hp]
    exact ⟨F.keep _ _ hlD, Nat.ne_of_lt hDs, hideAll_none _ (.head _)⟩
  replace F := Fr.hide F [D]
  have kl : ∀ {b : Addr} {o : Obj}, s.heap.get? b = some o → o.data ≠ .seq vs.toArray e → (hideAll s.heap [D]).get? b = some o := fun {b o} eb hn => hideAll_get _ eb (fun hm => by rw [List.mem_singleton.mp hm, hlD] at eb; cases eb; exact hn rfl)
  replace h1 := kl h1 (by simp)
  replace h3 := kl h3 (by rw [h4]; simp)
  replace h5 := kl h5 (by rw [h6]; simp)
  replace h7 := kl h7 (by rw [h8]; simp)
  have hlen := hi.length
  conv in (execs _ _) => arg 1; whnf
  refine wpAny_execs_cons ?_
  repeat' ((fail_if_success (with_reducible show wpAny _ _ (execs (_ :: _) _) _ _ _)); walk_at "wd")
  · repeat' (walk_at "wd")
    have e1 : k = 1 := by omega
    subst e1
    refine ksa_set (vs := vs) (ns := ds) (n := e) F N (Upd.head (by simp)) hi h0 (by omega) (by omega) (fun h' F' N' hi' _ _ => ?_)
    dsimp only
    repeat' (walk_at "wd")
    refine h _ _ _ _ (Fr.but F') (N' _ (.head _)).1 ?_
    have e2 : x % 2 ^ n = x := Int.emod_eq_of_lt hx0 (by rw [Nat.one_mul] at hx1; exact hx1)
    have e3 : ds.set L.toNat x = ds.take L.toNat ++ x :: ds.drop (L.toNat + 1) := by rw [List.set_eq_take_append_cons_drop, if_pos (by omega)]
    rw [e3] at hi'
    rw [digs, digs, e2, show R.toNat = L.toNat + 1 by omega, List.append_assoc]
    exact hi'
  · dsimp only
    have hmid : (L + R).fdiv (2 ^ Int.toNat 1) = L + ((k / 2 : Nat) : Int) := by
      rw [show (2 : Int) ^ Int.toNat 1 = 2 from rfl, Int.fdiv_eq_ediv_of_nonneg _ (by decide)]; omega
    have hk2 : 1 ≤ k / 2 ∧ k / 2 < k := by omega
    refine wpAny_execs_cons ?_
    repeat' ((fail_if_success (with_reducible show wpAny _ _ (execs (_ :: _) _) _ _ _)); walk_at "wd")
    rw [hmid] at *
    generalize hmm : k / 2 = k1 at *
    have hsh : 0 ≤ (k1 : Int) * n ∧ (k1 : Int) * n ≤ 100 := by
      refine ⟨by exact Int.mul_nonneg (by omega) (by omega), ?_⟩
      have : k1 * n ≤ N0 * n := Nat.mul_le_mul_right _ (by omega)
      rw [← Int.natCast_mul]; omega
    refine wpAny_execs_cons ?_
    repeat' ((fail_if_success (with_reducible show wpAny _ _ (execs (_ :: _) _) _ _ _)); walk_at "wd")
    rename_i FA NA
    rw [show (L + (k1 : Int) - L) * n = k1 * n by rw [show L + (k1 : Int) - L = k1 by omega]] at FA
    dsimp only
    repeat' (walk_at "wd")
    rename_i FB NB
    have hto : ((k1 : Int) * n).toNat = k1 * n := by rw [← Int.natCast_mul]; rfl
    have hup : x.fdiv (2 ^ ((k1 : Int) * n).toNat) = x / 2 ^ (k1 * n) := by rw [hto, Int.fdiv_eq_ediv_of_nonneg _ (Int.le_of_lt (pow2_pos _))]
    rw [hup] at FB ⊢
    have hu0 : 0 ≤ x / 2 ^ (k1 * n) := Int.ediv_nonneg hx0 (Int.le_of_lt (pow2_pos _))
    have hu1 : x / 2 ^ (k1 * n) < 2 ^ ((k - k1) * n) := by
      refine Int.ediv_lt_of_lt_mul (pow2_pos _) ?_
      rw [← Int.pow_add, ← Nat.add_mul, show k - k1 + k1 = k by omega]
      exact hx1
    have hbit := bits_le hu0 hu1
    have hkn : (k - k1) * n ≤ 100 := Nat.le_trans (Nat.mul_le_mul_right _ (by omega)) hNn
    refine lshift_int hsh.1 (by rw [show (2 : Int) ^ 27 = 134217728 by decide]; omega) ?_
    rw [hto]
    have hlow := xor_low (k1 * n) hx0
    have hl0 : 0 ≤ x % 2 ^ (k1 * n) := Int.emod_nonneg _ (Int.ne_of_gt (pow2_pos _))
    have hl1 : x % 2 ^ (k1 * n) < 2 ^ (k1 * n) := Int.emod_lt_of_pos _ (pow2_pos _)
    dsimp only
    repeat' ((fail_if_success (with_reducible show wpAny _ _ (execs (_ :: _) _) _ _ _)); walk_at "wd")
    rename_i FC NC
    rw [hlow] at FC
    have hLD : s.heap.objs.size ≠ D := Ne.symm (Nat.ne_of_lt hDs)
    clear FA NA FB NB hlow hup
    refine wpAny_execs_cons ?_
    repeat' (walk_at "wd")
    refine callWith_F ⟨_, _, _, _, Fr.keep (by assumption) _ _ h1⟩ ?_
    repeat' (walk_at "wd")
    · exact ⟨_, _, _, _, Fr.keep (by assumption) _ _ h1⟩
    refine ih k1 (by omega) ((X.hideBig hD).fr FC) (DI.but hlD (Fr.but FC)) (NC _ (.head _)).1 hi hds (by show A.depth + 1 + _ + 1 < _; omega) hh (by omega) h0 rfl (by omega) hl0 hl1 (fun h3 tk3 vs3 e3 x3 hD3 hi3 => ?_)
    have F3 := Fr.butD FC x3 hLD
    dsimp only
    repeat' (walk_at "wd")
    refine callWith_F ⟨_, _, _, _, Fr.keep (by assumption) _ _ h1⟩ ?_
    repeat' (walk_at "wd")
    · exact ⟨_, _, _, _, Fr.keep (by assumption) _ _ h1⟩
    refine ih (k - k1) (by omega) ((X.hideBig hD).fr F3) (DI.but hlD (Fr.but F3)) hD3 hi3 (by simp only [List.length_append, List.length_take, List.length_drop, digs_len]; omega) (by show A.depth + 1 + _ + 1 < _; omega) hh (by omega) (by omega) (by omega) (by omega) hu0 hu1 (fun h4 tk4 vs4 e4 x4 hD4 hi4 => ?_)
    have F4 := Fr.butD F3 x4 hLD
    dsimp only
    repeat' (walk_at "wd")
    refine h _ _ _ _ (Fr.but F4) hD4 ?_
    rw [show (L + (k1 : Int)).toNat = L.toNat + k1 by omega, show R.toNat = L.toNat + k by omega, mid_split (by omega) (by omega), ← digs_split, show k1 + (k - k1) = k by omega, show L.toNat + k = R.toNat by omega] at hi4
    exact hi4
end
section
theorem Fr.butN {h₀ h h' : Heap} {L D : Addr} {m : Str → Option Value} (F : Fr h₀ L h m) (x : Heap.ExtBut D h h') (hL : L ≠ D) (h0 : h₀.get? D = none) : Fr h₀ L h' m :=
  ⟨F.ns.extBut x hL, fun b o e => x _ _ (fun q => by rw [q, h0] at e; cases e) (F.keep b o e), F.above⟩
theorem bindL_lc {k : Str → Option NameKind} {x y : Str} {u v : Value} (hx : k x = some .local) (hy : k y = some .cell) : bindL k [(x, u), (y, v)] (fun _ => none) = B [(x, u)] := by
  simp only [bindL, hx, hy, if_true]
  rw [if_neg (by decide)]
  exact B_put (l := []) rfl
theorem foldl_one (v : Value) : ∀ (k : Nat) (acc : Array Value), List.foldl (fun x1 x2 => x1 ++ x2) acc (List.replicate k #[v]) = acc ++ (List.replicate k v).toArray
  | 0, acc => by simp
  | k + 1, acc => by
    rw [List.replicate_succ, List.foldl_cons, foldl_one v k, List.replicate_succ]
    apply Array.toList_inj.mp
    simp
theorem ints_rep (t : Tok) : ∀ k : Nat, IntsAre (List.replicate k (.int 0 t)) (List.replicate k 0)
  | 0 => .nil
  | k + 1 => .cons 0 t (ints_rep t k)
theorem ceil_facts {b n : Nat} (hn : 1 ≤ n) (hb : b ≤ 62) (hn2 : n ≤ 35) : b ≤ (b + n - 1) / n * n ∧ (b + n - 1) / n * n ≤ 100 ∧ (b + n - 1) / n ≤ 100 ∧ (1 ≤ b → 1 ≤ (b + n - 1) / n) ∧ (b = 0 → (b + n - 1) / n = 0) := by
  have h1 := Nat.div_add_mod (b + n - 1) n
  have h2 := Nat.mod_lt (b + n - 1) (show 0 < n by omega)
  rw [Nat.mul_comm] at h1
  refine ⟨by omega, by omega, ?_, ?_, ?_⟩
  · have : (b + n - 1) / n * 1 ≤ (b + n - 1) / n * n := Nat.mul_le_mul_left _ hn
    omega
  · intro h
    rcases Nat.eq_zero_or_pos ((b + n - 1) / n) with e | e
    · rw [e] at h1; omega
    · exact e
  · intro h
    exact Nat.div_eq_of_lt (by omega)
theorem TabAt.split {q : Str} {pos : Pos} {P : Addr} {h : Heap} (X : TabAt q pos P h) (hP : P = 44 ∨ P = 51) : ∃ ps, h.get? P = some (tabObj ps) ∧ ∀ h' : Heap, (∀ b o, (hideAll h [P]).get? b = some o → h'.get? b = some o) → h'.get? P = some (tabObj ps) → TabAt q pos P h' := by
  rcases X with h1 | ⟨c', h1, h2, h3, h4⟩
  · exact ⟨_, h1, fun h' _ e => .inl e⟩
  · refine ⟨_, h1, fun h' hk e => .inr ⟨c', e, h2, h3, ?_⟩⟩
    obtain ⟨c₁, o₁, vs, t, e1, e2, e3, e4⟩ := h4
    have ec : c' = c₁ := by injection e1
    refine ⟨c₁, o₁, vs, t, e1, hk _ _ (hideAll_get _ e2 (fun hm => ?_)), e3, e4⟩
    rw [List.mem_singleton.mp hm] at ec
    rcases hP with rfl | rfl
    · exact h2 ec
    · exact h3 ec
theorem TabAt.butD {q : Str} {pos : Pos} {P D : Addr} {h h' : Heap} {xs : Array Value} {e : Nat} (X : TabAt q pos P h) (hD : h.get? D = some (seqObj "list" xs e)) (x : Heap.ExtBut D h h') : TabAt q pos P h' := by
  have k := @but_list h h' D xs e hD x
  rcases X with h1 | ⟨c', h1, h2, h3, ⟨c₁, o₁, vs, t, e1, e2, e3, e4⟩⟩
  · exact .inl (k h1 (by simp))
  · exact .inr ⟨c', k h1 (by simp), h2, h3, ⟨c₁, o₁, vs, t, e1, k e2 (by rw [e3]; simp), e3, e4⟩⟩
theorem BM.hide {w : World} {mg mb : Str → Option Value} {h : Heap} {P : Addr} {ps : Array Value} (X : BM mg h) (hP : h.get? P = some (tabObj ps)) : BM mg (hideAll h [P]) := by
  obtain ⟨bm, ob, h1, h2, h3, h4, r⟩ := X
  refine ⟨bm, ob, h1, h2, hideAll_get _ h3 (fun hm => ?_), h4, r⟩
  rw [List.mem_singleton.mp hm, hP] at h3; cases h3; cases h4
local macro_rules | `(tactic| walk_at "eval Name") => `(tactic| (refine ldCN (by assumption) (by rfl) (by first | exact .head _ | exact .tail _ (.head _) | exact .tail _ (.tail _ (.head _)) | exact .tail _ (.tail _ (.tail _ (.head _))) | exact .tail _ (.tail _ (.tail _ (.tail _ (.head _))))) (by assumption) ?_))
set_option maxHeartbeats 1000000 in
theorem C_i2d {w : World} {mg mb : Str → Option Value} {A : Around} {s : Shared} {Q E : Value → Shared → Prop} {a : Int} {n : Nat} {t1 t2 : Tok} (X : Std w mg mb s.heap) (bm : BM mg s.heap) (T : TabAt qI (fnPos iSt) 44 s.heap) (hd : A.depth + 120 < recursionLimit) (hh : A.handled = none)
    (ha0 : 0 ≤ a) (ha1 : a < 2 ^ 62) (hn1 : 1 ≤ n) (hn2 : n ≤ 35)
    (h : ∀ D h' tk vs e k, 178 ≤ D → s.heap.get? D = none → Heap.ExtBut 44 s.heap h' → TabAt qI (fnPos iSt) 44 h' → h'.get? D = some (seqObj "list" vs.toArray e) → IntsAre vs (digs n k a) → a < 2 ^ (k * n) → k * n ≤ 100 → k ≤ 100 → Q (.ref D) { s with heap := h', toks := tk }) :
    wpAny (model P0 w) A (call (.ref 49) [.int a t1, .int n t2]) Q E s := by
  refine callC_fn 7 (binds := [(Str.ofString "a", .int a t1), (Str.ofString "n", .int n t2)]) X (Nat.lt_of_le_of_lt (Nat.le_add_right _ _) hd) rfl rfl rfl rfl rfl rfl (fun x hx => ?_) (by decide +kernel) (fun h₁ tk₁ cells F N C => ?_)
  · rcases List.mem_cons.mp hx with rfl | hx
    · exact Or.inl rfl
    · rw [List.mem_singleton.mp hx]; exact Or.inr ⟨rfl, rfl⟩
  obtain ⟨o1, o2, o3, rfl, c1, c2, c3⟩ := CellsAre.three C
  have d3 : o3.data = .cell (some (.int n t2)) := c3
  have d2 : o2.data = .cell none := c2
  have d1 : o1.data = .cell none := c1
  clear C c1 c2 c3
  have hbig : 178 ≤ s.heap.objs.size := Heap.lt_size (X.K 177 _ rfl)
  obtain ⟨ps, hps, Tk⟩ := T.split (.inl rfl)
  have Xh := X.hide [44] (by simp)
  have bmh := bm.hide (w := w) (mb := mb) hps
  have h44 : h₁.get? 44 = some (tabObj ps) := F.keep _ _ hps
  replace F : Fr (hideAll s.heap [44]) s.heap.objs.size h₁ (B [(Str.ofString "a", .int a t1)]) := Fr.hide (by rw [bindL_lc (by rfl) (by rfl)] at F; exact F) [44]
  have hP₀ : (hideAll s.heap [44]).get? 44 = none := hideAll_none _ (.head _)
  have n44 : (44 : Addr) ≠ s.heap.objs.size := Nat.ne_of_lt (Nat.lt_of_lt_of_le (by decide : 44 < 178) hbig)
  have N₁ : News (hideAll s.heap [44]) s.heap.objs.size h₁ [(s.heap.objs.size + 1 + 1 + 1, o1), (s.heap.objs.size + 1 + 1, o2), (s.heap.objs.size + 1, o3), (44, tabObj ps)] := fun p hp => by
    rcases List.mem_append.mp (show p ∈ [(s.heap.objs.size + 1 + 1 + 1, o1), (s.heap.objs.size + 1 + 1, o2), (s.heap.objs.size + 1, o3)] ++ [(44, tabObj ps)] from hp) with hp | hp
    · exact News.hide N [44] p hp
    · rw [List.mem_singleton.mp hp]; exact ⟨h44, n44, hP₀⟩
  clear N
  have hbits := bits_le ha0 ha1
  conv in (execs _ _) => arg 1; whnf
  refine wpAny_execs_cons ?_
  repeat' ((fail_if_success (with_reducible show wpAny _ _ (execs (_ :: _) _) _ _ _)); walk_at "wd")
  obtain ⟨k, hk⟩ : ∃ k : Nat, k = (Builtin.Int.intBits a + n - 1) / n := ⟨_, rfl⟩
  have hK : ((Builtin.Int.intBits a : Int) + n - 1).fdiv n = (k : Int) := by
    rw [Int.fdiv_eq_ediv_of_nonneg _ (by omega), hk, show (Builtin.Int.intBits a : Int) + n - 1 = ((Builtin.Int.intBits a + n - 1 : Nat) : Int) by omega, ← Int.natCast_ediv]
  obtain ⟨f1, f2, f3, f4, f5⟩ := ceil_facts hn1 hbits hn2
  rw [← hk] at f1 f2 f3 f4 f5
  have hak : a < 2 ^ (k * n) := by
    have h1 := (PySem.intBits_le_iff (m := k * n) (x := a)).mp f1
    have e : ((2 ^ (k * n) : Nat) : Int) = (2 : Int) ^ (k * n) := by simp
    omega
  rw [hK]
  rename_i hA FA NA _ _ _ _
  have hFA := NA _ (.head _)
  have hlA : s.heap.objs.size + 1 + 1 + 1 < hA.objs.size := Heap.lt_size (NA _ (.tail _ (.head _))).1
  refine mul_list FA NA hFA.1 (by omega) (by omega) (by simp; omega) (fun h₂ F₂ N₂ => ?_)
  rw [foldl_one] at N₂
  obtain ⟨D, hD⟩ : ∃ D : Addr, D = hA.objs.size := ⟨_, rfl⟩
  obtain ⟨vs, hvs⟩ : ∃ vs, vs = List.replicate k (Value.int 0 tk₁) := ⟨_, rfl⟩
  have hi0 : IntsAre vs (List.replicate k 0) := hvs ▸ ints_rep _ _
  have N₃ : News (hideAll s.heap [44]) s.heap.objs.size h₂ [(D, seqObj "list" vs.toArray 0), (s.heap.objs.size + 1 + 1 + 1, o1), (s.heap.objs.size + 1 + 1, o2), (s.heap.objs.size + 1, o3), (44, tabObj ps)] := fun p hp => by
    rcases List.mem_cons.mp hp with rfl | hp
    · have := N₂ _ (.head _)
      rw [hD, hvs]
      simpa using this
    · exact N₂ p (.tail _ (.tail _ hp))
  show wpAny _ _ (storeName _ _ (.ref hA.objs.size)) _ _ _
  rw [← hD]
  have hDb : s.heap.objs.size + 1 + 1 + 1 < D := hD ▸ hlA
  clear NA FA N₂ hFA
  refine st_cell (own := [(D, seqObj "list" vs.toArray 0), (s.heap.objs.size + 1 + 1 + 1, o1)]) (rest := [(s.heap.objs.size + 1, o3), (44, tabObj ps)]) F₂ N₃ rfl d2 (fun p hp => ?_) (fun p hp => ?_) (fun h₃ o2' F₃ N₃' d2' hs₃ => ?_)
  · rcases List.mem_cons.mp hp with rfl | hp
    · exact Nat.ne_of_gt (Nat.lt_of_succ_lt hDb)
    · rw [List.mem_singleton.mp hp]; exact Nat.ne_of_gt (Nat.lt_succ_self _)
  · rcases List.mem_cons.mp hp with rfl | hp
    · exact Nat.ne_of_lt (Nat.lt_succ_self _)
    · rw [List.mem_singleton.mp hp]; exact Nat.ne_of_lt (Nat.lt_of_lt_of_le (by decide : 44 < 178) (Nat.le_trans hbig (Nat.le_succ_of_le (Nat.le_succ _))))
  clear N₃ F₂ hs₃
  dsimp only [List.cons_append, List.nil_append] at N₃'
  dsimp only
  have T₃ : TabAt qI (fnPos iSt) 44 h₃ := Tk _ F₃.keep (N₃' _ (.tail _ (.tail _ (.tail _ (.tail _ (.head _)))))).1
  have N₃ : News (hideAll s.heap [44]) s.heap.objs.size h₃ [(D, seqObj "list" vs.toArray 0), (s.heap.objs.size + 1 + 1 + 1, o1), (s.heap.objs.size + 1 + 1, o2'), (s.heap.objs.size + 1, o3)] := fun p hp => N₃' p (List.mem_append_left [(44, tabObj ps)] hp)
  have X₃ := Xh.fr F₃
  refine wpAny_execs_cons ?_
  refine nestDef_K rfl rfl rfl ?_
  refine nest_T (P := 44) (c := 48) F₃ N₃ hP₀ n44 (fun p hp => ?_) T₃ X₃.g (bmh.keeps F₃.keep) (by decide) (Nat.le_trans (by decide) hbig) (code49 X₃) rfl rfl (clos := [(Str.ofString "n", s.heap.objs.size + 1), (Str.ofString "inner", s.heap.objs.size + 3), (Str.ofString "a_digits", s.heap.objs.size + 2)]) rfl ?_
  · have : s.heap.objs.size < p.1 := by
      rcases List.mem_cons.mp hp with rfl | hp
      · exact Nat.lt_of_succ_lt (Nat.lt_of_succ_lt (Nat.lt_of_succ_lt hDb))
      · rcases List.mem_cons.mp hp with rfl | hp
        · show s.heap.objs.size < s.heap.objs.size + 1 + 1 + 1; omega
        · rcases List.mem_cons.mp hp with rfl | hp
          · show s.heap.objs.size < s.heap.objs.size + 1 + 1; omega
          · rw [List.mem_singleton.mp hp]; exact Nat.lt_succ_self _
    exact Nat.ne_of_gt (Nat.lt_of_lt_of_le (by decide : 44 < 178) (Nat.le_trans hbig (Nat.le_of_lt this)))
  intro f c' ctv doc h₄ tk₄ F₄ N₄ hrec T₄ hne
  obtain ⟨fo, hfo⟩ : ∃ fo : Obj, fo = fnMade (Str.ofString "inner") qI (fnParams iSt) (fnBody iSt) (fnScope iSt) [(Str.ofString "n", s.heap.objs.size + 1), (Str.ofString "inner", s.heap.objs.size + 3), (Str.ofString "a_digits", s.heap.objs.size + 2)] doc ((mg (Str.ofString "__name__")).getD Value.none) c' ctv := ⟨_, rfl⟩
  replace N₄ : News (hideAll s.heap [44]) s.heap.objs.size h₄ [(f, fo), (D, seqObj "list" vs.toArray 0), (s.heap.objs.size + 1 + 1 + 1, o1), (s.heap.objs.size + 1 + 1, o2'), (s.heap.objs.size + 1, o3)] := by rw [hfo]; exact N₄
  replace hrec : h₄.CodeRec (.ref c') qI := hrec
  replace T₄ : TabAt qI (fnPos iSt) 44 h₄ := T₄
  clear F₃ N₃ N₃' T₃ X₃
  have hne1 : s.heap.objs.size + 1 + 1 + 1 ≠ f := hne _ (.tail _ (.head _))
  refine st_cell (own := [(f, fo), (D, seqObj "list" vs.toArray 0)]) (rest := [(s.heap.objs.size + 1 + 1, o2'), (s.heap.objs.size + 1, o3)]) F₄ N₄ rfl d1 (fun p hp => ?_) (fun p hp => ?_) (fun h₅ o1' F₅ N₅ d1' hs => ?_)
  · rcases List.mem_cons.mp hp with rfl | hp
    · exact Ne.symm hne1
    · rw [List.mem_singleton.mp hp]; exact Nat.ne_of_gt hDb
  · rcases List.mem_cons.mp hp with rfl | hp
    · exact Nat.ne_of_lt (Nat.lt_succ_self _)
    · rw [List.mem_singleton.mp hp]; exact Nat.ne_of_lt (Nat.lt_succ_of_lt (Nat.lt_succ_self _))
  dsimp only [List.cons_append, List.nil_append] at N₅
  dsimp only
  have ho1 := (N₄ _ (.tail _ (.tail _ (.head _)))).1
  have T₅ := T₄.cell ho1 d1 hs
  have hrec₅ := codeRec_cell hrec ho1 d1 hs
  clear T₄ hrec hs N₄ F₄ ho1
  have g0 := N₅ _ (.tail _ (.head _))
  have g1 := (N₅ _ (.tail _ (.tail _ (.head _)))).1
  have g2 := (N₅ _ (.tail _ (.tail _ (.tail _ (.head _))))).1
  have g3 := (N₅ _ (.tail _ (.tail _ (.tail _ (.tail _ (.head _)))))).1
  have gz := N₅ _ (.tail _ (.tail _ (.tail _ (.head _))))
  have hf : h₅.get? f = some fo := (N₅ _ (.head _)).1
  have hfa : FnAt f h₅ := by rw [hfo] at hf; exact ⟨_, _, _, _, hf⟩
  have hD0 : s.heap.get? D = none := Heap.get?_none_of_le (Nat.le_of_lt (Nat.lt_of_succ_lt (Nat.lt_of_succ_lt (Nat.lt_of_succ_lt hDb))))
  have hD178 : 178 ≤ D := Nat.le_trans hbig (Nat.le_of_lt (Nat.lt_of_succ_lt (Nat.lt_of_succ_lt (Nat.lt_of_succ_lt hDb))))
  have hlen := hi0.length
  rw [List.length_replicate] at hlen
  refine wpAny_execs_cons ?_
  repeat' ((fail_if_success (with_reducible show wpAny _ _ (execs (_ :: _) _) _ _ _)); walk_at "wd")
  · have hlf : h₅.IsList D vs.toArray := ⟨_, g0.1, rfl, _, rfl⟩
    have X₅ := Xh.fr F₅
    have DI : I2D h₅ f D n := ⟨qI, _, _, ctv, c', _, _, _, o3, o1', o2', t2, by rw [hf, hfo], hrec₅, g3, d3, g1, d1', g2, d2'⟩
    have hne0 : s.heap.objs.size ≠ D := Ne.symm g0.2.1
    repeat' (walk_at "wd")
    refine callWith_F hfa ?_
    repeat' (walk_at "wd")
    refine len_list (s := ⟨_, _, _, _, _⟩) hlf (by rw [List.size_toArray]; omega) ?_
    rw [show vs.toArray.size = k by rw [List.size_toArray, hlen]]
    repeat' (walk_at "wd")
    · exact hfa
    have hk1 : 1 ≤ k := by
      refine f4 ?_
      unfold Builtin.Int.intBits
      rw [if_neg (by simpa using ‹a ≠ 0›)]
      omega
    refine C_iinner hD178 f3 f2 k X₅ DI g0.1 hi0 (List.length_replicate ..) (by show A.depth + 1 + _ + 1 < _; omega) hh hk1 (Int.le_refl 0) (by omega) (Int.le_refl _) ha0 hak (fun h₆ tk₆ vs₆ e₆ x₆ hD₆ hi₆ => ?_)
    have F₆ := Fr.butN F₅ x₆ hne0 g0.2.2
    have N₆ : News (hideAll s.heap [44]) s.heap.objs.size h₆ [(s.heap.objs.size + 1 + 1, o2')] := fun p hp => by
      rw [List.mem_singleton.mp hp]
      exact ⟨but_list g0.1 x₆ gz.1 (by rw [d2']; simp), gz.2⟩
    have T₆ := T₅.butD g0.1 x₆
    clear F₅ T₅ hlf X₅ DI
    rw [show (0 : Int).toNat = 0 from rfl, List.take_zero, List.nil_append, List.drop_eq_nil_of_le (by rw [List.length_replicate]; omega), List.append_nil] at hi₆
    dsimp only
    repeat' (walk_at "wd")
    exact h D _ _ vs₆ e₆ k hD178 hD0 (Fr.but F₆) T₆ hD₆ hi₆ hak f2 f3
  · dsimp only
    repeat' (walk_at "wd")
    have hk0 : k = 0 := f5 (by rw [‹a = 0›]; rfl)
    subst hk0
    have : vs = [] := List.eq_nil_of_length_eq_zero hlen
    subst this
    exact h D _ _ [] 0 0 hD178 hD0 (Fr.but F₅) T₅ g0.1 .nil hak (by omega) (by omega)
end
/-- both code tables -/
def Two (h : Heap) : Prop := TabAt qI (fnPos iSt) 44 h ∧ TabAt qD (fnPos dSt) 51 h
/-- all but the two tables -/
def Ext2 (h h' : Heap) : Prop := ∀ b o, b ≠ 44 → b ≠ 51 → h.get? b = some o → h'.get? b = some o
theorem Ext2.of {h h' : Heap} (e : Ext h h') : Ext2 h h' := fun b o _ _ x => e b o x
theorem Ext2.but {h h' : Heap} {P : Addr} (hP : P = 44 ∨ P = 51) (e : Heap.ExtBut P h h') : Ext2 h h' := fun b o h1 h2 x => e b o (by rcases hP with rfl | rfl <;> assumption) x
theorem Ext2.trans {h₁ h₂ h₃ : Heap} (a : Ext2 h₁ h₂) (b : Ext2 h₂ h₃) : Ext2 h₁ h₃ := fun x o h1 h2 e => b x o h1 h2 (a x o h1 h2 e)
abbrev hid (h : Heap) : Heap := hideAll h [44, 51]
theorem hid_44 {h : Heap} : (hid h).get? 44 = none := hideAll_none _ (.head _)
theorem hid_51 {h : Heap} : (hid h).get? 51 = none := hideAll_none _ (.tail _ (.head _))
theorem Fr.ext2out {h₀ h' : Heap} {L : Addr} {m : Str → Option Value} (F : Fr (hid h₀) L h' m) : Ext2 h₀ h' := fun b o h1 h2 e => F.keep b o (hideAll_get _ e (by simp [h1, h2]))
theorem Two.keeps {h h' : Heap} (T : Two h) (e : Ext h h') : Two h' := ⟨T.1.keeps e, T.2.keeps e⟩
theorem TabAt.but {q : Str} {pos : Pos} {P R : Addr} {h h' : Heap} (X : TabAt q pos P h) (hR : R = 44 ∨ R = 51) (hPR : P ≠ R) (e : Heap.ExtBut R h h') : TabAt q pos P h' := by
  rcases X with h1 | ⟨c', h1, h2, h3, ⟨c₁, o₁, vs, t, e1, e2, e3, e4⟩⟩
  · exact .inl (e _ _ hPR h1)
  · refine .inr ⟨c', e _ _ hPR h1, h2, h3, ⟨c₁, o₁, vs, t, e1, e _ _ ?_ e2, e3, e4⟩⟩
    have ec : c' = c₁ := by injection e1
    subst ec
    rcases hR with rfl | rfl
    · exact h2
    · exact h3
theorem Two.i {h h' : Heap} (T : Two h) (e : Heap.ExtBut 44 h h') (T' : TabAt qI (fnPos iSt) 44 h') : Two h' := ⟨T', T.2.but (.inl rfl) (by decide) e⟩
theorem Two.d {h h' : Heap} (T : Two h) (e : Heap.ExtBut 51 h h') (T' : TabAt qD (fnPos dSt) 51 h') : Two h' := ⟨T.1.but (.inr rfl) (by decide) e, T'⟩
/-- a table in the ledger -/
theorem TabAt.ledger {q : Str} {pos : Pos} {P L : Addr} {h₀ h : Heap} {m : Str → Option Value} (X : TabAt q pos P h) (F : Fr h₀ L h m) (hP : h₀.get? P = none) (hL : P ≠ L) :
    ∃ tl, News h₀ L h tl ∧ (∀ h', (∀ b o, h₀.get? b = some o → h'.get? b = some o) → (∀ p ∈ tl, h'.get? p.1 = some p.2) → TabAt q pos P h') ∧ ∀ p ∈ tl, ∃ vs, p.2.data = .fields vs := by
  rcases X with h1 | ⟨c', h1, h2, h3, ⟨c₁, o₁, vs, t, e1, e2, e3, e4⟩⟩
  · exact ⟨[(P, tabObj #[])], fun p hp => by rw [List.mem_singleton.mp hp]; exact ⟨h1, hL, hP⟩, fun h' _ hm => .inl (hm _ (.head _)), fun p hp => by rw [List.mem_singleton.mp hp]; exact ⟨_, rfl⟩⟩
  · cases hc : h₀.get? c₁ with
    | none =>
      have hcL : c₁ ≠ L := by
        obtain ⟨oL, _, _, hoL, hdL, _⟩ := F.ns
        rintro rfl
        rw [e2] at hoL; cases hoL; rw [e3] at hdL; cases hdL
      refine ⟨[(P, tabObj #[rawInt pos.line, rawInt pos.col, .ref c']), (c₁, o₁)], fun p hp => ?_, fun h' _ hm => .inr ⟨c', hm _ (.head _), h2, h3, ⟨c₁, o₁, vs, t, e1, hm _ (.tail _ (.head _)), e3, e4⟩⟩, fun p hp => ?_⟩
      rcases List.mem_cons.mp hp with rfl | hp
      · exact ⟨h1, hL, hP⟩
      · rw [List.mem_singleton.mp hp]; exact ⟨e2, hcL, hc⟩
      rcases List.mem_cons.mp hp with rfl | hp
      · exact ⟨_, rfl⟩
      · rw [List.mem_singleton.mp hp]; exact ⟨vs, e3⟩
    | some o₂ =>
      have e5 := F.keep _ _ hc
      rw [e2] at e5
      cases e5
      exact ⟨[(P, tabObj #[rawInt pos.line, rawInt pos.col, .ref c'])], fun p hp => by rw [List.mem_singleton.mp hp]; exact ⟨h1, hL, hP⟩, fun h' hk hm => .inr ⟨c', hm _ (.head _), h2, h3, ⟨c₁, o₁, vs, t, e1, hk _ _ hc, e3, e4⟩⟩, fun p hp => by rw [List.mem_singleton.mp hp]; exact ⟨_, rfl⟩⟩
theorem Two.ledger {L : Addr} {h₀ h : Heap} {m : Str → Option Value} (X : Two h) (F : Fr (hid h₀) L h m) (hL : 178 ≤ L) :
    ∃ tl, News (hid h₀) L h tl ∧ (∀ h', (∀ b o, (hid h₀).get? b = some o → h'.get? b = some o) → (∀ p ∈ tl, h'.get? p.1 = some p.2) → Two h') ∧ ∀ p ∈ tl, ∃ vs, p.2.data = .fields vs := by
  obtain ⟨t1, n1, k1, d1⟩ := X.1.ledger F hid_44 (Nat.ne_of_lt (Nat.lt_of_lt_of_le (by decide : 44 < 178) hL))
  obtain ⟨t2, n2, k2, d2⟩ := X.2.ledger F hid_51 (Nat.ne_of_lt (Nat.lt_of_lt_of_le (by decide : 51 < 178) hL))
  refine ⟨t1 ++ t2, fun p hp => ?_, fun h' hk hm => ⟨k1 h' hk (fun p hp => hm p (List.mem_append_left _ hp)), k2 h' hk (fun p hp => hm p (List.mem_append_right _ hp))⟩, fun p hp => (List.mem_append.mp hp).elim (d1 p) (d2 p)⟩
  rcases List.mem_append.mp hp with hp | hp
  · exact n1 p hp
  · exact n2 p hp
theorem Fr.ext2 {h₀ h h' : Heap} {L : Addr} {m : Str → Option Value} (F : Fr (hid h₀) L h m) (e : Ext2 h h') (hL : 178 ≤ L) : Fr (hid h₀) L h' m := by
  have n1 : L ≠ 44 := Nat.ne_of_gt (Nat.lt_of_lt_of_le (by decide : 44 < 178) hL)
  have n2 : L ≠ 51 := Nat.ne_of_gt (Nat.lt_of_lt_of_le (by decide : 51 < 178) hL)
  refine ⟨?_, fun b o x => e b o (fun q => ?_) (fun q => ?_) (F.keep b o x), F.above⟩
  · obtain ⟨o, es, ep, e1, r⟩ := F.ns
    exact ⟨o, es, ep, e _ _ n1 n2 e1, r⟩
  · rw [q, hid_44] at x; cases x
  · rw [q, hid_51] at x; cases x
/-- ledger entries that are no tables stand -/
theorem News.ext2 {h₀ h h' : Heap} {L : Addr} {news : List (Addr × Obj)} (N : News h₀ L h news) (T : Two h) (hn : ∀ p ∈ news, p.2.cls ≠ .none) (e : Ext2 h h') : News h₀ L h' news := fun p hp => by
  obtain ⟨a1, b1⟩ := T.1.tab
  obtain ⟨a2, b2⟩ := T.2.tab
  have z := N p hp
  refine ⟨e _ _ (fun q => ?_) (fun q => ?_) z.1, z.2⟩
  · have := z.1; rw [q, b1] at this; exact hn p hp (by rw [← Option.some.inj this])
  · have := z.1; rw [q, b2] at this; exact hn p hp (by rw [← Option.some.inj this])
theorem BM.ext2 {mg : Str → Option Value} {h h' : Heap} (X : BM mg h) (T : Two h) (e : Ext2 h h') : BM mg h' := by
  obtain ⟨bm, ob, h1, h2, h3, h4, r⟩ := X
  obtain ⟨a1, b1⟩ := T.1.tab
  obtain ⟨a2, b2⟩ := T.2.tab
  refine ⟨bm, ob, h1, h2, e _ _ (fun q => ?_) (fun q => ?_) h3, h4, r⟩
  · rw [q, b1] at h3; cases h3; cases h4
  · rw [q, b2] at h3; cases h3; cases h4
theorem BM.hid {mg : Str → Option Value} {h : Heap} (X : BM mg h) (T : Two h) : BM mg (Mine.hid h) := by
  obtain ⟨bm, ob, h1, h2, h3, h4, r⟩ := X
  obtain ⟨a1, b1⟩ := T.1.tab
  obtain ⟨a2, b2⟩ := T.2.tab
  refine ⟨bm, ob, h1, h2, hideAll_get _ h3 (fun hm => ?_), h4, r⟩
  rcases List.mem_cons.mp hm with q | hm
  · rw [q, b1] at h3; cases h3; cases h4
  · rw [List.mem_singleton.mp hm, b2] at h3; cases h3; cases h4
theorem Std.hid {w : World} {mg mb : Str → Option Value} {h : Heap} (X : Std w mg mb h) : Std w mg mb (Mine.hid h) := X.hide [44, 51] (by simp)
/-- a new object onto the ledger -/
theorem News.add {h₀ h h' : Heap} {L D : Addr} {m : Str → Option Value} {o : Obj} {news : List (Addr × Obj)} (N : News h₀ L h' news) (F : Fr h₀ L h m) (hD : h.get? D = none) (ho : h'.get? D = some o) : News h₀ L h' ((D, o) :: news) := fun p hp => by
  rcases List.mem_cons.mp hp with rfl | hp
  · refine ⟨ho, fun q => ?_, ?_⟩
    · obtain ⟨oL, _, _, e, _⟩ := F.ns
      dsimp only at q
      rw [← q, hD] at e; cases e
    · cases hz : h₀.get? D with
      | none => rfl
      | some o' => have := F.keep _ _ hz; rw [hD] at this; cases this
  · exact N p hp
theorem fnK {w : World} {mg mb : Str → Option Value} {h : Heap} {f : Addr} {oc : Value} {od : Option Addr} {fd : FuncData} {sl : Array (Option Value)} (X : Std w mg mb h) (e : (KP w.params).lookup f = some ⟨oc, od, .func fd, sl⟩) : FnAt f h := ⟨oc, od, fd, sl, X.K _ _ e⟩
/-- one digit of the long division -/
theorem digs_get (n : Nat) : ∀ (k j : Nat) (x : Int), j < k → (digs n k x)[j]? = some (x / 2 ^ (j * n) % 2 ^ n)
  | 0, j, x, h => by omega
  | k + 1, 0, x, _ => by simp [digs]
  | k + 1, j + 1, x, h => by
    rw [digs, List.getElem?_cons_succ, digs_get n k j _ (by omega), Int.ediv_ediv_of_nonneg (Int.le_of_lt (pow2_pos n)), ← Int.pow_add]
    rw [show n + j * n = (j + 1) * n by rw [Nat.add_mul, Nat.one_mul, Nat.add_comm]]
theorem long_step {y b B : Int} (hb : 0 < b) (hB : 0 < B) :
    (y / B % b * B + y % B) / b + B * (y / B / b) = y / b ∧ (y / B % b * B + y % B) % b = y % b ∧ 0 ≤ (y / B % b * B + y % B) / b ∧ (y / B % b * B + y % B) / b < B ∧ 0 ≤ y / B % b * B + y % B ∧ y / B % b * B + y % B < b * B := by
  have h1 := Int.mul_ediv_add_emod y B
  have h2 := Int.mul_ediv_add_emod (y / B) b
  have h3 := Int.emod_nonneg y (Int.ne_of_gt hB)
  have h4 := Int.emod_lt_of_pos y hB
  have h5 := Int.emod_nonneg (y / B) (Int.ne_of_gt hb)
  have h6 := Int.emod_lt_of_pos (y / B) hb
  have e : y = (y / B % b * B + y % B) + b * (B * (y / B / b)) := by
    conv => lhs; rw [← h1]
    conv => lhs; rw [← h2]
    rw [Int.mul_add, Int.mul_comm B (y / B % b), ← Int.mul_assoc, ← Int.mul_assoc, Int.mul_comm B b]
    have : b * (y / B / b) + y / B % b = y / B := h2
    omega
  have hlo : 0 ≤ y / B % b * B := Int.mul_nonneg h5 (Int.le_of_lt hB)
  have hhi : (y / B % b + 1) * B ≤ b * B := Int.mul_le_mul_of_nonneg_right h6 (Int.le_of_lt hB)
  rw [Int.add_mul, Int.one_mul] at hhi
  refine ⟨?_, ?_, Int.ediv_nonneg (by omega) (Int.le_of_lt hb), Int.ediv_lt_of_lt_mul hb (by rw [Int.mul_comm B b]; omega), by omega, by omega⟩
  · conv => rhs; rw [e]
    rw [Int.add_mul_ediv_left _ _ (Int.ne_of_gt hb)]
  · conv => rhs; rw [e]
    rw [Int.add_mul_emod_self_left]
theorem bits_pos {b : Int} (h : 0 < b) : 1 ≤ Builtin.Int.intBits b := by
  unfold Builtin.Int.intBits
  rw [if_neg (by simp; omega)]
  omega
/-- one turn of the long division -/
noncomputable def dposLoop : List Stmt := match (bodyOf 9).getD 4 (.Pass default) with
  | .For _ _ b _ _ => b
  | _ => []
set_option maxHeartbeats 1000000 in
theorem T_dturn {w : World} {mg mb : Str → Option Value} {A : Around} {s : Shared} {Q : Flow → Shared → Prop} {L Dq : Addr} {h₀ : Heap} {m : Str → Option Value} {rest : List (Addr × Obj)} {vq : List Value} {qs : List Int} {eq n : Nat} {b r d : Int} {tb tn tr td : Tok} (X : Std w mg mb h₀) (hd : A.depth + 2 < recursionLimit) (hh : A.handled = none)
    (F : Fr h₀ L s.heap m) (N : News h₀ L s.heap ((Dq, seqObj "list" vq.toArray eq) :: rest)) (hap : ∀ p ∈ rest, p.1 ≠ Dq) (hq : IntsAre vq qs) (hql : qs.length ≤ 100)
    (m1 : m (Str.ofString "r") = some (.int r tr)) (m2 : m (Str.ofString "n") = some (.int n tn)) (m3 : m (Str.ofString "b") = some (.int b tb)) (m4 : m (Str.ofString "a_digit") = some (.int d td)) (m5 : m (Str.ofString "q_digits") = some (.ref Dq))
    (hr0 : 0 ≤ r) (hr1 : r < 1073741824) (hb0 : 0 < b) (hb1 : b < 1073741824) (hn : n ≤ 30) (h0 : 0 ≤ r * 2 ^ n + d) (h1 : r * 2 ^ n + d < 4611686018427387904)
    (h : ∀ h' tk m' vq' eq' tr' T o, Fr h₀ L h' m' → News h₀ L h' ((Dq, seqObj "list" vq'.toArray eq') :: (T, o) :: rest) → IntsAre vq' (qs ++ [(r * 2 ^ n + d) / b]) → m' (Str.ofString "r") = some (.int ((r * 2 ^ n + d) % b) tr') →
      (∀ y, y ≠ Str.ofString "r" → y ≠ Str.ofString "q_digit" → m' y = m y) → Q .next { s with heap := h', toks := tk }) :
    wpAny (model P0 w) A (execs dposLoop (envOf (Str.ofString "_divmod_pos") (scOf 9) L 63 (.ref 62))) Q (fun _ _ => False) s := by
  conv in (execs _ _) => arg 1; whnf
  have hbit := bits_le (k := 30) hr0 (by rw [show (2 : Int) ^ 30 = 1073741824 by decide]; exact hr1)
  refine wpAny_execs_cons ?_
  repeat' ((fail_if_success (with_reducible show wpAny _ _ (execs (_ :: _) _) _ _ _)); walk_at "wd")
  refine callWith_F (fnK (X.fr (by assumption)) rfl) ?_
  repeat' (walk_at "wd")
  · exact fnK (X.fr F) rfl
  rw [Int.toNat_natCast]
  refine C_div2 (X.fr F) (by omega) ⟨h0, h1⟩ ⟨hb0, hb1⟩ ⟨by omega, by omega⟩ (fun T h2 tk2 t1 t2 e2 hT hT2 => ?_)
  have F2 := Fr.ext F e2
  have hTq : Dq ≠ T := fun q => by have := (N _ (.head _)).1; dsimp only at this; rw [q] at this; rw [hT] at this; cases this
  have N2 := News.add (News.ext N e2) F hT hT2
  replace N2 : News h₀ L h2 ((Dq, seqObj "list" vq.toArray eq) :: (T, { cls := .type "tuple", data := .seq #[.int ((r * 2 ^ n + d).fdiv b) t1, .int ((r * 2 ^ n + d).fmod b) t2] }) :: rest) := fun p hp => by
    rcases List.mem_cons.mp hp with rfl | hp
    · exact N2 _ (.tail _ (.head _))
    · rcases List.mem_cons.mp hp with rfl | hp
      · exact N2 _ (.head _)
      · exact N2 _ (.tail _ (.tail _ hp))
  rw [Int.fdiv_eq_ediv_of_nonneg _ (Int.le_of_lt hb0), Int.fmod_eq_emod_of_nonneg _ (Int.le_of_lt hb0)] at N2
  clear F N
  dsimp only
  refine unpackN_ F2 N2 (News.isTup N2 (.tail _ (.head _))) hh rfl rfl (fun h3 F3 N3 => ?_)
  clear F2 N2
  repeat' ((fail_if_success (with_reducible show wpAny _ _ (execs (_ :: _) _) _ _ _)); walk_at "wd")
  rename_i hD FD ND
  clear F3 N3
  refine wpAny_execs_cons ?_
  repeat' (walk_at "wd")
  have hqlen := hq.length
  refine append_head (its := vq.toArray) (n := eq) FD ND (fun p hp => ?_) (fun h5 F5 N5 => ?_) (by rw [List.size_toArray]; unfold sizeLine; omega)
  · rcases List.mem_cons.mp hp with rfl | hp
    · exact Ne.symm hTq
    · exact hap p hp
  dsimp only
  refine wpAny_execs_nil ?_
  have ea : (vq.toArray.push (Value.int ((r * 2 ^ n + d) / b) t1)) = (vq ++ [Value.int ((r * 2 ^ n + d) / b) t1]).toArray := by simp
  rw [ea] at N5
  exact h _ _ _ _ (eq + 1) t2 T _ F5 N5 (hq.append (.cons _ _ .nil)) (if_pos rfl) (fun y h1 h2 => (if_neg h1).trans (if_neg h2))
set_option maxHeartbeats 1000000 in
theorem C_dpos {w : World} {mg mb : Str → Option Value} {A : Around} {s : Shared} {Q E : Value → Shared → Prop} {a b : Int} {t1 t2 : Tok} (X : Std w mg mb s.heap) (bm : BM mg s.heap) (T : Two s.heap) (hd : A.depth + 130 < recursionLimit) (hh : A.handled = none)
    (ha0 : 0 ≤ a) (ha1 : a < 2 ^ 62) (hb0 : 0 < b) (hb1 : b < 1073741824)
    (h : ∀ D h' tk t1 t2, Ext2 s.heap h' → Two h' → s.heap.get? D = none → h'.get? D = some { cls := .type "tuple", data := .seq #[.int (a / b) t1, .int (a % b) t2] } → Q (.ref D) { s with heap := h', toks := tk }) :
    wpAny (model P0 w) A (call (.ref 63) [.int a t1, .int b t2]) Q E s := by
  refine call_fn 9 (binds := [(Str.ofString "a", .int a t1), (Str.ofString "b", .int b t2)]) X (by omega) rfl rfl rfl rfl rfl rfl (locs (by rfl)) (fun h₁ F => ?_)
  have hbig : 178 ≤ s.heap.objs.size := Heap.lt_size (X.K 177 _ rfl)
  have Xh := X.hid
  have bmh := bm.hid T
  have T₁ := T.keeps F.keep
  replace F := Fr.hide F [44, 51]
  obtain ⟨tl, N, kT, _⟩ := T₁.ledger F hbig
  obtain ⟨n, hn⟩ : ∃ n : Nat, n = Builtin.Int.intBits b := ⟨_, rfl⟩
  have hn1 : 1 ≤ n := hn ▸ bits_pos hb0
  have hn2 : n ≤ 30 := hn ▸ bits_le (Int.le_of_lt hb0) (by rw [show (2 : Int) ^ 30 = 1073741824 by decide]; exact hb1)
  conv in (execs _ _) => arg 1; whnf
  repeat' (walk_at "wd")
  rename_i FA NA
  rw [← hn] at FA
  have XA := Xh.fr FA
  have TA := kT _ FA.keep (fun p hp => (NA p hp).1)
  refine callWith_F (fnK XA rfl) ?_
  repeat' (walk_at "wd")
  · exact fnK XA rfl
  refine C_i2d XA (bmh.keeps FA.keep) TA.1 (by show A.depth + 1 + 120 < _; omega) hh ha0 ha1 hn1 (by omega) (fun Da h2 tk2 vs e k hDa hDn x2 T2 hD2 hi2 hak hk1 hk2 => ?_)
  have TB := TA.i x2 T2
  have FB := Fr.ext2 FA (Ext2.but (.inl rfl) x2) hbig
  obtain ⟨tl2, N2, kT2, fT2⟩ := TB.ledger FB hbig
  have NB := News.add N2 FA hDn hD2
  have haB : ∀ p ∈ tl2, p.1 ≠ Da := fun p hp q => by
    obtain ⟨vs', hv⟩ := fT2 p hp
    have := (N2 p hp).1
    rw [q, hD2] at this
    rw [← Option.some.inj this] at hv
    cases hv
  clear FA NA XA TA x2 T2 F N kT T₁ N2
  dsimp only
  repeat' (walk_at "wk")
  refine For_turns (by assumption) ?_
  repeat' (walk_at "wk")
  rename_i hX FX NX _ _ _ hY FY NY
  obtain ⟨Dq, hDq⟩ : ∃ Dq : Addr, Dq = hX.objs.size := ⟨_, rfl⟩
  have hlt : ∀ p ∈ (Da, seqObj "list" vs.toArray e) :: tl2, p.1 < Dq := fun p hp => hDq ▸ Heap.lt_size (NX p hp).1
  rw [← hDq] at FY
  replace NY : News (hid s.heap) s.heap.objs.size hY ((Dq, seqObj "list" ([] : List Value).toArray 0) :: (Da, seqObj "list" vs.toArray e) :: tl2) := by rw [hDq]; exact NY
  clear NX FX
  have hvl := hi2.length
  rw [digs_len] at hvl
  refine krv_reversed FY NY (News.isList NY (.tail _ (.head _))) (fun R hZ FZ NZ hR => ?_)
  clear FY NY
  dsimp only
  refine wpAny_pyIter_revIter (i := (vs.length : Int) - 1) (l := Da) ⟨_, (NZ _ (.head _)).1, rfl, rfl⟩ ?_
  have zR := NZ _ (.head _)
  have zD := NZ _ (.tail _ (.tail _ (.head _)))
  refine turns_W (I := R) (m₀ := _) (news := (Dq, seqObj "list" ([] : List Value).toArray 0) :: tl2) (fun i m nw => ∃ (qs : List Int) (vq : List Value) (eq : Nat) (r : Int) (tr tn : Tok), nw = (Dq, seqObj "list" vq.toArray eq) :: tl2 ∧ IntsAre vq qs ∧ qs.length = i ∧ (∀ q ∈ qs, 0 ≤ q ∧ q < 2 ^ n) ∧ valOf n qs.reverse = (a / 2 ^ ((k - i) * n)) / b ∧ r = (a / 2 ^ ((k - i) * n)) % b ∧ m (Str.ofString "r") = some (.int r tr) ∧ m (Str.ofString "n") = some (.int n tn) ∧ m (Str.ofString "b") = some (.int b t2) ∧ m (Str.ofString "q_digits") = some (.ref Dq)) (Walks.listRev (A := A.deeper (envOf (Str.ofString "_divmod_pos") (scOf 9) s.heap.objs.size 63 (Value.ref 62))) hh R Da (Nat.ne_of_lt (hR _ (.tail _ (.head _)))) vs.toArray) ?_ ?_ ?_ ?_ FZ (fun p hp => ?_) ?_ ?_ ?_
  · intro hm
    rcases List.mem_cons.mp hm with q | hm
    · exact zR.2.1 q.symm
    · exact zD.2.1 (List.mem_singleton.mp hm).symm
  · intro p hp
    rw [List.mem_singleton.mp hp]; exact zR.2.2
  · intro p hp hm
    have h1 : p.1 < R := by
      rcases List.mem_cons.mp hp with rfl | hp
      · exact hR _ (.head _)
      · exact hR _ (.tail _ (.tail _ hp))
    rcases List.mem_cons.mp hm with q | hm
    · rw [q] at h1; exact Nat.lt_irrefl _ h1
    · have q := List.mem_singleton.mp hm
      rcases List.mem_cons.mp hp with rfl | hp
      · exact absurd q (Nat.ne_of_gt (hlt _ (.head _)))
      · exact haB p hp q
  · refine ⟨Nat.zero_le _, ⟨_, zR.1, rfl, ?_⟩, ⟨_, zD.1, rfl, _, rfl⟩⟩
    rw [List.size_toArray]; simp [revObj]
  · rcases List.mem_cons.mp hp with rfl | hp
    · exact NZ _ (.tail _ (.head _))
    · exact NZ _ (.tail _ (.tail _ (.tail _ hp)))
  · have e0 : a / 2 ^ ((k - 0) * n) = 0 := by rw [Nat.sub_zero]; exact Int.ediv_eq_zero_of_lt ha0 hak
    exact ⟨[], [], 0, 0, _, _, rfl, .nil, rfl, by simp, by rw [e0]; simp [valOf], by rw [e0]; simp, rfl, rfl, rfl, rfl⟩
  · rintro i v m₁ nw h₅ tk₅ own hi hP ha hoff ⟨qs, vq, eq, r, tr, tn, rfl, hq, hql, hqb, hqv, hrv, m1, m2, m3, m4⟩ F₅ N₅
    rw [List.size_toArray, hvl] at hi hP
    have hP' : vs[k - 1 - i]? = some v := by simpa using hP
    obtain ⟨td, hv⟩ : ∃ td, v = .int (a / 2 ^ ((k - 1 - i) * n) % 2 ^ n) td := by
      obtain ⟨td, hv⟩ := hi2.get (k - 1 - i) _ (digs_get n k (k - 1 - i) a (by omega))
      rw [hP'] at hv
      exact ⟨td, Option.some.inj hv⟩
    subst hv
    obtain ⟨y, hy⟩ : ∃ y : Int, y = a / 2 ^ ((k - 1 - i) * n) := ⟨_, rfl⟩
    have ey : a / 2 ^ ((k - i) * n) = y / 2 ^ n := by
      rw [hy, Int.ediv_ediv_of_nonneg (Int.le_of_lt (pow2_pos _)), ← Int.pow_add, show (k - 1 - i) * n + n = (k - i) * n by rw [show k - i = (k - 1 - i) + 1 by omega, Nat.add_mul, Nat.one_mul]]
    have ey2 : a / 2 ^ ((k - (i + 1)) * n) = y := by rw [hy, show k - (i + 1) = k - 1 - i by omega]
    rw [← hy]
    rw [ey] at hqv hrv
    obtain ⟨l1, l2, l3, l4, l5, l6⟩ := long_step (y := y) hb0 (pow2_pos n)
    rw [← hrv] at l1 l2 l3 l4 l5 l6
    have hB : b * 2 ^ n < 4611686018427387904 := by
      have h1 : (2 : Int) ^ n ≤ 2 ^ 30 := by
        rw [show (2 : Int) ^ 30 = 2 ^ n * 2 ^ (30 - n) by rw [← Int.pow_add, show n + (30 - n) = 30 by omega]]
        have := pow2_pos (30 - n)
        have h2 := Int.mul_le_mul_of_nonneg_left (show 1 ≤ (2 : Int) ^ (30 - n) by omega) (Int.le_of_lt (pow2_pos n))
        omega
      rw [show (2 : Int) ^ 30 = 1073741824 by decide] at h1
      have h3 := Int.mul_le_mul_of_nonneg_left h1 (Int.le_of_lt hb0)
      omega
    have hr0 : 0 ≤ r := by rw [hrv]; exact Int.emod_nonneg _ (Int.ne_of_gt hb0)
    have hr1 : r < b := by rw [hrv]; exact Int.emod_lt_of_pos _ hb0
    repeat' ((fail_if_success (with_reducible show wpAny _ _ (execs (_ :: _) _) _ _ _)); walk_at "wk")
    rename_i h₆ F₆ N₆
    have N₆' : News (hid s.heap) s.heap.objs.size h₆ ((Dq, seqObj "list" vq.toArray eq) :: (tl2 ++ own)) := N₆
    refine T_dturn (s := ⟨h₆, _, _, _, _⟩) (L := s.heap.objs.size) (A := A.deeper (envOf (Str.ofString "_divmod_pos") (scOf 9) s.heap.objs.size 63 (Value.ref 62))) (m := fun z => if z = Str.ofString "a_digit" then some (.int (y % 2 ^ n) td) else m₁ z) (r := r) (n := n) (b := b) (d := y % 2 ^ n) (tr := tr) (tn := tn) (tb := t2) (td := td) Xh (by show A.depth + 1 + 2 < _; omega) hh F₆ N₆' (fun p hp => ?_) hq (by omega) ((if_neg (by decide)).trans m1) ((if_neg (by decide)).trans m2) ((if_neg (by decide)).trans m3) (if_pos rfl) ((if_neg (by decide)).trans m4) hr0 (by omega) hb0 hb1 (by omega) l5 (by omega) ?_
    · rcases List.mem_append.mp hp with hp | hp
      · exact Nat.ne_of_lt (hlt _ (.tail _ hp))
      · exact hoff p hp _ (by simp)
    intro h₇ tk₇ m₇ vq' eq' tr' Tt ot F₇ N₇ hq' mr' mk
    refine InvEndN.intro F₇ N₇ (nx := (Dq, seqObj "list" vq'.toArray eq') :: tl2) ⟨qs ++ [(r * 2 ^ n + y % 2 ^ n) / b], vq', eq', _, tr', tn, rfl, hq', by simp [hql], fun q hq => ?_, ?_, ?_, mr', (mk _ (by decide) (by decide)).trans ((if_neg (by decide)).trans m2), (mk _ (by decide) (by decide)).trans ((if_neg (by decide)).trans m3), (mk _ (by decide) (by decide)).trans ((if_neg (by decide)).trans m4)⟩ rfl (fun p hp => ?_) (fun p hp => ?_)
    · rcases List.mem_append.mp hq with hq | hq
      · exact hqb q hq
      · rw [List.mem_singleton.mp hq]; exact ⟨l3, l4⟩
    · rw [List.reverse_append, List.reverse_singleton, List.singleton_append, valOf, hqv, ey2]; exact l1
    · rw [ey2]; exact l2
    · rcases List.mem_cons.mp hp with rfl | hp
      · exact .head _
      · exact .tail _ (.tail _ (List.mem_append_left _ hp))
    · exact .tail _ (.tail _ (List.mem_append_right _ hp))
  · rintro m₁ nw h₅ tk₅ ha ⟨qs, vq, eq, r, tr, tn, rfl, hq, hql, hqb, hqv, hrv, m1, m2, m3, m4⟩ F₅ N₅
    rw [List.size_toArray, hvl] at hql hqv hrv
    rw [Nat.sub_self, Nat.zero_mul, Int.pow_zero, Int.ediv_one] at hqv hrv
    clear FZ NZ
    dsimp only
    walk_at "wk"
    walk_at "wk"
    walk_at "wk"
    walk_at "wk"
    walk_at "wk"
    walk_at "wk"
    have hqs : vq.length = k := by rw [hq.length, hql]
    refine reverse_head_ints (its := vq.toArray) (n := eq) (ns := qs) (rest := tl2) (by assumption) (by assumption) (fun p hp => Nat.ne_of_lt (hlt _ (.tail _ hp))) hq (fun h₆ F₆ N₆ hq₆ => ?_) (by unfold sizeLine; omega)
    clear F₅ N₅
    dsimp only
    repeat' (walk_at "wk")
    have X₆ := Xh.fr F₆
    have TC := kT2 _ F₆.keep (fun p hp => (N₆ p (.tail _ hp)).1)
    refine callWith_F (fnK X₆ rfl) ?_
    repeat' (walk_at "wk")
    · exact fnK X₆ rfl
    refine C_d2i (vs := vq.toArray.toList.reverse) (ds := qs.reverse) X₆ (bmh.keeps F₆.keep) TC.2 (by show A.depth + 1 + 120 < _; omega) hh (News.isList N₆ (.head _)) hq₆ (by rw [List.length_reverse]; omega) (by rw [List.length_reverse, hql]; exact hk1) (fun q hq => hqb q (List.mem_reverse.mp hq)) (fun h₇ tk₇ t₇ x₇ T₇ => ?_)
    have TD := TC.d x₇ T₇
    have F₇ := Fr.ext2 F₆ (Ext2.but (.inr rfl) x₇) hbig
    obtain ⟨tl3, N₇, kT3, _⟩ := TD.ledger F₇ hbig
    rw [hqv]
    clear F₆ N₆ X₆
    dsimp only
    repeat' (walk_at "wk")
    rename_i hE FE _ hG FG NG
    rw [hrv] at NG
    exact h _ _ _ _ _ (Fr.ext2out FG) (kT3 _ FG.keep (fun p hp => (NG p (.tail _ hp)).1)) (Heap.get?_none_of_le (Nat.le_of_lt FE.ns.lt)) (NG _ (.head _)).1
set_option maxHeartbeats 1000000 in
theorem C_idiv0 {w : World} {mg mb : Str → Option Value} {A : Around} {s : Shared} {Q E : Value → Shared → Prop} {a b : Int} {t1 t2 : Tok} (X : Std w mg mb s.heap) (bm : BM mg s.heap) (T : Two s.heap) (hd : A.depth + 140 < recursionLimit) (hh : A.handled = none)
    (ha0 : 0 ≤ a) (ha1 : a < 2 ^ 62) (hb0 : 0 < b) (hb1 : b < 1073741824)
    (h : ∀ D h' tk t1 t2, Ext2 s.heap h' → Two h' → s.heap.get? D = none → h'.get? D = some { cls := .type "tuple", data := .seq #[.int (a / b) t1, .int (a % b) t2] } → Q (.ref D) { s with heap := h', toks := tk }) :
    wpAny (model P0 w) A (call (.ref 70) [.int a t1, .int b t2]) Q E s := by
  refine call_fn 10 (binds := [(Str.ofString "a", .int a t1), (Str.ofString "b", .int b t2)]) X (by omega) rfl rfl rfl rfl rfl rfl (locs (by rfl)) (fun h₁ F => ?_)
  have N : News s.heap s.heap.objs.size h₁ [] := News.nil
  conv in (execs _ _) => arg 1; whnf
  refine wpAny_execs_cons ?_
  repeat' ((fail_if_success (with_reducible show wpAny _ _ (execs (_ :: _) _) _ _ _)); walk_at "wd")
  all_goals try (exfalso; omega)
  refine wpAny_execs_cons ?_
  repeat' ((fail_if_success (with_reducible show wpAny _ _ (execs (_ :: _) _) _ _ _)); walk_at "wd")
  all_goals try (exfalso; omega)
  refine wpAny_execs_cons ?_
  repeat' ((fail_if_success (with_reducible show wpAny _ _ (execs (_ :: _) _) _ _ _)); walk_at "wd")
  all_goals try (exfalso; omega)
  repeat' (walk_at "wd")
  have X₁ := X.fr F
  refine callWith_F (fnK X₁ rfl) ?_
  repeat' (walk_at "wd")
  · exact fnK X₁ rfl
  refine C_dpos X₁ (bm.keeps F.keep) (T.keeps F.keep) (by show A.depth + 1 + 130 < _; omega) hh ha0 ha1 hb0 hb1 (fun D h' tk t1 t2 e2 T' hD hD2 => ?_)
  refine h D h' tk t1 t2 (Ext2.trans (Ext2.of F.keep) e2) T' ?_ hD2
  cases hz : s.heap.get? D with
  | none => rfl
  | some o => exact absurd (F.keep _ _ hz) (by dsimp only at hD; rw [hD]; simp)
set_option maxHeartbeats 1000000 in
theorem C_idiv1 {w : World} {mg mb : Str → Option Value} {A : Around} {s : Shared} {Q E : Value → Shared → Prop} {a b : Int} {t1 t2 : Tok} (X : Std w mg mb s.heap) (bm : BM mg s.heap) (T : Two s.heap) (hd : A.depth + 150 < recursionLimit) (hh : A.handled = none)
    (ha0 : -(2 ^ 62) < a) (ha1 : a < 2 ^ 62) (hb0 : 0 < b) (hb1 : b < 1073741824)
    (h : ∀ D h' tk t1 t2, Ext2 s.heap h' → Two h' → s.heap.get? D = none → h'.get? D = some { cls := .type "tuple", data := .seq #[.int (a / b) t1, .int (a % b) t2] } → Q (.ref D) { s with heap := h', toks := tk }) :
    wpAny (model P0 w) A (call (.ref 70) [.int a t1, .int b t2]) Q E s := by
  rcases Int.lt_or_le a 0 with hneg | hpos
  case inr => exact C_idiv0 X bm T (by omega) hh hpos ha1 hb0 hb1 h
  refine call_fn 10 (binds := [(Str.ofString "a", .int a t1), (Str.ofString "b", .int b t2)]) X (by omega) rfl rfl rfl rfl rfl rfl (locs (by rfl)) (fun h₁ F => ?_)
  have hbig : 178 ≤ s.heap.objs.size := Heap.lt_size (X.K 177 _ rfl)
  have X₁ := X.fr F
  have bm₁ := bm.keeps F.keep
  have T₁ := T.keeps F.keep
  have hF := F.keep
  replace F := Fr.hide F [44, 51]
  have Xh := X.hid
  have N : News (hid s.heap) s.heap.objs.size h₁ [] := News.nil
  conv in (execs _ _) => arg 1; whnf
  refine wpAny_execs_cons ?_
  repeat' ((fail_if_success (with_reducible show wpAny _ _ (execs (_ :: _) _) _ _ _)); walk_at "wd")
  all_goals try (exfalso; omega)
  refine wpAny_execs_cons ?_
  repeat' ((fail_if_success (with_reducible show wpAny _ _ (execs (_ :: _) _) _ _ _)); walk_at "wd")
  all_goals try (exfalso; omega)
  refine wpAny_execs_cons ?_
  repeat' ((fail_if_success (with_reducible show wpAny _ _ (execs (_ :: _) _) _ _ _)); walk_at "wd")
  all_goals try (exfalso; omega)
  refine wpAny_execs_cons ?_
  repeat' ((fail_if_success (with_reducible show wpAny _ _ (execs (_ :: _) _) _ _ _)); walk_at "wd")
  refine callWith_F (fnK X₁ rfl) ?_
  repeat' (walk_at "wd")
  · exact fnK X₁ rfl
  rw [show Builtin.bitNot a = -a - 1 from rfl]
  refine C_idiv0 (a := -a - 1) X₁ bm₁ T₁ (by show A.depth + 1 + 140 < _; omega) hh (by omega) (by omega) hb0 hb1 (fun D h2 tk2 t1 t2 e2 T2 hD hD2 => ?_)
  have F2 := Fr.ext2 F e2 hbig
  obtain ⟨tl, Nt, kT, _⟩ := T2.ledger F2 hbig
  have N2 := News.add Nt F hD hD2
  clear F N
  dsimp only
  refine unpackN_ F2 N2 (News.isTup N2 (.head _)) hh rfl rfl (fun h3 F3 N3 => ?_)
  clear F2 N2
  repeat' (walk_at "wd")
  rename_i hG FG NG _ _ _ hE FE NE
  have hbl := kbt_below a hb0
  have e1 : Builtin.bitNot ((-a - 1) / b) = a / b := by rw [hbl.1]; rfl
  have e2 : b + Builtin.bitNot ((-a - 1) % b) = a % b := by
    have : Builtin.bitNot ((-a - 1) % b) = -((-a - 1) % b) - 1 := rfl
    rw [hbl.2, this]; omega
  rw [e1, e2] at NE
  exact h _ _ _ _ _ (Fr.ext2out FE) (kT _ FE.keep (fun p hp => (NE p (.tail _ (.tail _ hp))).1)) (Heap.get?_none_of_le (Nat.le_of_lt FG.ns.lt)) (NE _ (.head _)).1
set_option maxHeartbeats 1000000 in
theorem C_idiv2 {w : World} {mg mb : Str → Option Value} {A : Around} {s : Shared} {Q E : Value → Shared → Prop} {a b : Int} {t1 t2 : Tok} (X : Std w mg mb s.heap) (bm : BM mg s.heap) (T : Two s.heap) (hd : A.depth + 160 < recursionLimit) (hh : A.handled = none)
    (ha0 : -(2 ^ 62) < a) (ha1 : a < 2 ^ 62) (hb0 : b < 0) (hb1 : -1073741824 < b)
    (h : ∀ D h' tk t1 t2, Ext2 s.heap h' → Two h' → s.heap.get? D = none → h'.get? D = some { cls := .type "tuple", data := .seq #[.int (-a / -b) t1, .int (-(-a % -b)) t2] } → Q (.ref D) { s with heap := h', toks := tk }) :
    wpAny (model P0 w) A (call (.ref 70) [.int a t1, .int b t2]) Q E s := by
  refine call_fn 10 (binds := [(Str.ofString "a", .int a t1), (Str.ofString "b", .int b t2)]) X (by omega) rfl rfl rfl rfl rfl rfl (locs (by rfl)) (fun h₁ F => ?_)
  have hbig : 178 ≤ s.heap.objs.size := Heap.lt_size (X.K 177 _ rfl)
  have X₁ := X.fr F
  have bm₁ := bm.keeps F.keep
  have T₁ := T.keeps F.keep
  have hF := F.keep
  replace F := Fr.hide F [44, 51]
  have Xh := X.hid
  have N : News (hid s.heap) s.heap.objs.size h₁ [] := News.nil
  conv in (execs _ _) => arg 1; whnf
  refine wpAny_execs_cons ?_
  repeat' ((fail_if_success (with_reducible show wpAny _ _ (execs (_ :: _) _) _ _ _)); walk_at "wd")
  all_goals try (exfalso; omega)
  refine wpAny_execs_cons ?_
  repeat' ((fail_if_success (with_reducible show wpAny _ _ (execs (_ :: _) _) _ _ _)); walk_at "wd")
  all_goals try (exfalso; omega)
  refine wpAny_execs_cons ?_
  repeat' ((fail_if_success (with_reducible show wpAny _ _ (execs (_ :: _) _) _ _ _)); walk_at "wd")
  refine callWith_F (fnK X₁ rfl) ?_
  repeat' (walk_at "wd")
  · exact fnK X₁ rfl
  refine C_idiv1 (a := -a) (b := -b) X₁ bm₁ T₁ (by show A.depth + 1 + 150 < _; omega) hh (by omega) (by omega) (by omega) (by omega) (fun D h2 tk2 t1 t2 e2 T2 hD hD2 => ?_)
  have F2 := Fr.ext2 F e2 hbig
  obtain ⟨tl, Nt, kT, _⟩ := T2.ledger F2 hbig
  have N2 := News.add Nt F hD hD2
  clear F N
  dsimp only
  refine unpackN_ F2 N2 (News.isTup N2 (.head _)) hh rfl rfl (fun h3 F3 N3 => ?_)
  clear F2 N2
  repeat' (walk_at "wd")
  rename_i hG FG NG _ hE FE NE
  exact h _ _ _ _ _ (Fr.ext2out FE) (kT _ FE.keep (fun p hp => (NE p (.tail _ (.tail _ hp))).1)) (Heap.get?_none_of_le (Nat.le_of_lt FG.ns.lt)) (NE _ (.head _)).1
theorem Wn_le {l : List Nat} (h : l.length ≤ 12) : Wn l ≤ 479001600 := by
  have h1 := Wn_mul l
  have h2 := Fc_pos l
  have h3 : Wn l ≤ Wn l * Fc l := Nat.le_mul_of_pos_right _ h2
  have mono : ∀ a b : Nat, a ≤ b → fact a ≤ fact b := by
    intro a b hab
    induction b with
    | zero => rw [Nat.le_zero.mp hab]; exact Nat.le_refl _
    | succ b ih =>
      rcases Nat.lt_or_eq_of_le hab with h | h
      · refine Nat.le_trans (ih (by omega)) ?_
        show fact b ≤ fact b * (b + 1)
        exact Nat.le_mul_of_pos_right _ (Nat.succ_pos _)
      · rw [h]; exact Nat.le_refl _
  have h4 := mono l.length 12 h
  have h5 : fact 12 = 479001600 := by decide
  omega
section
variable {prog : Program} {w : World} {A : Around} {E : Value → Shared → Prop} {s : Shared} {D : Addr} {vs : List Value} {l : List Nat} {c : Nat} {q : Int} {u : Tok} {value slice : Expr} {Q : Value → Shared → Prop}
theorem item_ones (hl : s.heap.IsList D vs.toArray) (hi : StrsAre vs (ones l)) (hz : l.length ≤ 1000)
    (hq : (0 ≤ q ∧ l[q.toNat]? = some c) ∨ (q < 0 ∧ -(l.length : Int) ≤ q ∧ l[(q + l.length).toNat]? = some c)) (h : ∀ t, Q (.str (tx [c]) t) s)
    (hs : subscripted slice false (.ref D) (.int q u) = operate [.ref D, .int q u] (getItem (.ref D) (.int q u)) := by with_unfolding_all rfl) (hg : ∀ r, letTemporaryGo value (.ref D) r = pure () := by intro _; with_unfolding_all rfl) :
    wpAny (model prog w) A (subscriptTail value slice (.ref D) (.int q u)) Q E s := by
  have hlen := len_ones hi
  have key : ∀ {vs : List Value} {l : List Nat}, StrsAre vs (ones l) → ∀ (i : Nat) (c : Nat), l[i]? = some c → ∃ t, vs[i]? = some (.str (tx [c]) t) := by
    intro vs l
    induction l generalizing vs with
    | nil => intro h i c hc; simp at hc
    | cons a r ih =>
      intro h i c hc
      cases h with
      | cons _ t h' =>
        cases i with
        | zero => simp only [List.getElem?_cons_zero, Option.some.injEq] at hc; subst hc; exact ⟨t, rfl⟩
        | succ i => rw [List.getElem?_cons_succ] at hc ⊢; exact ih h' i c hc
  rcases hq with ⟨h0, hc⟩ | ⟨h0, h1, hc⟩
  · obtain ⟨t, ht⟩ := key hi _ _ hc
    have hlt : q.toNat < l.length := by
      rcases Nat.lt_or_ge q.toNat l.length with h | h
      · exact h
      · rw [List.getElem?_eq_none h] at hc; cases hc
    exact item_listL hl h0 (by omega) ht (h t) hs hg
  · obtain ⟨t, ht⟩ := key hi _ _ hc
    have hsz : vs.toArray.size = l.length := by rw [List.size_toArray, hlen]
    exact subscriptTail_builtin hl.typeIs slot_list_getitem.lookup (wpAny_getItem_list_neg hl h0 (by rw [hsz]; exact h1) (by omega) (by rw [hsz]; simpa using ht) (h t)) hs hg
end
theorem C_turn {w : World} {mg mb : Str → Option Value} {A : Around} {s : Shared} {Q E : Value → Shared → Prop} {p n W turn : Int} {t1 t2 : Tok} (X : Std w mg mb s.heap) (bm : BM mg s.heap) (T : Two s.heap) (hd : A.depth + 160 < recursionLimit) (hh : A.handled = none)
    (ht : turn = 1 ∨ turn = -1) (ha0 : -(2 ^ 62) < p * n) (ha1 : p * n < 2 ^ 62) (hW0 : 0 < W) (hW1 : W < 1073741824)
    (h : ∀ D h' tk t1 t2 rr, turn * rr = (p * n) % W → Ext2 s.heap h' → Two h' → s.heap.get? D = none → h'.get? D = some { cls := .type "tuple", data := .seq #[.int (p * n / W) t1, .int rr t2] } → Q (.ref D) { s with heap := h', toks := tk }) :
    wpAny (model P0 w) A (call (.ref 70) [.int (turn * p * n) t1, .int (turn * W) t2]) Q E s := by
  rcases ht with rfl | rfl
  · rw [Int.one_mul, Int.one_mul]
    exact C_idiv1 X bm T (by omega) hh ha0 ha1 hW0 hW1 (fun D h' tk t1 t2 => h D h' tk t1 t2 _ (Int.one_mul _))
  · rw [show (-1 : Int) * p * n = -(p * n) by rw [Int.mul_assoc]; omega, show (-1 : Int) * W = -W by omega]
    refine C_idiv2 X bm T hd hh (by omega) (by omega) (by omega) (by omega) (fun D h' tk t1 t2 => ?_)
    rw [Int.neg_neg, Int.neg_neg]
    exact h D h' tk t1 t2 _ (by omega)
/-- what one turn of `_law_read` computes -/
theorem read_facts {c : Nat} {t srt : List Nat} {e p rr turn : Int} (he : e = 0 ∨ e = 1) (hs : srt.Pairwise (· ≤ ·)) (hp : srt.Perm (c :: t)) (hpl : p = (Pn (c :: t) : Int) - e * Wn (c :: t)) (hr : turn * rr = (p * ((t.length : Int) + 1)) % Wn (c :: t)) :
    ∃ q : Int, q = p * ((t.length : Int) + 1) / Wn (c :: t) ∧ -((t.length : Int) + 1) ≤ q ∧ q < (t.length : Int) + 1 ∧ (q < 0 ↔ e = 1) ∧
      ((0 ≤ q ∧ srt[q.toNat]? = some c) ∨ (q < 0 ∧ -(srt.length : Int) ≤ q ∧ srt[(q + srt.length).toNat]? = some c)) ∧ srt.count c = (c :: t).count c ∧ srt.idxOf c = lessN c (c :: t) ∧
      (q - ((lessN c (c :: t) : Int) + e * ((c :: t).count c - ((t.length : Int) + 1)))) * Wn (c :: t) + turn * rr = ((Pn t : Int) - e * Wn t) * ((t.length : Int) + 1) := by
  have hW := Wn_pos (c :: t)
  have hlen : srt.length = t.length + 1 := by rw [hp.length_eq]; rfl
  obtain ⟨k, hk, hq, hx⟩ := read_step (c := c) (t := t) (e := e) (p := p) (q := p * ((t.length : Int) + 1) / Wn (c :: t)) (r := turn * rr) hpl (by rw [Int.fdiv_eq_ediv_of_nonneg _ (by omega)]) (by rw [Int.fmod_eq_emod_of_nonneg _ (by omega)]; exact hr)
  have hlc := less_count c (c :: t)
  rw [List.length_cons] at hlc
  have hcount : srt.count c = (c :: t).count c := hp.count_eq c
  have hless : lessN c srt = lessN c (c :: t) := lessN_perm hp c
  have hat := sorted_at (s := srt) (c := c) (k := k) hs (by rw [hcount]; exact hk)
  rw [hless] at hat
  refine ⟨_, rfl, ?_, ?_, ?_, ?_, hcount, ?_, hx⟩
  · rcases he with rfl | rfl <;> omega
  · rcases he with rfl | rfl <;> omega
  · rcases he with rfl | rfl <;> omega
  · rw [hq]
    rcases he with rfl | rfl
    · refine .inl ⟨by omega, ?_⟩
      rw [show ((lessN c (c :: t) : Int) + k - 0 * ((t.length : Int) + 1)).toNat = lessN c (c :: t) + k by omega]
      exact hat
    · refine .inr ⟨by omega, by omega, ?_⟩
      rw [show ((lessN c (c :: t) : Int) + k - 1 * ((t.length : Int) + 1) + srt.length).toNat = lessN c (c :: t) + k by omega]
      exact hat
  · rw [← hless]
    exact sorted_idx hs (hp.mem_iff.mpr (.head _))
section
local macro_rules | `(tactic| walk_at "lk") => `(tactic| first | (with_reducible assumption) | exact if_pos rfl | (refine (if_neg (by decide)).trans ?_; walk_at "lk"))
local macro_rules | `(tactic| walk_at "loadName") => `(tactic| (refine wpAny_loadName_local (by rfl) (by rfl) (Fr.ns (by assumption)) (by walk_at "lk") ?_))
local macro_rules | `(tactic| walk_at "eval Name") => `(tactic| (refine ld (by assumption) (by walk_at "lk") ?_))
noncomputable def readLoop : List Stmt := match (bodyOf 22).getD 2 (.Pass default) with
  | .While _ b _ _ => b
  | _ => []
set_option maxHeartbeats 1000000 in
theorem T_first {w : World} {mg mb : Str → Option Value} {A : Around} {s : Shared} {Q : Flow → Shared → Prop} {L : Addr} {h₀ : Heap} {m : Str → Option Value} {news : List (Addr × Obj)} {q f y z : Int} {t1 t2 t3 t4 : Tok} (X : Std w mg mb h₀)
    (F : Fr h₀ L s.heap m) (N : News h₀ L s.heap news) (m1 : m (Str.ofString "step") = some (.int q t1)) (m2 : m (Str.ofString "first") = some (.int f t2)) (m3 : m (Str.ofString "many") = some (.int y t3)) (m4 : m (Str.ofString "size") = some (.int z t4))
    (h : ∀ h' tk m' t', Fr h₀ L h' m' → News h₀ L h' news → m' (Str.ofString "first") = some (.int (if q < 0 then f + y - z else f) t') → (∀ x, x ≠ Str.ofString "first" → m' x = m x) → Q .next { s with heap := h', toks := tk }) :
    wpAny (model P0 w) A (exec (readLoop.getD 6 (.Pass default)) (envOf (Str.ofString "_law_read") (scOf 22) L 172 (.ref 171))) Q (fun _ _ => False) s := by
  conv in (exec _ _) => arg 1; whnf
  repeat' (walk_at "wd")
  · rename_i hA FA NA
    exact h _ _ _ _ FA NA ((if_pos rfl).trans (by rw [if_pos (by assumption)])) (fun x hx => if_neg hx)
  · exact h _ _ m t2 F N (m2.trans (by rw [if_neg (by assumption)])) (fun x hx => rfl)
set_option maxHeartbeats 1000000 in
theorem T_rturn2 {w : World} {mg mb : Str → Option Value} {A : Around} {s : Shared} {Q : Flow → Shared → Prop} {L D : Addr} {H : Heap} {m : Str → Option Value} {tl : List (Addr × Obj)} {vs : List Value} {srt t dn : List Nat} {c ev : Nat} {e turn q rr : Int} {t1 t3 t4 t5 t6 t7 : Tok} (X : Std w mg mb (hid H)) (hbig : 178 ≤ L) (hd : A.depth + 170 < recursionLimit) (hh : A.handled = none)
    (F : Fr (hid H) L s.heap m) (N : News (hid H) L s.heap ((D, seqObj "list" vs.toArray ev) :: tl)) (hap : ∀ p ∈ tl, p.1 ≠ D) (kT : ∀ h', (∀ b o, (hid H).get? b = some o → h'.get? b = some o) → (∀ p ∈ tl, h'.get? p.1 = some p.2) → Two h')
    (hS : StrsAre vs (ones srt)) (hlen : srt.length = t.length + 1) (hmem : c ∈ srt) (he : e = 0 ∨ e = 1) (htn : turn = 1 ∨ turn = -1) (hl : t.length + 1 ≤ 12) (hdn : dn.length ≤ 12)
    (q1 : -((t.length : Int) + 1) ≤ q) (q2 : q < (t.length : Int) + 1) (q3 : q < 0 ↔ e = 1) (q4 : (0 ≤ q ∧ srt[q.toNat]? = some c) ∨ (q < 0 ∧ -(srt.length : Int) ≤ q ∧ srt[(q + srt.length).toNat]? = some c)) (q5 : srt.count c = (c :: t).count c) (q6 : srt.idxOf c = lessN c (c :: t))
    (q7 : (q - ((lessN c (c :: t) : Int) + e * ((c :: t).count c - ((t.length : Int) + 1)))) * Wn (c :: t) + turn * rr = ((Pn t : Int) - e * Wn t) * ((t.length : Int) + 1)) (hrb : -(479001600 : Int) ≤ rr ∧ rr ≤ 479001600)
    (m1 : m (Str.ofString "left") = some (.ref D)) (m2 : m (Str.ofString "told") = some (.str (tx dn) t1)) (m4 : m (Str.ofString "ways") = some (.int (Wn (c :: t)) t3)) (m5 : m (Str.ofString "turn") = some (.int turn t4)) (m6 : m (Str.ofString "size") = some (.int ((t.length : Int) + 1) t5)) (m7 : m (Str.ofString "step") = some (.int q t6)) (m8 : m (Str.ofString "rest") = some (.int rr t7))
    (h : ∀ h' tk m' D' vs' ev' tl' t1 t2 t3, Fr (hid H) L h' m' → News (hid H) L h' ((D', seqObj "list" vs'.toArray ev') :: tl') → (∀ p ∈ tl', p.1 ≠ D') → (∀ h', (∀ b o, (hid H).get? b = some o → h'.get? b = some o) → (∀ p ∈ tl', h'.get? p.1 = some p.2) → Two h') → StrsAre vs' (ones (srt.erase c)) →
      m' (Str.ofString "left") = some (.ref D') → m' (Str.ofString "told") = some (.str (tx (dn ++ [c])) t1) → m' (Str.ofString "place") = some (.int ((Pn t : Int) - e * Wn t) t2) → m' (Str.ofString "ways") = some (.int (Wn t) t3) → m' (Str.ofString "turn") = some (.int turn t4) → Q .next { s with heap := h', toks := tk }) :
    wpAny (model P0 w) A (execs (readLoop.drop 2) (envOf (Str.ofString "_law_read") (scOf 22) L 172 (.ref 171))) Q (fun _ _ => False) s := by
  have hvl := len_ones hS
  have hS0 := hS
  have hS1 := hS
  have hW0 := Wn_pos (c :: t)
  have hW1 := Wn_le (l := c :: t) (by simpa using hl)
  have hcl := List.count_le_length (a := c) (l := c :: t)
  rw [List.length_cons] at hcl
  have hlc := less_count c (c :: t)
  rw [List.length_cons] at hlc
  conv in (execs _ _) => arg 1; whnf
  refine wpAny_execs_cons ?_
  repeat' ((fail_if_success (with_reducible show wpAny _ _ (execs (_ :: _) _) _ _ _)); walk_at "wd")
  all_goals try (exfalso; omega)
  dsimp only
  refine wpAny_execs_cons ?_
  repeat' ((fail_if_success (with_reducible show wpAny _ _ (execs (_ :: _) _) _ _ _)); walk_at "wd")
  refine item_ones (News.isList N (.head _)) hS (by omega) q4 (fun ts => ?_)
  repeat' ((fail_if_success (with_reducible show wpAny _ _ (execs (_ :: _) _) _ _ _)); walk_at "wd")
  refine wpAny_execs_cons ?_
  repeat' ((fail_if_success (with_reducible show wpAny _ _ (execs (_ :: _) _) _ _ _)); walk_at "wd")
  rename_i hA FA NA
  have hcnt : Spec.countIn (PyData.str (tx [c])) (List.map PyData.str (ones srt)) = (((c :: t).count c : Nat) : Int) := by
    rw [← countP_isStrOf_map (tx [c]) hS, count_ones c hS, q5]
  rw [hcnt] at FA
  clear F N
  refine wpAny_execs_cons ?_
  repeat' ((fail_if_success (with_reducible show wpAny _ _ (execs (_ :: _) _) _ _ _)); walk_at "wd")
  refine index_ones (News.isList NA (.head _)) hS hmem (by omega) ?_
  rw [q6]
  repeat' ((fail_if_success (with_reducible show wpAny _ _ (execs (_ :: _) _) _ _ _)); walk_at "wd")
  rename_i hB FB NB
  clear FA NA
  refine wpAny_execs_cons (T_first X FB NB (by walk_at "lk") (by walk_at "lk") (by walk_at "lk") (by walk_at "lk") (fun h₂ tk₂ m₂ t' F₂ N₂ mf mk => ?_))
  have hf : (if q < 0 then (lessN c (c :: t) : Int) + ((c :: t).count c : Nat) - ((t.length : Int) + 1) else (lessN c (c :: t) : Int)) = (lessN c (c :: t) : Int) + e * ((c :: t).count c - ((t.length : Int) + 1)) := by
    rcases he with rfl | rfl
    · rw [if_neg (by omega)]; omega
    · rw [if_pos (by omega)]; omega
  rw [hf] at mf
  have n1 : m₂ (Str.ofString "left") = some (.ref D) := (mk _ (by decide)).trans (by walk_at "lk")
  have n2 : m₂ (Str.ofString "told") = some (.str (tx dn) t1) := (mk _ (by decide)).trans (by walk_at "lk")
  have n4 : m₂ (Str.ofString "ways") = some (.int (Wn (c :: t)) t3) := (mk _ (by decide)).trans (by walk_at "lk")
  have n5 : m₂ (Str.ofString "turn") = some (.int turn t4) := (mk _ (by decide)).trans (by walk_at "lk")
  have n6 : m₂ (Str.ofString "size") = some (.int ((t.length : Int) + 1) t5) := (mk _ (by decide)).trans (by walk_at "lk")
  have n7 : m₂ (Str.ofString "step") = some (.int q t6) := (mk _ (by decide)).trans (by walk_at "lk")
  have n8 : m₂ (Str.ofString "rest") = some (.int rr t7) := (mk _ (by decide)).trans (by walk_at "lk")
  have n9 : ∃ tt, m₂ (Str.ofString "sign") = some (.str (tx [c]) tt) := ⟨_, (mk _ (by decide)).trans (by walk_at "lk")⟩
  have n10 : ∃ tt, m₂ (Str.ofString "many") = some (.int (((c :: t).count c : Nat) : Int) tt) := ⟨_, (mk _ (by decide)).trans (by walk_at "lk")⟩
  obtain ⟨ts2, n9⟩ := n9
  obtain ⟨tm2, n10⟩ := n10
  clear FB NB mk
  dsimp only
  refine wpAny_execs_cons ?_
  repeat' ((fail_if_success (with_reducible show wpAny _ _ (execs (_ :: _) _) _ _ _)); walk_at "wd")
  rename_i hC FC NC
  rw [q7, Int.mul_fdiv_cancel _ (by omega), Int.mul_fmod_left] at NC
  clear F₂ N₂
  refine unpackN_ FC NC (News.isTup NC (.head _)) hh rfl rfl (fun h3 F3 N3 => ?_)
  clear FC NC
  repeat' ((fail_if_success (with_reducible show wpAny _ _ (execs (_ :: _) _) _ _ _)); walk_at "wd")
  refine wpAny_execs_cons ?_
  repeat' ((fail_if_success (with_reducible show wpAny _ _ (execs (_ :: _) _) _ _ _)); walk_at "wd")
  all_goals try (exfalso; omega)
  dsimp only
  refine wpAny_execs_cons ?_
  repeat' ((fail_if_success (with_reducible show wpAny _ _ (execs (_ :: _) _) _ _ _)); walk_at "wd")
  rename_i hE FE NE
  have hw : ((Wn (c :: t) : Int) * ((c :: t).count c : Nat)).fdiv ((t.length : Int) + 1) = Wn t := by
    have h1 := Wn_cons c t
    have h2 : (Wn (c :: t) : Int) * ((c :: t).count c : Nat) = (Wn t : Int) * ((t.length : Int) + 1) := by
      have : ((Wn t * (t.length + 1) : Nat) : Int) = ((Wn (c :: t) * (c :: t).count c : Nat) : Int) := by rw [h1]
      push_cast at this ⊢
      exact this.symm
    rw [h2, Int.mul_fdiv_cancel _ (by omega)]
  rw [hw] at FE
  have NF : News (hid H) L hE ((D, seqObj "list" vs.toArray ev) :: tl) := fun p hp => NE p (.tail _ hp)
  clear F3 N3 NE
  have hc1 : [c].length = 1 := rfl
  refine wpAny_execs_cons ?_
  repeat' ((fail_if_success (with_reducible show wpAny _ _ (execs (_ :: _) _) _ _ _)); walk_at "wd")
  refine meth_list NF (List.mem_cons_self ..) PySem.F.slot_list_remove PySem.F.type_list_remove ?_
  dsimp only
  repeat' ((fail_if_success (with_reducible show wpAny _ _ (execs (_ :: _) _) _ _ _)); walk_at "wd")
  refine remove_ones FE NF hap hS hmem (by omega) (fun hG vs' n' FG NG hSG => ?_)
  dsimp only
  clear FE NF
  repeat' (walk_at "wd")
  rename_i hH FH NH
  exact h _ _ _ D vs' n' tl _ _ _ FH NH hap kT hSG (by walk_at "lk") (by walk_at "lk") (by walk_at "lk") (by walk_at "lk") (by walk_at "lk")
set_option maxHeartbeats 1000000 in
theorem T_rturn {w : World} {mg mb : Str → Option Value} {A : Around} {s : Shared} {Q : Flow → Shared → Prop} {L D : Addr} {H : Heap} {m : Str → Option Value} {tl : List (Addr × Obj)} {vs : List Value} {srt t dn : List Nat} {c ev : Nat} {e turn : Int} {t1 t2 t3 t4 : Tok} (X : Std w mg mb (hid H)) (bm : BM mg (hid H)) (hbig : 178 ≤ L) (hd : A.depth + 170 < recursionLimit) (hh : A.handled = none)
    (F : Fr (hid H) L s.heap m) (N : News (hid H) L s.heap ((D, seqObj "list" vs.toArray ev) :: tl)) (hap : ∀ p ∈ tl, p.1 ≠ D) (kT : ∀ h', (∀ b o, (hid H).get? b = some o → h'.get? b = some o) → (∀ p ∈ tl, h'.get? p.1 = some p.2) → Two h')
    (hS : StrsAre vs (ones srt)) (hs : srt.Pairwise (· ≤ ·)) (hp : srt.Perm (c :: t)) (he : e = 0 ∨ e = 1) (htn : turn = 1 ∨ turn = -1) (hl : t.length + 1 ≤ 12) (hdn : dn.length ≤ 12)
    (m1 : m (Str.ofString "left") = some (.ref D)) (m2 : m (Str.ofString "told") = some (.str (tx dn) t1)) (m3 : m (Str.ofString "place") = some (.int ((Pn (c :: t) : Int) - e * Wn (c :: t)) t2)) (m4 : m (Str.ofString "ways") = some (.int (Wn (c :: t)) t3)) (m5 : m (Str.ofString "turn") = some (.int turn t4))
    (h : ∀ h' tk m' D' vs' ev' tl' t1 t2 t3, Fr (hid H) L h' m' → News (hid H) L h' ((D', seqObj "list" vs'.toArray ev') :: tl') → (∀ p ∈ tl', p.1 ≠ D') → (∀ h', (∀ b o, (hid H).get? b = some o → h'.get? b = some o) → (∀ p ∈ tl', h'.get? p.1 = some p.2) → Two h') → StrsAre vs' (ones (srt.erase c)) →
      m' (Str.ofString "left") = some (.ref D') → m' (Str.ofString "told") = some (.str (tx (dn ++ [c])) t1) → m' (Str.ofString "place") = some (.int ((Pn t : Int) - e * Wn t) t2) → m' (Str.ofString "ways") = some (.int (Wn t) t3) → m' (Str.ofString "turn") = some (.int turn t4) → Q .next { s with heap := h', toks := tk }) :
    wpAny (model P0 w) A (execs readLoop (envOf (Str.ofString "_law_read") (scOf 22) L 172 (.ref 171))) Q (fun _ _ => False) s := by
  have hlen : srt.length = t.length + 1 := by rw [hp.length_eq]; rfl
  have hvl := len_ones hS
  have hS0 := hS
  have hS1 := hS
  have hW0 := Wn_pos (c :: t)
  have hW1 := Wn_le (l := c :: t) (by simpa using hl)
  have hP := Pn_lt (c :: t)
  conv in (execs _ _) => arg 1; whnf
  refine wpAny_execs_cons ?_
  repeat' ((fail_if_success (with_reducible show wpAny _ _ (execs (_ :: _) _) _ _ _)); walk_at "wd")
  refine len_list (News.isList N (.head _)) (by rw [List.size_toArray]; omega) ?_
  rw [show (vs.toArray.size : Int) = (t.length : Int) + 1 by rw [List.size_toArray, hvl, hlen]; rfl]
  repeat' ((fail_if_success (with_reducible show wpAny _ _ (execs (_ :: _) _) _ _ _)); walk_at "wd")
  refine wpAny_execs_cons ?_
  repeat' ((fail_if_success (with_reducible show wpAny _ _ (execs (_ :: _) _) _ _ _)); walk_at "wd")
  rename_i hA FA NA
  have XA := X.fr FA
  have TA := kT _ FA.keep (fun p hp => (NA p (.tail _ hp)).1)
  refine callWith_F (fnK XA rfl) ?_
  repeat' (walk_at "wd")
  · exact fnK XA rfl
  obtain ⟨p, hpl⟩ : ∃ p : Int, p = (Pn (c :: t) : Int) - e * Wn (c :: t) := ⟨_, rfl⟩
  rw [← hpl]
  have hpb : -(479001600 : Int) ≤ p ∧ p ≤ 479001600 := by rcases he with rfl | rfl <;> omega
  have hpn : -(5748019200 : Int) ≤ p * ((t.length : Int) + 1) ∧ p * ((t.length : Int) + 1) ≤ 5748019200 := by
    constructor
    · have h1 : -p * ((t.length : Int) + 1) ≤ 479001600 * ((t.length : Int) + 1) := Int.mul_le_mul_of_nonneg_right (by omega) (by omega)
      rw [Int.neg_mul] at h1; omega
    · have h1 : p * ((t.length : Int) + 1) ≤ 479001600 * ((t.length : Int) + 1) := Int.mul_le_mul_of_nonneg_right (by omega) (by omega)
      omega
  refine C_turn (p := p) (n := (t.length : Int) + 1) (W := Wn (c :: t)) (turn := turn) XA (bm.keeps FA.keep) TA (by omega) hh htn (by omega) (by omega) (by omega) (by omega) (fun T0 h2 tk2 tq trr rr hrr e2 T2 hD hD2 => ?_)
  have F2 := Fr.ext2 FA e2 hbig
  obtain ⟨tl2, Nt, kT2, fT2⟩ := T2.ledger F2 hbig
  have hlist := News.ext2 (N := fun p hp => NA p (by rw [List.mem_singleton.mp hp]; exact .head _)) (news := [(D, seqObj "list" vs.toArray ev)]) TA (fun p hp => by rw [List.mem_singleton.mp hp]; simp) e2
  obtain ⟨q, hq, q1, q2, q3, q4, q5, q6, q7⟩ := read_facts (turn := turn) he hs hp hpl hrr
  rw [← hq] at hD2
  have N2 : News (hid H) L h2 ((D, seqObj "list" vs.toArray ev) :: (T0, _) :: tl2) := fun p hp => by
    rcases List.mem_cons.mp hp with rfl | hp
    · exact hlist _ (.head _)
    · exact News.add Nt FA hD hD2 p hp
  have hap2 : ∀ p ∈ tl2, p.1 ≠ D := fun p hp hz => by
    obtain ⟨vs', hv⟩ := fT2 p hp
    have h1 := (Nt p hp).1
    have h2 := (hlist _ (.head _)).1
    rw [hz] at h1
    dsimp only at h2
    rw [h2] at h1
    rw [← Option.some.inj h1] at hv
    cases hv
  have hT0D : T0 ≠ D := fun hz => by
    have := (NA _ (.head _)).1
    dsimp only at this hD
    rw [← hz, hD] at this; cases this
  clear F N NA Nt
  dsimp only
  refine unpackN_ F2 N2 (News.isTup N2 (.tail _ (.head _))) hh rfl rfl (fun h3 F3 N3 => ?_)
  clear F2 N2 FA
  repeat' ((fail_if_success (with_reducible show wpAny _ _ (execs (_ :: _) _) _ _ _)); walk_at "wd")
  rename_i hB FB NB
  have hrrb : -(479001600 : Int) ≤ rr ∧ rr ≤ 479001600 := by
    have h1 := Int.emod_nonneg (p * ((t.length : Int) + 1)) (show ((Wn (c :: t) : Nat) : Int) ≠ 0 by omega)
    have h2 := Int.emod_lt_of_pos (p * ((t.length : Int) + 1)) (show (0 : Int) < ((Wn (c :: t) : Nat) : Int) by omega)
    rw [← hrr] at h1 h2
    rcases htn with rfl | rfl <;> omega
  refine T_rturn2 (tl := (T0, { cls := .type "tuple", data := .seq #[.int q tq, .int rr trr] }) :: tl2) (q := q) (rr := rr) X hbig (by omega) hh FB NB (fun p hp => ?_) (fun h' hk hm => kT2 h' hk (fun p hp => hm p (.tail _ hp))) hS0 hlen (hp.mem_iff.mpr (.head _)) he htn hl hdn q1 q2 q3 q4 q5 q6 q7 hrrb (by walk_at "lk") (by walk_at "lk") (by walk_at "lk") (by walk_at "lk") (by walk_at "lk") (by walk_at "lk") (by walk_at "lk") h
  rcases List.mem_cons.mp hp with rfl | hp
  · exact hT0D
  · exact hap2 p hp
set_option maxHeartbeats 1000000 in
theorem C_read {w : World} {mg mb : Str → Option Value} {A : Around} {s : Shared} {Q E : Value → Shared → Prop} {tg sg : List Nat} {e turn : Int} {t1 t2 t3 t4 : Tok} (X : Std w mg mb s.heap) (bm : BM mg s.heap) (T : Two s.heap) (hd : A.depth + 180 < recursionLimit) (hh : A.handled = none)
    (hp : tg.Perm sg) (hl : tg.length ≤ 12) (he : e = 0 ∨ e = 1) (htn : turn = 1 ∨ turn = -1)
    (h : ∀ h' tk t, Ext2 s.heap h' → Two h' → Q (.str (tx tg) t) { s with heap := h', toks := tk }) :
    wpAny (model P0 w) A (call (.ref 172) [.int ((Pn tg : Int) - e * Wn tg) t1, .int (Wn tg) t2, .str (tx sg) t3, .int turn t4]) Q E s := by
  refine call_fn 22 (binds := [(Str.ofString "place", .int ((Pn tg : Int) - e * Wn tg) t1), (Str.ofString "ways", .int (Wn tg) t2), (Str.ofString "signs", .str (tx sg) t3), (Str.ofString "turn", .int turn t4)]) X (by omega) rfl rfl rfl rfl rfl rfl (locs (by rfl)) (fun h₁ F => ?_)
  have hbig : 178 ≤ s.heap.objs.size := Heap.lt_size (X.K 177 _ rfl)
  have Xh := X.hid
  have bmh := bm.hid T
  have T₁ := T.keeps F.keep
  replace F := Fr.hide F [44, 51]
  obtain ⟨tl, N, kT, fT⟩ := T₁.ledger F hbig
  have hsl := hp.length_eq
  conv in (execs _ _) => arg 1; whnf
  refine wpAny_execs_cons ?_
  repeat' ((fail_if_success (with_reducible show wpAny _ _ (execs (_ :: _) _) _ _ _)); walk_at "wd")
  refine sorted_str hh F N (by omega) (fun D h2 tk2 vs srt ev F2 N2 hap hS hps hss => ?_)
  dsimp only
  have hS0 := hS
  have hS1 := hS
  clear F N
  repeat' ((fail_if_success (with_reducible show wpAny _ _ (execs (_ :: _) _) _ _ _)); walk_at "wd")
  refine wpAny_execs_cons ?_
  repeat' ((fail_if_success (with_reducible show wpAny _ _ (execs (_ :: _) _) _ _ _)); walk_at "wd")
  refine wpAny_execs_cons ?_
  rename_i hA FA NA
  rw [empty_tx] at FA
  refine While_inv (fun n m news => ∃ (t dn srt : List Nat) (vs : List Value) (ev : Nat) (D : Addr) (tl : List (Addr × Obj)) (u1 u2 u3 : Tok), n = t.length ∧ tg = dn ++ t ∧ srt.Perm t ∧ srt.Pairwise (· ≤ ·) ∧ StrsAre vs (ones srt) ∧ news = (D, seqObj "list" vs.toArray ev) :: tl ∧ (∀ p ∈ tl, p.1 ≠ D) ∧ (∀ h', (∀ b o, (hid s.heap).get? b = some o → h'.get? b = some o) → (∀ p ∈ tl, h'.get? p.1 = some p.2) → Two h') ∧
    m (Str.ofString "left") = some (.ref D) ∧ m (Str.ofString "told") = some (.str (tx dn) u1) ∧ m (Str.ofString "place") = some (.int ((Pn t : Int) - e * Wn t) u2) ∧ m (Str.ofString "ways") = some (.int (Wn t) u3) ∧ m (Str.ofString "turn") = some (.int turn t4)) (n₀ := tg.length) FA NA ?_ ?_
  · exact ⟨tg, [], srt, vs, ev, D, tl, _, _, _, rfl, rfl, hps.trans hp.symm, hss, hS0, rfl, hap, kT, rfl, rfl, rfl, rfl, rfl⟩
  · rintro n m₁ news₁ h₃ tk₃ F₃ N₃ ⟨t, dn, srt, vs, ev, D, tl, u1, u2, u3, hn, htg, hpt, hst, hSt, rfl, hap, kT, m1, m2, m3, m4, m5⟩
    clear F2 N2 FA NA
    have hvl := len_ones hSt
    have hlt := hpt.length_eq
    have htl : dn.length + t.length ≤ 12 := by rw [htg, List.length_append] at hl; exact hl
    have hSt0 := hSt
    repeat' ((fail_if_success (with_reducible show wpAny _ _ (execs (_ :: _) _) _ _ _)); walk_at "wd")
    refine wpAny_truthy_list (News.isList N₃ (.head _)) (by rw [List.size_toArray]; omega) ?_
    have hemp : (!vs.toArray.isEmpty) = decide (0 < t.length) := by
      rw [← hlt, ← hvl]; cases vs <;> simp
    rw [hemp]
    cases t with
    | nil =>
      rw [decide_eq_false (by simp)]
      dsimp only
      rw [if_neg (by decide)]
      repeat' (walk_at "wd")
      rw [List.append_nil] at htg
      subst htg
      exact h _ _ _ (Fr.ext2out F₃) (kT _ F₃.keep (fun p hp => (N₃ p (.tail _ hp)).1))
    | cons c t =>
      rw [decide_eq_true (by simp)]
      dsimp only
      rw [if_pos rfl]
      have hs' : srt.Perm (c :: t) := hpt
      refine T_rturn (e := e) (turn := turn) Xh bmh hbig (by show A.depth + 1 + 170 < _; omega) hh F₃ N₃ hap kT hSt hst hpt he htn (by simp only [List.length_cons] at htl; omega) (by simp only [List.length_cons] at htl; omega) m1 m2 m3 m4 m5 ?_
      intro h' tk m' D' vs' ev' tl' w1 w2 w3 F' N' hap' kT' hS' k1 k2 k3 k4 k5
      refine WhileStep.intro F' N' (n' := t.length) (by rw [hn]; simp) ⟨t, dn ++ [c], srt.erase c, vs', ev', D', tl', w1, w2, w3, rfl, by rw [htg]; simp, ?_, ?_, hS', rfl, hap', kT', k1, k2, k3, k4, k5⟩
      · have := hpt.erase c
        rwa [List.erase_cons_head] at this
      · exact List.Pairwise.sublist (List.erase_sublist ..) hst
noncomputable abbrev lawB (i : Nat) : Stmt := (bodyOf 23).getD i (.Pass default)
noncomputable abbrev lawE (L : Addr) : Env := envOf (Str.ofString "law") (scOf 23) L 177 (.ref 176)
theorem nameE_G {w : World} {mg mb : Str → Option Value} {M : Model} {A : Around} {E : Value → Shared → Prop} {s : Shared} {env : Env} {x : Str} {pos : Pos} {v : Value} {Q : Value → Shared → Prop} (X : Std w mg mb s.heap) (e : gl.lookup x = some v) (h : Q v s)
    (hg : env.globals = mainGlobals) (hk : env.scope.kind = .function) (hx : env.kindOf x = some .globalImplicit) (hd : (x == ("__debug__" : Str)) = false := by decide) : wpAny M A (eval (.Name x pos) env) Q E s :=
  Calls.Name_function_global hk hx (Calls.loadGlobal_global (env := env) (hg ▸ X.g) (X.glob e) h) hd
set_option maxHeartbeats 1000000 in
theorem law_s0 {w : World} {mg mb : Str → Option Value} {A : Around} {s : Shared} {Q : Flow → Shared → Prop} {L a : Addr} {h₀ : Heap} {m : Str → Option Value} {news : List (Addr × Obj)} {vs : List Value} {ns : List Int} (X : Std w mg mb h₀) (hd : A.depth + 300 < recursionLimit) (hh : A.handled = none)
    (F : Fr h₀ L s.heap m) (N : News h₀ L s.heap news) (hl : h₀.IsList a vs.toArray) (hi : IntsAre vs ns) (hn : vs.length ≤ 1000) (m0 : m (Str.ofString "script") = some (.ref a))
    (h : ∀ T P h' tk t1 t2 m', Good 4 T P → Fr h₀ L h' m' → News h₀ L h' news → m' (Str.ofString "typed") = some (.str (tx T) t1) → m' (Str.ofString "plain") = some (.str (tx P) t2) → Q .next { s with heap := h', toks := tk }) :
    wpAny (model P0 w) A (exec (lawB 0) (lawE L)) Q (fun _ _ => False) s := by
  have XF := X.fr F
  conv in (exec _ _) => arg 1; whnf
  repeat' (walk_at "wd")
  refine callWith_F (fnK XF rfl) ?_
  repeat' (walk_at "wd")
  · exact fnK XF rfl
  refine C_text XF (by omega) hh (Fr.lst F hl) hi hn (fun D h2 tk2 t1 t2 T P G e2 hD hD2 => ?_)
  have F2 := Fr.ext F e2
  have N2 := News.add (News.ext N e2) F hD hD2
  clear N
  refine unpackN_ F2 N2 (News.isTup N2 (.head _)) hh rfl rfl (fun h3 F3 N3 => ?_)
  clear F F2 N2
  repeat' (walk_at "wd")
  rename_i hA FA NA
  exact h T P _ _ t1 t2 _ G FA (fun p hp => NA p (.tail _ hp)) ((if_neg (by decide)).trans (if_pos rfl)) (if_pos rfl)
set_option maxHeartbeats 1000000 in
theorem law_s1 {w : World} {mg mb : Str → Option Value} {A : Around} {s : Shared} {Q : Flow → Shared → Prop} {L : Addr} {h₀ : Heap} {m : Str → Option Value} {news : List (Addr × Obj)} {T P : List Nat} {t1 : Tok} (X : Std w mg mb h₀) (hd : A.depth + 300 < recursionLimit) (hh : A.handled = none)
    (F : Fr h₀ L s.heap m) (N : News h₀ L s.heap news) (G : Good 4 T P) (m1 : m (Str.ofString "typed") = some (.str (tx T) t1))
    (h : ∀ h' tk t2, Fr h₀ L h' (fun y => if y = Str.ofString "text" then some (.str (tx P) t2) else m y) → News h₀ L h' news → Q .next { s with heap := h', toks := tk }) :
    wpAny (model P0 w) A (exec (lawB 1) (lawE L)) Q (fun _ _ => False) s := by
  have XF := X.fr F
  have hTl := G.lt
  conv in (exec _ _) => arg 1; whnf
  repeat' (walk_at "wd")
  refine comp_T (p := fun (c : Nat) => !decide ((c : Int) ∈ b1K)) (G := fun (c : Nat) => (b3Of c).cps.toList) hh rfl (by decide +kernel) rfl (by decide +kernel) rfl ?_
  refine ld F (by walk_at "lk") ?_
  refine ⟨_, _, rfl, by omega, ?_, ?_, ?_⟩
  · intro C c tc s₃ m₃ E' hc hC hn hm he
    have X₃ := XF.keeps he
    refine wpAny_tests_one ?_
    walk1
    walk1
    walk1
    refine nameE_G X₃ (by rfl) ?_ rfl rfl rfl
    try dsimp only
    refine callWith_F (fnK X₃ rfl) ?_
    walk1
    refine wpAny_Name (wpAny_loadName_local rfl rfl hn hm ?_) (by decide)
    walk1
    refine ⟨fnK X₃ rfl, ?_⟩
    rw [tx_one]
    refine C_b1 X₃ (by omega) (fun h' tk' e' => ?_)
    walk1
    exact ⟨rfl, _, _, rfl, e'⟩
  · intro C c tc s₃ m₃ E' hc hpc hC hn hm he
    have X₃ := XF.keeps he
    walk1
    refine nameE_G X₃ (by rfl) ?_ rfl rfl rfl
    try dsimp only
    refine callWith_F (fnK X₃ rfl) ?_
    walk1
    refine wpAny_Name (wpAny_loadName_local rfl rfl hn hm ?_) (by decide)
    walk1
    refine ⟨fnK X₃ rfl, ?_⟩
    rw [tx_one]
    refine C_b3 X₃ (by omega) hh (fun h' tk' t' e' => ?_)
    exact ⟨⟨t', rfl⟩, _, _, rfl, e'⟩
  · intro D h' tk' ys hD hpl hys he
    have F2 := Fr.ext F he
    have N2 := News.ext N he
    clear F N
    repeat' (walk_at "wd")
    have hfl : ((T.filter fun (c : Nat) => !decide ((c : Int) ∈ b1K)).map fun c => (b3Of c).cps.toList).flatten = P := by
      rw [← List.flatMap_def]; exact G.made
    have hPl := G.lp
    refine join_T (gs := (T.filter fun (c : Nat) => !decide ((c : Int) ∈ b1K)).map fun c => (b3Of c).cps.toList) hpl.isList (by rw [List.map_map]; exact hys) (by rw [hfl]; omega) (fun t5 k5 => ?_)
    rw [hfl]
    repeat' (walk_at "wd")
    rename_i hA FA NA
    exact h _ _ t5 FA NA
theorem item_tupR {prog : Program} {w : World} {A : Around} {E : Value → Shared → Prop} {s : Shared} {value slice : Expr} {t : Addr} {items : Array Value} {k : Int} {u : Tok} {j : Nat} {x : Value} {Q : Value → Shared → Prop} (ht : IsTup s.heap t items)
    (hlo : -(2 ^ 63) ≤ k) (hhi : k < 2 ^ 63) (hj : seqIndex? k items.size = some j) (hx : items[j]? = some x) (h : Q x s)
    (hs : subscripted slice false (.ref t) (.int k u) = operate [.ref t, .int k u] (getItem (.ref t) (.int k u)) := by with_unfolding_all rfl) :
    wpAny (model prog w) A (subscriptTail value slice (.ref t) (.int k u)) Q E s :=
  subscriptTail_builtinR ht.typeIs slot_tuple_getitem.lookup (getItem_tuple (Q := fun r s' => r = x ∧ Q r s') ht hlo hhi hj hx ⟨rfl, h⟩) hs
set_option maxHeartbeats 1000000 in
theorem law_s2 {w : World} {mg mb : Str → Option Value} {A : Around} {s : Shared} {Q : Flow → Shared → Prop} {L : Addr} {h₀ : Heap} {m : Str → Option Value} {news : List (Addr × Obj)} {P : List Nat} {t1 t2 : Tok} (X : Std w mg mb h₀)
    (F : Fr h₀ L s.heap m) (N : News h₀ L s.heap news) (m1 : m (Str.ofString "text") = some (.str (tx P) t1)) (m2 : m (Str.ofString "plain") = some (.str (tx P) t2))
    (h : ∀ tk, Q .next { s with toks := tk }) :
    wpAny (model P0 w) A (exec (lawB 2) (lawE L)) Q (fun _ _ => False) s := by
  conv in (exec _ _) => arg 1; whnf
  repeat' ((fail_if_success (with_reducible show wpAny _ _ (execs (_ :: _) _) _ _ _)); walk_at "wd")
  · exact absurd ‹(tx P != tx P) = true› (by simp)
  · exact h s.toks
set_option maxHeartbeats 1000000 in
theorem law_s3 {w : World} {mg mb : Str → Option Value} {A : Around} {s : Shared} {Q : Flow → Shared → Prop} {L : Addr} {h₀ : Heap} {m : Str → Option Value} {news : List (Addr × Obj)} {P : List Nat} {t1 : Tok} (X : Std w mg mb h₀) (hd : A.depth + 300 < recursionLimit) (hh : A.handled = none)
    (F : Fr h₀ L s.heap m) (N : News h₀ L s.heap news) (hl : P.length ≤ 12) (m1 : m (Str.ofString "text") = some (.str (tx P) t1))
    (h : ∀ h' tk t1 t2, Fr h₀ L h' (fun y => if y = Str.ofString "ways" then some (.int (rk P).2 t2) else if y = Str.ofString "place" then some (.int (rk P).1 t1) else m y) → News h₀ L h' news → Q .next { s with heap := h', toks := tk }) :
    wpAny (model P0 w) A (exec (lawB 3) (lawE L)) Q (fun _ _ => False) s := by
  have XF := X.fr F
  conv in (exec _ _) => arg 1; whnf
  repeat' (walk_at "wd")
  refine callWith_F (fnK XF rfl) ?_
  repeat' (walk_at "wd")
  · exact fnK XF rfl
  refine C_place XF (by omega) hh (by omega) (fun D h2 tk2 t1 t2 e2 hD hD2 => ?_)
  have F2 := Fr.ext F e2
  have N2 := News.add (News.ext N e2) F hD hD2
  clear N
  refine unpackN_ F2 N2 (News.isTup N2 (.head _)) hh rfl rfl (fun h3 F3 N3 => ?_)
  clear F F2 N2
  repeat' (walk_at "wd")
  rename_i hA FA NA
  exact h _ _ _ _ FA (fun p hp => NA p (.tail _ hp))
set_option maxHeartbeats 1000000 in
theorem law_s4 {w : World} {mg mb : Str → Option Value} {A : Around} {s : Shared} {Q : Flow → Shared → Prop} {L : Addr} {h₀ : Heap} {m : Str → Option Value} {news : List (Addr × Obj)} {P : List Nat} {t1 : Tok} (X : Std w mg mb h₀)
    (F : Fr h₀ L s.heap m) (N : News h₀ L s.heap news) (hl : P.length ≤ 12) (m1 : m (Str.ofString "text") = some (.str (tx P) t1))
    (h : ∀ h' tk t1, Fr h₀ L h' (fun y => if y = Str.ofString "turned" then some (.str (tx P.reverse) t1) else m y) → News h₀ L h' news → Q .next { s with heap := h', toks := tk }) :
    wpAny (model P0 w) A (exec (lawB 4) (lawE L)) Q (fun _ _ => False) s := by
  conv in (exec _ _) => arg 1; whnf
  repeat' (walk_at "wd")
  rename_i hA FA NA
  exact h _ _ _ FA NA
set_option maxHeartbeats 1000000 in
theorem law_s5 {w : World} {mg mb : Str → Option Value} {A : Around} {s : Shared} {Q : Flow → Shared → Prop} {L : Addr} {h₀ : Heap} {m : Str → Option Value} {news : List (Addr × Obj)} {P : List Nat} {t1 : Tok} (X : Std w mg mb h₀) (hd : A.depth + 300 < recursionLimit) (hh : A.handled = none)
    (F : Fr h₀ L s.heap m) (N : News h₀ L s.heap news) (hl : P.length ≤ 12) (m1 : m (Str.ofString "turned") = some (.str (tx P) t1))
    (h : ∀ h' tk t1, Fr h₀ L h' (fun y => if y = Str.ofString "back" then some (.int (rk P).1 t1) else m y) → News h₀ L h' news → Q .next { s with heap := h', toks := tk }) :
    wpAny (model P0 w) A (exec (lawB 5) (lawE L)) Q (fun _ _ => False) s := by
  have XF := X.fr F
  conv in (exec _ _) => arg 1; whnf
  repeat' (walk_at "wd")
  refine callWith_F (fnK XF rfl) ?_
  repeat' (walk_at "wd")
  · exact fnK XF rfl
  refine C_place XF (by omega) hh (by omega) (fun D h2 tk2 t1 t2 e2 hD hD2 => ?_)
  have F2 := Fr.ext F e2
  have N2 := News.add (News.ext N e2) F hD hD2
  clear F N
  repeat' (walk_at "wd")
  refine item_tupR (k := 0) (j := 0) (x := .int (rk P).1 t1) (News.isTup N2 (.head _)) (by decide) (by decide) rfl rfl ?_
  repeat' (walk_at "wd")
  rename_i hA FA NA
  exact h _ _ t1 FA (fun p hp => NA p (.tail _ hp))
set_option maxHeartbeats 1000000 in
theorem law_s6 {w : World} {mg mb : Str → Option Value} {A : Around} {s : Shared} {Q : Flow → Shared → Prop} {L : Addr} {h₀ : Heap} {m : Str → Option Value} {news : List (Addr × Obj)} {P : List Nat} {t1 : Tok} (X : Std w mg mb h₀) (hd : A.depth + 300 < recursionLimit) (hh : A.handled = none)
    (F : Fr h₀ L s.heap m) (N : News h₀ L s.heap news) (hl : P.length ≤ 12) (m1 : m (Str.ofString "text") = some (.str (tx P) t1))
    (h : ∀ h' tk t1, Fr h₀ L h' (fun y => if y = Str.ofString "blanks" then some (.int (P.count 32 : Nat) t1) else m y) → News h₀ L h' news → Q .next { s with heap := h', toks := tk }) :
    wpAny (model P0 w) A (exec (lawB 6) (lawE L)) Q (fun _ _ => False) s := by
  have XF := X.fr F
  conv in (exec _ _) => arg 1; whnf
  repeat' (walk_at "wd")
  refine comp_T (p := fun (c : Nat) => decide (c = 32)) (G := fun (c : Nat) => [c]) hh rfl (by decide +kernel) rfl (by decide +kernel) rfl ?_
  refine ld F (by walk_at "lk") ?_
  refine ⟨_, _, rfl, by omega, ?_, ?_, ?_⟩
  · intro C c tc s₃ m₃ E' hc hC hn hm he
    have X₃ := XF.keeps he
    refine wpAny_tests_one ?_
    walk1
    walk1
    refine nameE_G X₃ (by rfl) ?_ rfl rfl rfl
    try dsimp only
    refine callWith_F (fnK X₃ rfl) ?_
    walk1
    refine wpAny_Name (wpAny_loadName_local rfl rfl hn hm ?_) (by decide)
    walk1
    refine ⟨fnK X₃ rfl, ?_⟩
    rw [tx_one]
    refine C_c11 X₃ (by omega) hh (fun h' tk' e' => ?_)
    walk1
    exact ⟨rfl, _, _, rfl, e'⟩
  · intro C c tc s₃ m₃ E' hc hpc hC hn hm he
    exact wpAny_Name (wpAny_loadName_local rfl rfl hn hm ⟨⟨_, rfl⟩, _, _, rfl, fun _ _ e => e⟩) (by decide)
  · intro D h' tk' ys hD hpl hys he
    have F2 := Fr.ext F he
    have N2 := News.ext N he
    clear F N
    have hlen : ys.length = P.count 32 := by
      rw [hys.length, List.length_map, ← List.countP_eq_length_filter, List.count]
      exact List.countP_congr (fun x _ => by simp)
    have hle := List.count_le_length (a := 32) (l := P)
    repeat' (walk_at "wd")
    refine len_D hpl (by omega) ?_
    rw [hlen]
    repeat' (walk_at "wd")
    rename_i hA FA NA
    exact h _ _ _ FA NA
theorem lead_eq {T : List Nat} (h : ∀ x ∈ T, 32 ≤ x) : aheadF (T.length : Int) ((T.count 32 : Nat) : Int) ((T.count 32 : Nat) : Int).toNat (Pn T : Int) (Wn T : Int) 0 = (lead T : Int) := by
  have := aheadF_lead (T.length : Int) ((T.count 32 : Nat) : Int) T (T.count 32) 0 1 h (by decide) (Nat.le_refl _) (by simp) (by simp)
  simpa using this
set_option maxHeartbeats 1000000 in
theorem law_s7 {w : World} {mg mb : Str → Option Value} {A : Around} {s : Shared} {Q : Flow → Shared → Prop} {L : Addr} {h₀ : Heap} {m : Str → Option Value} {news : List (Addr × Obj)} {P : List Nat} {t1 t2 t3 t4 : Tok} (X : Std w mg mb h₀) (hd : A.depth + 300 < recursionLimit) (hh : A.handled = none)
    (F : Fr h₀ L s.heap m) (N : News h₀ L s.heap news) (hl : P.length ≤ 12) (hb : ∀ x ∈ P, 32 ≤ x) (m1 : m (Str.ofString "text") = some (.str (tx P) t1)) (m2 : m (Str.ofString "place") = some (.int (Pn P) t2)) (m3 : m (Str.ofString "ways") = some (.int (Wn P) t3)) (m4 : m (Str.ofString "blanks") = some (.int (P.count 32 : Nat) t4))
    (h : ∀ h' tk t1, Fr h₀ L h' (fun y => if y = Str.ofString "ahead" then some (.int (lead P) t1) else m y) → News h₀ L h' news → Q .next { s with heap := h', toks := tk }) :
    wpAny (model P0 w) A (exec (lawB 7) (lawE L)) Q (fun _ _ => False) s := by
  have XF := X.fr F
  have hle := List.count_le_length (a := 32) (l := P)
  conv in (exec _ _) => arg 1; whnf
  repeat' (walk_at "wd")
  refine callWith_F (fnK XF rfl) ?_
  repeat' (walk_at "wd")
  · exact fnK XF rfl
  refine C_ahead XF (by omega) ⟨by omega, by omega⟩ ⟨by omega, by omega⟩ (fun h2 tk2 t2 e2 => ?_)
  have F2 := Fr.ext F e2
  have N2 := News.ext N e2
  clear F N
  rw [lead_eq hb]
  repeat' (walk_at "wd")
  rename_i hA FA NA
  exact h _ _ t2 FA NA
set_option maxHeartbeats 1000000 in
theorem law_s8 {w : World} {mg mb : Str → Option Value} {A : Around} {s : Shared} {Q : Flow → Shared → Prop} {L : Addr} {h₀ : Heap} {m : Str → Option Value} {news : List (Addr × Obj)} {P : List Nat} {t1 t2 t3 t4 : Tok} (X : Std w mg mb h₀) (hd : A.depth + 300 < recursionLimit) (hh : A.handled = none)
    (F : Fr h₀ L s.heap m) (N : News h₀ L s.heap news) (hl : P.length ≤ 12) (hb : ∀ x ∈ P, 32 ≤ x) (m1 : m (Str.ofString "text") = some (.str (tx P) t1)) (m2 : m (Str.ofString "back") = some (.int (Pn P.reverse) t2)) (m3 : m (Str.ofString "ways") = some (.int (Wn P) t3)) (m4 : m (Str.ofString "blanks") = some (.int (P.count 32 : Nat) t4))
    (h : ∀ h' tk t1, Fr h₀ L h' (fun y => if y = Str.ofString "behind" then some (.int (lead P.reverse) t1) else m y) → News h₀ L h' news → Q .next { s with heap := h', toks := tk }) :
    wpAny (model P0 w) A (exec (lawB 8) (lawE L)) Q (fun _ _ => False) s := by
  have XF := X.fr F
  have hle := List.count_le_length (a := 32) (l := P)
  conv in (exec _ _) => arg 1; whnf
  repeat' (walk_at "wd")
  refine callWith_F (fnK XF rfl) ?_
  repeat' (walk_at "wd")
  · exact fnK XF rfl
  refine C_ahead XF (by omega) ⟨by omega, by omega⟩ ⟨by omega, by omega⟩ (fun h2 tk2 t2 e2 => ?_)
  have F2 := Fr.ext F e2
  have N2 := News.ext N e2
  clear F N
  have he := lead_eq (T := P.reverse) (fun x hx => hb x (List.mem_reverse.mp hx))
  rw [List.length_reverse, List.count_reverse, Wn_perm (List.reverse_perm P)] at he
  rw [he]
  repeat' (walk_at "wd")
  rename_i hA FA NA
  exact h _ _ t2 FA NA
set_option maxHeartbeats 1000000 in
theorem law_s10 {w : World} {mg mb : Str → Option Value} {A : Around} {s : Shared} {Q : Flow → Shared → Prop} {L : Addr} {h₀ : Heap} {m : Str → Option Value} {news : List (Addr × Obj)} {P : List Nat} {t1 t2 : Tok} (X : Std w mg mb h₀) (hd : A.depth + 300 < recursionLimit)
    (F : Fr h₀ L s.heap m) (N : News h₀ L s.heap news) (hl : P.length ≤ 12) (hne : ∃ x ∈ P, x ≠ 32) (m1 : m (Str.ofString "text") = some (.str (tx P) t1)) (m2 : m (Str.ofString "ahead") = some (.int (lead P) t2))
    (h : ∀ h' tk t1, Fr h₀ L h' (fun y => if y = Str.ofString "bare" then some (.str (tx (P.drop (lead P))) t1) else m y) → News h₀ L h' news → Q .next { s with heap := h', toks := tk }) :
    wpAny (model P0 w) A (exec (lawB 10) (lawE L)) Q (fun _ _ => False) s := by
  have XF := X.fr F
  have hlt := lead_lt hne
  have hlr : lead P.reverse < P.length := by
    have := lead_lt (l := P.reverse) (by obtain ⟨x, hx, hn⟩ := hne; exact ⟨x, List.mem_reverse.mpr hx, hn⟩)
    rwa [List.length_reverse] at this
  conv in (exec _ _) => arg 1; whnf
  repeat' (walk_at "wd")
  refine callWith_F (fnK XF rfl) ?_
  repeat' (walk_at "wd")
  · exact fnK XF rfl
  refine C_strip (f := lead P) (t := lead P.reverse) XF (by omega) ⟨by omega, by omega⟩ (by omega) hlt hlr (lead_head P) (lead_stop P) (fun k hk => ?_) (fun c hc => ?_) (fun h2 tk2 t2 e2 => ?_)
  · have := lead_head P.reverse k hk
    rwa [List.getElem?_reverse (by omega)] at this
  · refine lead_stop P.reverse c ?_
    rwa [List.getElem?_reverse (by omega)]
  have F2 := Fr.ext F e2
  have N2 := News.ext N e2
  clear F N
  have he : (P.drop (min (lead P : Int) (lead P : Int)).toNat).take ((P.length : Int) - min ((lead P : Int) - min (lead P : Int) (lead P : Int)) (lead P.reverse : Int) - min (lead P : Int) (lead P : Int)).toNat = P.drop (lead P) := by
    rw [show (min (lead P : Int) (lead P : Int)).toNat = lead P by omega, List.take_of_length_le]
    rw [List.length_drop]; omega
  rw [he]
  repeat' (walk_at "wd")
  rename_i hA FA NA
  exact h _ _ t2 FA NA
set_option maxHeartbeats 1000000 in
theorem law_s9 {w : World} {mg mb : Str → Option Value} {A : Around} {s : Shared} {Q : Flow → Shared → Prop} {L : Addr} {h₀ : Heap} {m : Str → Option Value} {news : List (Addr × Obj)} {P : List Nat} {t1 t2 t3 : Tok} (X : Std w mg mb h₀) (hd : A.depth + 300 < recursionLimit) (hh : A.handled = none)
    (F : Fr h₀ L s.heap m) (N : News h₀ L s.heap news) (hl : P.length ≤ 12) (hne : ∃ x ∈ P, x ≠ 32) (m1 : m (Str.ofString "text") = some (.str (tx P) t1)) (m2 : m (Str.ofString "ahead") = some (.int (lead P) t2)) (m3 : m (Str.ofString "behind") = some (.int (lead P.reverse) t3))
    (h : ∀ h' tk m', Fr h₀ L h' m' → News h₀ L h' news → (∀ y, y ≠ Str.ofString "amount" → y ≠ Str.ofString "front" → y ≠ Str.ofString "end" → m' y = m y) → Q .next { s with heap := h', toks := tk }) :
    wpAny (model P0 w) A (exec (lawB 9) (lawE L)) Q (fun _ _ => False) s := by
  have hlt := lead_lt hne
  have hlr : lead P.reverse < P.length := by
    have := lead_lt (l := P.reverse) (by obtain ⟨x, hx, hn⟩ := hne; exact ⟨x, List.mem_reverse.mpr hx, hn⟩)
    rwa [List.length_reverse] at this
  conv in (exec _ _) => arg 1; whnf
  refine For_invVF F rfl rfl ?_
  repeat' (walk_at "wk")
  refine iter_rangeJ (n := P.length + 1) (fun i m' news' => news' = news ∧ ∀ y, y ≠ Str.ofString "amount" → y ≠ Str.ofString "front" → y ≠ Str.ofString "end" → m' y = m y) hh (by assumption) ?_ ?_ (by assumption) (by assumption) ?_ ?_ ?_
  · exact small_one (by omega) (by omega) (by omega) (by omega)
  · unfold Builtin.Range.rangeSize; rw [if_pos (by decide)]; split <;> omega
  · exact ⟨rfl, fun y _ _ _ => rfl⟩
  · rintro i t m₁ news₁ h₅ tk₅ own hi ha hoff ⟨rfl, mk⟩ F₅ N₅
    have ek : (0 : Int) + (i : Int) * 1 = (i : Int) := by omega
    rw [ek] at F₅
    have n1 := (mk (Str.ofString "text") (by decide) (by decide) (by decide)).trans m1
    have n2 := (mk (Str.ofString "ahead") (by decide) (by decide) (by decide)).trans m2
    have n3 := (mk (Str.ofString "behind") (by decide) (by decide) (by decide)).trans m3
    dsimp only at F₅ N₅ ⊢
    repeat' (walk_at "wd")
    have emin : ∀ a b : Int, (if b < a then b else a) = min a b := fun a b => by split <;> omega
    refine min_two_N hh (by assumption) (by assumption) (fun h₆ tk₆ F₆ N₆ => ?_)
    rw [emin]
    generalize (if (lead P : Int) < (i : Int) then t2 else t) = tf
    obtain ⟨fr, hfr⟩ : ∃ fr : Int, fr = min (i : Int) (lead P : Int) := ⟨_, rfl⟩
    rw [← hfr]
    clear F₅ N₅
    dsimp only
    repeat' (walk_at "wd")
    refine min_two_N hh (by assumption) (by assumption) (fun h₇ tk₇ F₇ N₇ => ?_)
    rw [emin]
    generalize (if (lead P.reverse : Int) < (i : Int) - fr then t3 else _) = te
    obtain ⟨en, hen⟩ : ∃ en : Int, en = min ((i : Int) - fr) (lead P.reverse : Int) := ⟨_, rfl⟩
    rw [← hen]
    clear F₆ N₆
    dsimp only
    repeat' (walk_at "wd")
    rename_i hA FA NA
    clear F₇ N₇
    have XA := X.fr FA
    refine callWith_F (fnK XA rfl) ?_
    repeat' (walk_at "wd")
    · exact fnK XA rfl
    refine C_strip (f := lead P) (t := lead P.reverse) XA (by omega) ⟨by omega, by omega⟩ (by omega) hlt hlr (lead_head P) (lead_stop P) (fun k hk => ?_) (fun c hc => ?_) (fun h8 tk8 t8 e8 => ?_)
    · have := lead_head P.reverse k hk
      rwa [List.getElem?_reverse (by omega)] at this
    · refine lead_stop P.reverse c ?_
      rwa [List.getElem?_reverse (by omega)]
    rw [← hfr, ← hen]
    have F8 := Fr.ext FA e8
    have N8 := News.ext NA e8
    clear FA NA
    have b1 : 0 ≤ fr ∧ fr ≤ (P.length : Int) - en ∧ 0 ≤ en := by omega
    dsimp only
    repeat' ((fail_if_success (with_reducible show wpAny _ _ (execs (_ :: _) _) _ _ _)); (fail_if_success (with_reducible show InvPostN _ _ _ _ _ _ _ _ _)); walk_at "wd")
    · rename_i hz
      simp at hz
    · rename_i hB FB NB _
      exact InvEndN.intro FB NB (nx := news₁) ⟨rfl, fun y y1 y2 y3 => (if_neg y3).trans ((if_neg y2).trans ((if_neg y1).trans (mk y y1 y2 y3)))⟩ rfl (fun p hp => List.mem_append_left own hp) (fun p hp => List.mem_append_right news₁ hp)
  · rintro m₁ news₁ h₅ tk₅ ⟨rfl, mk⟩ F₅ N₅
    exact h _ _ m₁ F₅ N₅ mk
set_option maxHeartbeats 1000000 in
theorem law_s11 {w : World} {mg mb : Str → Option Value} {A : Around} {s : Shared} {Q : Flow → Shared → Prop} {L : Addr} {H : Heap} {m : Str → Option Value} {tl : List (Addr × Obj)} {P : List Nat} {t1 t2 : Tok} (X : Std w mg mb (hid H)) (bm : BM mg (hid H)) (hbig : 178 ≤ L) (hd : A.depth + 300 < recursionLimit) (hh : A.handled = none)
    (F : Fr (hid H) L s.heap m) (N : News (hid H) L s.heap tl) (kT : ∀ h', (∀ b o, (hid H).get? b = some o → h'.get? b = some o) → (∀ p ∈ tl, h'.get? p.1 = some p.2) → Two h') (hl : P.length ≤ 12) (hb : ∀ x ∈ P, 32 ≤ x) (m1 : m (Str.ofString "place") = some (.int (Pn P) t1)) (m2 : m (Str.ofString "bare") = some (.str (tx (P.drop (lead P))) t2))
    (h : ∀ h' tk tl', Fr (hid H) L h' m → News (hid H) L h' tl' → (∀ h', (∀ b o, (hid H).get? b = some o → h'.get? b = some o) → (∀ p ∈ tl', h'.get? p.1 = some p.2) → Two h') → Q .next { s with heap := h', toks := tk }) :
    wpAny (model P0 w) A (exec (lawB 11) (lawE L)) Q (fun _ _ => False) s := by
  have XF := X.fr F
  have hdl : (P.drop (lead P)).length ≤ 12 := by rw [List.length_drop]; omega
  have hpb := Pn_bare hb
  generalize hbb : P.drop (lead P) = bb at *
  conv in (exec _ _) => arg 1; whnf
  repeat' (walk_at "wd")
  refine callWith_F (fnK XF rfl) ?_
  repeat' (walk_at "wd")
  refine callWith_F (fnK XF rfl) ?_
  repeat' (walk_at "wd")
  · exact fnK XF rfl
  refine C_place XF (by omega) hh (by omega) (fun D h2 tk2 t3 t4 e2 hD hD2 => ?_)
  have F2 := Fr.ext F e2
  have N2 := News.add (News.ext N e2) F hD hD2
  have X2 := X.fr F2
  clear F N
  repeat' (walk_at "wd")
  refine item_tupR (k := 1) (j := 1) (x := .int (rk bb).2 t4) (News.isTup N2 (.head _)) (by decide) (by decide) rfl rfl ?_
  repeat' (walk_at "wd")
  · exact fnK X2 rfl
  have T2 := kT _ F2.keep (fun p hp => (N2 p (.tail _ hp)).1)
  rw [show (rk bb).2 = (Wn bb : Int) by rw [rk_eq], ← hpb, show (Pn bb : Int) = (Pn bb : Int) - 0 * Wn bb by omega]
  refine C_read (tg := bb) (sg := bb) (e := 0) (turn := -1) X2 (bm.keeps F2.keep) T2 (by omega) hh (List.Perm.refl _) hdl (.inl rfl) (.inr rfl) (fun h3 tk3 t5 e3 T3 => ?_)
  have F3 := Fr.ext2 F2 e3 hbig
  obtain ⟨tl3, N3, kT3, _⟩ := T3.ledger F3 hbig
  clear F2 N2
  dsimp only
  repeat' ((fail_if_success (with_reducible show wpAny _ _ (execs (_ :: _) _) _ _ _)); walk_at "wd")
  · exact absurd ‹(tx bb != tx bb) = true› (by simp)
  · exact h _ _ tl3 F3 N3 kT3
set_option maxHeartbeats 1000000 in
theorem law_s12 {w : World} {mg mb : Str → Option Value} {A : Around} {s : Shared} {Q : Flow → Shared → Prop} {L : Addr} {h₀ : Heap} {m : Str → Option Value} {news : List (Addr × Obj)} {P : List Nat} {t1 : Tok} (X : Std w mg mb h₀) (hd : A.depth + 300 < recursionLimit) (hh : A.handled = none)
    (F : Fr h₀ L s.heap m) (N : News h₀ L s.heap news) (hl : P.length ≤ 12) (h1 : 1 ≤ P.length) (m1 : m (Str.ofString "text") = some (.str (tx P) t1))
    (h : ∀ R h' tk t1, Aft P R → Fr h₀ L h' (fun y => if y = Str.ofString "after" then some (.str (tx R) t1) else m y) → News h₀ L h' news → Q .next { s with heap := h', toks := tk }) :
    wpAny (model P0 w) A (exec (lawB 12) (lawE L)) Q (fun _ _ => False) s := by
  have XF := X.fr F
  conv in (exec _ _) => arg 1; whnf
  repeat' (walk_at "wd")
  refine callWith_F (fnK XF rfl) ?_
  repeat' (walk_at "wd")
  · exact fnK XF rfl
  refine C_after XF (by omega) hh (by omega) h1 (fun h2 tk2 t2 R hR e2 => ?_)
  have F2 := Fr.ext F e2
  have N2 := News.ext N e2
  clear F N
  repeat' (walk_at "wd")
  rename_i hA FA NA
  exact h R _ _ t2 hR FA NA
set_option maxHeartbeats 1000000 in
theorem law_s13 {w : World} {mg mb : Str → Option Value} {A : Around} {s : Shared} {Q : Flow → Shared → Prop} {L : Addr} {H : Heap} {m : Str → Option Value} {tl : List (Addr × Obj)} {P R : List Nat} {t1 t2 t3 t4 : Tok} (X : Std w mg mb (hid H)) (bm : BM mg (hid H)) (hbig : 178 ≤ L) (hd : A.depth + 300 < recursionLimit) (hh : A.handled = none)
    (F : Fr (hid H) L s.heap m) (N : News (hid H) L s.heap tl) (kT : ∀ h', (∀ b o, (hid H).get? b = some o → h'.get? b = some o) → (∀ p ∈ tl, h'.get? p.1 = some p.2) → Two h') (hl : P.length ≤ 12) (hR : After P R) (m1 : m (Str.ofString "place") = some (.int (Pn P) t1)) (m2 : m (Str.ofString "ways") = some (.int (Wn P) t2)) (m3 : m (Str.ofString "text") = some (.str (tx P) t3)) (m4 : m (Str.ofString "after") = some (.str (tx R) t4))
    (h : ∀ h' tk tl', Fr (hid H) L h' m → News (hid H) L h' tl' → (∀ h', (∀ b o, (hid H).get? b = some o → h'.get? b = some o) → (∀ p ∈ tl', h'.get? p.1 = some p.2) → Two h') → Q .next { s with heap := h', toks := tk }) :
    wpAny (model P0 w) A (exec (lawB 13) (lawE L)) Q (fun _ _ => False) s := by
  have XF := X.fr F
  have hp := hR.perm
  have hpl := hR.place
  have hW := Wn_perm hp
  have hlt := Pn_lt P
  obtain ⟨e, he, hev⟩ : ∃ e : Int, (e = 0 ∨ e = 1) ∧ (Pn P : Int) + 1 - Wn P = (Pn R : Int) - e * Wn R := by
    by_cases hc : Pn P + 1 < Wn P
    · rw [Nat.mod_eq_of_lt hc] at hpl
      exact ⟨1, .inr rfl, by rw [hpl, hW]; omega⟩
    · have : Pn P + 1 = Wn P := by omega
      rw [this, Nat.mod_self] at hpl
      exact ⟨0, .inl rfl, by rw [hpl]; omega⟩
  conv in (exec _ _) => arg 1; whnf
  repeat' (walk_at "wd")
  refine callWith_F (fnK XF rfl) ?_
  repeat' (walk_at "wd")
  · exact fnK XF rfl
  have T2 := kT _ F.keep (fun p hp => (N p hp).1)
  rw [hev, ← hW]
  refine C_read (tg := R) (sg := P) (e := e) (turn := 1) XF (bm.keeps F.keep) T2 (by omega) hh hp (by rw [hp.length_eq]; exact hl) he (.inl rfl) (fun h3 tk3 t5 e3 T3 => ?_)
  have F3 := Fr.ext2 F e3 hbig
  obtain ⟨tl3, N3, kT3, _⟩ := T3.ledger F3 hbig
  clear F N
  dsimp only
  repeat' ((fail_if_success (with_reducible show wpAny _ _ (execs (_ :: _) _) _ _ _)); walk_at "wd")
  · exact absurd ‹(tx R != tx R) = true› (by simp)
  · exact h _ _ tl3 F3 N3 kT3
theorem nl_tri : ∀ l r : List Nat, l < r ∨ l = r ∨ r < l
  | [], [] => Or.inr (Or.inl rfl)
  | [], _ :: _ => Or.inl (List.nil_lt_cons _ _)
  | _ :: _, [] => Or.inr (Or.inr (List.nil_lt_cons _ _))
  | a :: as, b :: bs => by
    rcases Nat.lt_trichotomy a b with h | h | h
    · exact Or.inl (List.cons_lt_cons_iff.2 (Or.inl h))
    · subst h
      rcases nl_tri as bs with g | g | g
      · exact Or.inl (List.cons_lt_cons_iff.2 (Or.inr ⟨rfl, g⟩))
      · exact Or.inr (Or.inl (by rw [g]))
      · exact Or.inr (Or.inr (List.cons_lt_cons_iff.2 (Or.inr ⟨rfl, g⟩)))
    · exact Or.inr (Or.inr (List.cons_lt_cons_iff.2 (Or.inl h)))
theorem place_lt {l r : List Nat} (p : l.Perm r) : (l < r) ↔ (Pn l : Int) < Pn r := by
  constructor
  · intro h
    have := Pn_mono p h
    omega
  · intro h
    rcases nl_tri l r with h1 | h1 | h1
    · exact h1
    · rw [h1] at h; omega
    · have := Pn_mono p.symm h1; omega
noncomputable def collBody : List Stmt := match lawB 15 with
  | .For _ _ b _ _ => (match b with
    | [.For _ _ c _ _] => c
    | _ => [])
  | _ => []
set_option maxHeartbeats 1000000 in
theorem T_coll {w : World} {mg mb : Str → Option Value} {A : Around} {s : Shared} {Q : Flow → Shared → Prop} {L : Addr} {h₀ : Heap} {m : Str → Option Value} {news : List (Addr × Obj)} {l r : List Nat} {t1 t2 t3 t4 : Tok} (X : Std w mg mb h₀) (hd : A.depth + 300 < recursionLimit) (hh : A.handled = none)
    (F : Fr h₀ L s.heap m) (N : News h₀ L s.heap news) (hp : l.Perm r) (m1 : m (Str.ofString "one") = some (.str (tx l) t1)) (m2 : m (Str.ofString "here") = some (.int (Pn l) t2)) (m3 : m (Str.ofString "other") = some (.str (tx r) t3)) (m4 : m (Str.ofString "there") = some (.int (Pn r) t4))
    (h : ∀ h' tk v, Fr h₀ L h' (fun y => if y = Str.ofString "told" then some v else m y) → News h₀ L h' news → Q .next { s with heap := h', toks := tk }) :
    wpAny (model P0 w) A (execs collBody (lawE L)) Q (fun _ _ => False) s := by
  have XF := X.fr F
  conv in (execs _ _) => arg 1; whnf
  refine wpAny_execs_cons ?_
  repeat' ((fail_if_success (with_reducible show wpAny _ _ (execs (_ :: _) _) _ _ _)); walk_at "wd")
  refine callWith_F (fnK XF rfl) ?_
  repeat' (walk_at "wd")
  · exact fnK XF rfl
  refine C_strcoll XF (by omega) hh (fun h2 tk2 t2 e2 => ?_)
  have F2 := Fr.ext F e2
  have N2 := News.ext N e2
  clear F N
  repeat' ((fail_if_success (with_reducible show wpAny _ _ (execs (_ :: _) _) _ _ _)); walk_at "wd")
  refine wpAny_execs_cons ?_
  repeat' ((fail_if_success (with_reducible show wpAny _ _ (execs (_ :: _) _) _ _ _)); walk_at "wd")
  · rename_i hne
    exact absurd (by rw [tx_cps, tx_cps, decide_eq_decide.2 (place_lt hp), decide_eq_decide.2 (place_lt hp.symm)]) hne
  · rename_i hA FA NA _ _ _
    exact h _ _ _ FA NA
/-- the row of three pairs in the ledger -/
def rowN (D T1 T2 T3 : Addr) (v1 v2 v3 : Array Value) : List (Addr × Obj) :=
  [(D, { cls := .type "list", data := .seq #[.ref T1, .ref T2, .ref T3] }), (T3, { cls := .type "tuple", data := .seq v3 }),
   (T2, { cls := .type "tuple", data := .seq v2 }), (T1, { cls := .type "tuple", data := .seq v1 })]
set_option maxHeartbeats 1000000 in
theorem law_s14 {w : World} {mg mb : Str → Option Value} {A : Around} {s : Shared} {Q : Flow → Shared → Prop} {L : Addr} {h₀ : Heap} {m : Str → Option Value} {news : List (Addr × Obj)} {P R : List Nat} {t1 t2 t3 t4 t5 t6 : Tok} (X : Std w mg mb h₀) (hh : A.handled = none)
    (F : Fr h₀ L s.heap m) (N : News h₀ L s.heap news) (m1 : m (Str.ofString "text") = some (.str (tx P) t1)) (m2 : m (Str.ofString "place") = some (.int (Pn P) t2)) (m3 : m (Str.ofString "after") = some (.str (tx R) t3)) (m4 : m (Str.ofString "ways") = some (.int (Wn P) t4)) (m5 : m (Str.ofString "turned") = some (.str (tx P.reverse) t5)) (m6 : m (Str.ofString "back") = some (.int (Pn P.reverse) t6))
    (hR : After P R)
    (h : ∀ h' tk D T1 T2 T3 t, Fr h₀ L h' (fun y => if y = Str.ofString "row" then some (.ref D) else m y) → News h₀ L h' (rowN D T1 T2 T3 #[.str (tx P) t1, .int (Pn P) t2] #[.str (tx R) t3, .int (Pn R) t] #[.str (tx P.reverse) t5, .int (Pn P.reverse) t6] ++ news) → Q .next { s with heap := h', toks := tk }) :
    wpAny (model P0 w) A (exec (lawB 14) (lawE L)) Q (fun _ _ => False) s := by
  have hW0 := Wn_pos P
  have hpl := hR.place
  conv in (exec _ _) => arg 1; whnf
  repeat' (walk_at "wd")
  · rename_i FA NA
    have hfm : ((Pn P : Int) + 1).fmod (Wn P) = (Pn R : Int) := by
      rw [hpl, Int.fmod_eq_emod_of_nonneg _ (by omega)]; rfl
    rw [hfm] at NA
    exact h _ _ _ _ _ _ _ FA NA
/-- a cell of the row -/
def RowOk (P : List Nat) (nw : List (Addr × Obj)) (v : Value) : Prop :=
  ∃ a o l t u, v = .ref a ∧ (a, o) ∈ nw ∧ o.cls = .type "tuple" ∧ (∃ n, o.data = .seq #[.str (tx l) t, .int (Pn l) u] n) ∧ l.Perm P
theorem RowOk.sub {P : List Nat} {nw nw' : List (Addr × Obj)} {v : Value} (h : RowOk P nw v) (hs : ∀ p ∈ nw, p ∈ nw') : RowOk P nw' v := by
  obtain ⟨a, o, l, t, u, e, hm, r⟩ := h
  exact ⟨a, o, l, t, u, e, hs _ hm, r⟩
section
variable {prog : Program} {w : World} {A : Around} {E : Value → Shared → Prop} {s : Shared} {env : Env} {h₀ : Heap} {target : Expr} {body : List Stmt} {Q : Flow → Shared → Prop}
/-- a loop over a list in the ledger; the ledger stays as it was -/
theorem turns_row {D : Addr} {lo : Obj} {vs : List Value} {n : Nat} {m₀ : Str → Option Value} {news : List (Addr × Obj)} (J : (Str → Option Value) → Prop)
    (hh : A.handled = none) (F : Fr h₀ env.locals s.heap m₀) (N : News h₀ env.locals s.heap news) (hm : (D, lo) ∈ news) (hc : lo.cls = .type "list") (hd : lo.data = .seq vs.toArray n) (hJ : J m₀)
    (turn : ∀ v m₁ h tk own, v ∈ vs → J m₁ → Fr h₀ env.locals h m₁ → News h₀ env.locals h (own ++ news) →
      wpAny (model prog w) A (assign target env v) (fun _ s₃ => wpAny (model prog w) A (execs body env)
        (fun f s₄ => f = .next ∧ ∃ h' tk' m', s₄ = { s with heap := h', toks := tk' } ∧ Fr h₀ env.locals h' m' ∧ News h₀ env.locals h' (own ++ news) ∧ J m') E s₃) E { s with heap := h, toks := tk })
    (done : ∀ m₁ h tk, J m₁ → Fr h₀ env.locals h m₁ → News h₀ env.locals h news → Q .next { s with heap := h, toks := tk }) :
    wpAny (model prog w) A (pyIter (.ref D)) (fun it s₂ => TurnsAt prog w A h₀ env target body Q E it s₂) E s := by
  have hax := N _ hm
  have hl : s.heap.IsList D vs.toArray := ⟨lo, hax.1, hc, n, hd⟩
  have hlt : D < s.heap.objs.size := Heap.lt_size hax.1
  have hne : D ≠ s.heap.objs.size := Nat.ne_of_lt hlt
  have hnw : ∀ p ∈ news, p.1 ∉ [s.heap.objs.size] := fun p hp hI => absurd (Heap.lt_size (N p hp).1) ((List.mem_singleton.mp hI) ▸ Nat.lt_irrefl _)
  refine wpAny_pyIter_list hl ?_
  refine ⟨_, _, _, _, _, _, _, m₀, news, fun _ m nw => nw = news ∧ J m, rfl, KTurns.ofWalks (Walks.list hh s.heap.objs.size D hne vs.toArray) (fun i v s Q E st q => letGo_listiter st.1 q), ?_, ?_, hnw, ?_, F.push _, fun p hp => ⟨Heap.get?_push_of_some _ (N p hp).1, (N p hp).2⟩, ⟨rfl, hJ⟩, ?_, ?_⟩
  · intro hI
    rcases List.mem_cons.mp hI with e | hI
    · exact absurd F.ns.lt (e ▸ Nat.lt_irrefl _)
    · exact hax.2.1 (List.mem_singleton.mp hI).symm
  · intro b hb
    rw [List.mem_singleton.mp hb]
    exact next_is_new F
  · exact ⟨⟨_, Heap.get?_push_size _ rfl, rfl, rfl⟩, hl.at fun o e => Heap.get?_push_of_some _ e⟩
  · rintro i v m₁ news₁ h₁ tk₁ own hi hP ⟨rfl, hj⟩ hnw₁ _ _ _ _ F₁ N₁
    refine wpAny_mono (turn v m₁ h₁ tk₁ own ?_ hj F₁ N₁) (fun _ s₃ h₃ => wpAny_mono h₃ (fun f s₄ h₄ => ?_) fun _ _ e => e) fun _ _ e => e
    · have hP' : vs.toArray[i]? = some v := hP
      exact List.mem_of_getElem? (by simpa using hP')
    · obtain ⟨rfl, h', tk', m', rfl, F', N', hj'⟩ := h₄
      exact LoopStepV.next (LoopStepU.intro F' N' hnw ⟨rfl, hj'⟩)
  · rintro h' tk m' news' F' N' _ ⟨rfl, hj⟩
    exact done m' h' tk hj F' N'
end
noncomputable def rowFor : Expr × List Stmt := match lawB 15 with
  | .For t _ b _ _ => (t, b)
  | _ => (.Name (Str.ofString "a") default, [])
set_option maxHeartbeats 1000000 in
theorem T_unp1 {w : World} {A : Around} {s : Shared} {Q : Unit → Shared → Prop} {L : Addr} {h₀ : Heap} {m : Str → Option Value} {nw : List (Addr × Obj)} {a : Addr} {o : Obj} {n : Nat} {v1 v2 : Value} {k : Nat} {p1 p2 p3 : Pos} (hh : A.handled = none)
    (F : Fr h₀ L s.heap m) (N : News h₀ L s.heap nw) (hm : (a, o) ∈ nw) (hc : o.cls = .type "tuple") (hd : o.data = .seq #[v1, v2] n)
    (h : ∀ h' tk, Fr h₀ L h' (fun z => if z = Str.ofString "here" then some v2 else if z = Str.ofString "one" then some v1 else m z) → News h₀ L h' nw → Q () { s with heap := h', toks := tk }) :
    wpAny (model P0 w) A (assign (.Tuple [.Name (Str.ofString "one") p1, .Name (Str.ofString "here") p2] k p3) (lawE L) (.ref a)) Q (fun _ _ => False) s := by
  refine unpackN_ F N ⟨o, (N _ hm).1, hc, n, hd⟩ hh rfl rfl (fun h1 F1 N1 => ?_)
  clear F N
  refine assignInOrder_cons (assign_Name (stN F1 N1 (fun h2 F2 N2 => assignInOrder_cons (assign_Name (stN F2 N2 (fun h3 F3 N3 => assignInOrder_nil (h _ _ F3 N3)) (by rfl) (by rfl)))) (by rfl) (by rfl)))
set_option maxHeartbeats 1000000 in
theorem T_unp2 {w : World} {A : Around} {s : Shared} {Q : Unit → Shared → Prop} {L : Addr} {h₀ : Heap} {m : Str → Option Value} {nw : List (Addr × Obj)} {a : Addr} {o : Obj} {n : Nat} {v1 v2 : Value} {k : Nat} {p1 p2 p3 : Pos} (hh : A.handled = none)
    (F : Fr h₀ L s.heap m) (N : News h₀ L s.heap nw) (hm : (a, o) ∈ nw) (hc : o.cls = .type "tuple") (hd : o.data = .seq #[v1, v2] n)
    (h : ∀ h' tk, Fr h₀ L h' (fun z => if z = Str.ofString "there" then some v2 else if z = Str.ofString "other" then some v1 else m z) → News h₀ L h' nw → Q () { s with heap := h', toks := tk }) :
    wpAny (model P0 w) A (assign (.Tuple [.Name (Str.ofString "other") p1, .Name (Str.ofString "there") p2] k p3) (lawE L) (.ref a)) Q (fun _ _ => False) s := by
  refine unpackN_ F N ⟨o, (N _ hm).1, hc, n, hd⟩ hh rfl rfl (fun h1 F1 N1 => ?_)
  clear F N
  refine assignInOrder_cons (assign_Name (stN F1 N1 (fun h2 F2 N2 => assignInOrder_cons (assign_Name (stN F2 N2 (fun h3 F3 N3 => assignInOrder_nil (h _ _ F3 N3)) (by rfl) (by rfl)))) (by rfl) (by rfl)))
set_option maxHeartbeats 1000000 in
theorem law_s15 {w : World} {mg mb : Str → Option Value} {A : Around} {s : Shared} {Q : Flow → Shared → Prop} {L : Addr} {h₀ : Heap} {m : Str → Option Value} {nw : List (Addr × Obj)} {P : List Nat} {D : Addr} {lo : Obj} {vs : List Value} {n : Nat} (X : Std w mg mb h₀) (hd : A.depth + 300 < recursionLimit) (hh : A.handled = none)
    (F : Fr h₀ L s.heap m) (N : News h₀ L s.heap nw) (hm : (D, lo) ∈ nw) (hc : lo.cls = .type "list") (hl : lo.data = .seq vs.toArray n) (hv : ∀ v ∈ vs, RowOk P nw v) (m1 : m (Str.ofString "row") = some (.ref D))
    (h : ∀ h' tk m', Fr h₀ L h' m' → News h₀ L h' nw → Q .next { s with heap := h', toks := tk }) :
    wpAny (model P0 w) A (exec (lawB 15) (lawE L)) Q (fun _ _ => False) s := by
  conv in (exec _ _) => arg 1; whnf
  refine For_turns F ?_
  repeat' (walk_at "wd")
  refine turns_row (fun m => m (Str.ofString "row") = some (.ref D)) hh F N hm hc hl m1 ?_ (fun m1 h1 tk1 _ F1 N1 => h h1 tk1 m1 F1 N1)
  intro v m1' h1 tk1 own hvm mrow F1 N1
  obtain ⟨a1, o1, l1, t1, u1, rfl, ha1, hc1, ⟨n1, hd1⟩, hp1⟩ := hv v hvm
  clear F N
  refine T_unp1 hh F1 N1 (List.mem_append_right _ ha1) hc1 hd1 (fun h2 tk2 F2 N2 => ?_)
  clear F1 N1
  refine wpAny_execs_cons ?_
  refine For_turns F2 ?_
  repeat' ((fail_if_success (with_reducible show wpAny _ _ (execs (_ :: _) _) _ _ _)); walk_at "wd")
  refine turns_row (fun m => m (Str.ofString "row") = some (.ref D) ∧ m (Str.ofString "one") = some (.str (tx l1) t1) ∧ m (Str.ofString "here") = some (.int (Pn l1) u1)) hh F2 N2 (List.mem_append_right _ hm) hc hl ⟨mrow, rfl, rfl⟩ ?_ (fun m1 h1 tk1 hj F1 N1 => wpAny_execs_nil ⟨rfl, h1, tk1, m1, rfl, F1, N1, hj.1⟩)
  rintro v m3 h3 tk3 own' hvm' ⟨hr3, ho3, hh3⟩ F3 N3
  obtain ⟨a2, o2, l2, t2, u2, rfl, ha2, hc2, ⟨n2, hd2⟩, hp2⟩ := hv v hvm'
  clear F2 N2
  refine T_unp2 hh F3 N3 (List.mem_append_right _ (List.mem_append_right _ ha2)) hc2 hd2 (fun h4 tk4 F4 N4 => ?_)
  clear F3 N3
  refine T_coll (t1 := t1) (t2 := u1) (t3 := t2) (t4 := u2) X hd hh F4 N4 (hp1.trans hp2.symm) ?_ ?_ ?_ ?_ (fun h5 tk5 v5 F5 N5 => ⟨rfl, _, _, _, rfl, F5, N5, ?_, ?_, ?_⟩)
  all_goals (walk_at "lk")
theorem law_s16 {w : World} {A : Around} {s : Shared} {Q : Flow → Shared → Prop} {L : Addr} 
    (h : Q (.ret (.bool true)) s) :
    wpAny (model P0 w) A (exec (lawB 16) (lawE L)) Q (fun _ _ => False) s := by
  conv in (exec _ _) => arg 1; whnf
  repeat' (walk_at "wd")
  all_goals exact h
set_option maxHeartbeats 1000000 in
theorem C_law {w : World} {mg mb : Str → Option Value} {A : Around} {s : Shared} {Q E : Value → Shared → Prop} {a : Addr} {vs : List Value} {ns : List Int} (X : Std w mg mb s.heap) (bm : BM mg s.heap) (T : Two s.heap) (hd : A.depth + 301 < recursionLimit) (hh : A.handled = none)
    (hl : (hid s.heap).IsList a vs.toArray) (hi : IntsAre vs ns) (hn : vs.length ≤ 1000)
    (h : ∀ h' tk, Ext2 s.heap h' → Two h' → Q (.bool true) { s with heap := h', toks := tk }) :
    wpAny (model P0 w) A (call (.ref 177) [.ref a]) Q E s := by
  refine call_fn 23 (binds := [(Str.ofString "script", .ref a)]) X (by omega) rfl rfl rfl rfl rfl rfl (locs (by rfl)) (fun h₁ F => ?_)
  have hbig : 178 ≤ s.heap.objs.size := Heap.lt_size (X.K 177 _ rfl)
  have Xh := X.hid
  have bmh := bm.hid T
  have T₁ := T.keeps F.keep
  replace F := Fr.hide F [44, 51]
  obtain ⟨tl, N, kT, fT⟩ := T₁.ledger F hbig
  clear T₁ fT
  have hd' : (A.deeper (envOf (Str.ofString "law") (scOf 23) s.heap.objs.size 177 (.ref 176))).depth + 300 < recursionLimit := by show A.depth + 1 + 300 < _; omega
  have hb : bodyOf 23 = [lawB 0, lawB 1, lawB 2, lawB 3, lawB 4, lawB 5, lawB 6, lawB 7, lawB 8, lawB 9, lawB 10, lawB 11, lawB 12, lawB 13, lawB 14, lawB 15, lawB 16] := by rfl
  rw [hb]
  refine wpAny_execs_cons ?_
  refine law_s0 (news := tl) Xh hd' hh F N hl hi hn rfl (fun TT P h2 tk2 t1 t2 m2 G F2 N2 m21 m22 => ?_)
  clear F N
  have lp : P.length ≤ 12 := G.lp
  have hb32 : ∀ x ∈ P, 32 ≤ x := fun x hx => by have := G.signs x hx; omega
  have h105 : 105 ∈ P := G.letter (by decide)
  have hne : ∃ x ∈ P, x ≠ 32 := ⟨105, h105, by decide⟩
  have hl1 : 1 ≤ P.length := List.length_pos_of_mem h105
  refine wpAny_execs_cons ?_
  refine law_s1 Xh hd' hh F2 N2 G m21 (fun h3 tk3 t3 F3 N3 => ?_)
  clear F2 N2
  refine wpAny_execs_cons ?_
  refine law_s2 (P := P) (t1 := t3) (t2 := t2) Xh F3 N3 (by walk_at "lk") (by walk_at "lk") (fun tk4 => ?_)
  refine wpAny_execs_cons ?_
  refine law_s3 (P := P) (t1 := t3) Xh hd' hh F3 N3 lp (by walk_at "lk") (fun h5 tk5 u1 u2 F5 N5 => ?_)
  clear F3 N3
  rw [rk_eq] at F5
  refine wpAny_execs_cons ?_
  refine law_s4 (P := P) (t1 := t3) Xh F5 N5 lp (by walk_at "lk") (fun h6 tk6 u3 F6 N6 => ?_)
  clear F5 N5
  refine wpAny_execs_cons ?_
  refine law_s5 (P := P.reverse) (t1 := u3) Xh hd' hh F6 N6 (by simpa using lp) (by walk_at "lk") (fun h7 tk7 u4 F7 N7 => ?_)
  clear F6 N6
  rw [rk_eq] at F7
  refine wpAny_execs_cons ?_
  refine law_s6 (P := P) (t1 := t3) Xh hd' hh F7 N7 lp (by walk_at "lk") (fun h8 tk8 u5 F8 N8 => ?_)
  clear F7 N7
  refine wpAny_execs_cons ?_
  refine law_s7 (P := P) (t1 := t3) (t2 := u1) (t3 := u2) (t4 := u5) Xh hd' hh F8 N8 lp hb32 (by walk_at "lk") (by walk_at "lk") (by walk_at "lk") (by walk_at "lk") (fun h9 tk9 u6 F9 N9 => ?_)
  clear F8 N8
  refine wpAny_execs_cons ?_
  refine law_s8 (P := P) (t1 := t3) (t2 := u4) (t3 := u2) (t4 := u5) Xh hd' hh F9 N9 lp hb32 (by walk_at "lk") (by walk_at "lk") (by walk_at "lk") (by walk_at "lk") (fun h10 tk10 u7 F10 N10 => ?_)
  clear F9 N9
  refine wpAny_execs_cons ?_
  refine law_s9 (P := P) (t1 := t3) (t2 := u6) (t3 := u7) Xh hd' hh F10 N10 lp hne (by walk_at "lk") (by walk_at "lk") (by walk_at "lk") (fun h11 tk11 m11 F11 N11 hm11 => ?_)
  clear F10 N10
  have k1 : m11 (Str.ofString "text") = some (.str (tx P) t3) := (hm11 _ (by decide) (by decide) (by decide)).trans (by walk_at "lk")
  have k2 : m11 (Str.ofString "place") = some (.int (Pn P) u1) := (hm11 _ (by decide) (by decide) (by decide)).trans (by walk_at "lk")
  have k3 : m11 (Str.ofString "ways") = some (.int (Wn P) u2) := (hm11 _ (by decide) (by decide) (by decide)).trans (by walk_at "lk")
  have k4 : m11 (Str.ofString "turned") = some (.str (tx P.reverse) u3) := (hm11 _ (by decide) (by decide) (by decide)).trans (by walk_at "lk")
  have k5 : m11 (Str.ofString "back") = some (.int (Pn P.reverse) u4) := (hm11 _ (by decide) (by decide) (by decide)).trans (by walk_at "lk")
  have k6 : m11 (Str.ofString "ahead") = some (.int (lead P) u6) := (hm11 _ (by decide) (by decide) (by decide)).trans (by walk_at "lk")
  clear hm11
  refine wpAny_execs_cons ?_
  refine law_s10 (P := P) (t1 := t3) (t2 := u6) Xh hd' F11 N11 lp hne k1 k6 (fun h12 tk12 u8 F12 N12 => ?_)
  clear F11 N11
  refine wpAny_execs_cons ?_
  refine law_s11 (P := P) (t1 := u1) (t2 := u8) Xh bmh hbig hd' hh F12 N12 kT lp hb32 (by walk_at "lk") (by walk_at "lk") (fun h13 tk13 tl13 F13 N13 kT13 => ?_)
  clear F12 N12 kT
  refine wpAny_execs_cons ?_
  refine law_s12 (P := P) (t1 := t3) Xh hd' hh F13 N13 lp hl1 (by walk_at "lk") (fun R h14 tk14 u9 hR F14 N14 => ?_)
  clear F13 N13
  have hA : After P R := hR
  refine wpAny_execs_cons ?_
  refine law_s13 (P := P) (R := R) (t1 := u1) (t2 := u2) (t3 := t3) (t4 := u9) Xh bmh hbig hd' hh F14 N14 kT13 lp hA (by walk_at "lk") (by walk_at "lk") (by walk_at "lk") (by walk_at "lk") (fun h15 tk15 tl15 F15 N15 kT15 => ?_)
  clear F14 N14 kT13
  refine wpAny_execs_cons ?_
  refine law_s14 (P := P) (R := R) (t1 := t3) (t2 := u1) (t3 := u9) (t4 := u2) (t5 := u3) (t6 := u4) Xh hh F15 N15 (by walk_at "lk") (by walk_at "lk") (by walk_at "lk") (by walk_at "lk") (by walk_at "lk") (by walk_at "lk") hA (fun h16 tk16 D T1 T2 T3 u10 F16 N16 => ?_)
  clear F15 N15
  refine wpAny_execs_cons ?_
  refine law_s15 (P := P) (D := D) (vs := [.ref T1, .ref T2, .ref T3]) Xh hd' hh F16 N16 (.head _) rfl rfl ?_ (by walk_at "lk") (fun h17 tk17 m17 F17 N17 => ?_)
  · intro v hv
    simp only [List.mem_cons, List.not_mem_nil, or_false] at hv
    rcases hv with rfl | rfl | rfl
    · exact ⟨_, _, P, t3, u1, rfl, .tail _ (.tail _ (.tail _ (.head _))), rfl, ⟨_, rfl⟩, .refl _⟩
    · exact ⟨_, _, R, u9, u10, rfl, .tail _ (.tail _ (.head _)), rfl, ⟨_, rfl⟩, hA.perm⟩
    · exact ⟨_, _, P.reverse, u3, u4, rfl, .tail _ (.head _), rfl, ⟨_, rfl⟩, List.reverse_perm P⟩
  clear F16 N16
  refine wpAny_execs_cons ?_
  refine law_s16 ?_
  exact h _ _ (Fr.ext2out F17) (kT15 _ F17.keep (fun p hp => (N17 p (List.mem_append_right _ hp)).1))
theorem lookup_filter (p : Addr × Obj → Bool) {l : Frag} {a : Addr} {o : Obj} (h : (l.filter p).lookup a = some o) (hp : ∀ q : Addr × Obj, q.1 = a → p q = true) : l.lookup a = some o := by
  induction l with
  | nil => cases h
  | cons q r ih =>
    obtain ⟨b, u⟩ := q
    rw [List.filter_cons] at h
    by_cases hb : a = b
    · subst hb
      rw [if_pos (hp _ rfl)] at h
      simp only [List.lookup_cons, beq_self_eq_true] at h ⊢
      exact h
    · have hne : (a == b) = false := by simpa using hb
      rw [List.lookup_cons, hne]
      split at h
      · rw [List.lookup_cons, hne] at h
        exact ih h
      · exact ih h
theorem KP_filter (P : Params) : KP P = (KF P).filter (fun q => q.1 != 44 && q.1 != 51) := by kernel_rfl
theorem KP_in {P : Params} {h : Heap} (X : (KF P).In h) : (KP P).In h := by
  intro a o e
  refine X a o ?_
  rw [KP_filter] at e
  by_cases h1 : a = 44
  · subst h1
    have : ((KF P).filter (fun q => q.1 != 44 && q.1 != 51)).lookup 44 = none := by rw [← KP_filter]; rfl
    rw [this] at e; cases e
  by_cases h2 : a = 51
  · subst h2
    have : ((KF P).filter (fun q => q.1 != 44 && q.1 != 51)).lookup 51 = none := by rw [← KP_filter]; rfl
    rw [this] at e; cases e
  exact lookup_filter _ e (fun q hq => by subst hq; simp [h1, h2])
theorem two_tab {h h' : Heap} {q : Str} {pos : Pos} {c P : Addr} (C : CodeHd h c P) (t : h.get? P = some (tabObj #[])) (T : TabAt q pos P h') :
    isCodeTable h P ∧ ∃ ps, h'.get? P = some (tabObj ps) := by
  refine ⟨(CodeHd.tab C t).isCodeTable, ?_⟩
  rcases T with h1 | ⟨c', h1, _⟩
  · exact ⟨_, h1⟩
  · exact ⟨_, h1⟩
theorem oldK0 {h h' : Heap} (c44 : CodeHd h 48 44) (c51 : CodeHd h 55 51) (t44 : h.get? 44 = some (tabObj #[])) (t51 : h.get? 51 = some (tabObj #[])) (e : Ext2 h h') (T : Two h') : OldK h h' := by
  obtain ⟨i44, p1, g44⟩ := two_tab c44 t44 T.1
  obtain ⟨i51, p2, g51⟩ := two_tab c51 t51 T.2
  refine ⟨fun b o eb => ?_, fun b o eb => ?_⟩
  · by_cases h1 : b = 44
    · subst h1
      rw [t44] at eb; cases eb
      exact .inr (.inl ⟨i44, rfl, #[], p1, rfl, by rw [Array.empty_append]; exact g44⟩)
    by_cases h2 : b = 51
    · subst h2
      rw [t51] at eb; cases eb
      exact .inr (.inl ⟨i51, rfl, #[], p2, rfl, by rw [Array.empty_append]; exact g51⟩)
    exact .inl (e b o h1 h2 eb)
  · by_cases h1 : b = 44
    · subst h1; exact ⟨_, g44⟩
    by_cases h2 : b = 51
    · subst h2; exact ⟨_, g51⟩
    exact ⟨o, e b o h1 h2 eb⟩
theorem hid_list {h : Heap} {a : Addr} {vs : Array Value} (t44 : h.get? 44 = some (tabObj #[])) (t51 : h.get? 51 = some (tabObj #[])) (hl : h.IsList a vs) : (hid h).IsList a vs := by
  obtain ⟨o, ho, hc, n, hd⟩ := hl
  refine ⟨o, hideAll_get _ ho ?_, hc, n, hd⟩
  intro hm
  simp only [List.mem_cons, List.not_mem_nil, or_false] at hm
  rcases hm with rfl | rfl
  · rw [t44] at ho; cases ho; cases hd
  · rw [t51] at ho; cases ho; cases hd
set_option maxHeartbeats 4000000 in
theorem walk0 (d : DefRec) (kwd : List (Str × Expr)) (hdef : defOf qv "law" = some (d, kwd)) : WalkO qv lv (fun _ _ => True) KH.says PySem.Challenge.rw_ul0024_01.row.toRowW d kwd fun f vs => PySem.call f vs := by
  have hdef' : defOf qv "law" = some (d, kwd) := hdef
  intro w s₀ s₁ mg mb G Y fa o pm cd doc dV kV ho hd hcd hD hmg hg args vals as hpre hlay hrd hwl hlo
  have KX : (KF w.params).In s₁.heap := kIn_of Y
  have X : Std w mg mb s₁.heap := ⟨KP_in KX, G.T.g, G.T.b, G.T.nolimit, G.T.builtins⟩
  have bm : BM mg s₁.heap := G.T.bmain
  have t44 : s₁.heap.get? 44 = some (tabObj #[]) := KX 44 _ rfl
  have t51 : s₁.heap.get? 51 = some (tabObj #[]) := KX 51 _ rfl
  have T2 : Two s₁.heap := ⟨.inl t44, .inl t51⟩
  have hdn : d.name = Str.ofString "law" := by
    have e : (defOf qv "law").map (fun p => p.1.name) = some (Str.ofString "law") := by rfl
    rw [hdef'] at e
    injection e
  have hfa : fa = 177 := by
    have e := X.glob (x := Str.ofString "law") (v := .ref 177) (by rfl)
    rw [hdn, e] at hmg
    injection hmg with e1
    injection e1 with e2
    exact e2.symm
  subst hfa
  wrow_args hpre hlay hrd hwl hlo
  rename_i hL _ _ _ hI _ hlen _
  have c44 := code49 X
  have c51 := code56 X
  refine wpAny_mono (C_law (Q := fun v s' => v = .bool true ∧ ∃ h' tk, s' = { s₁ with heap := h', toks := tk } ∧ Ext2 s₁.heap h' ∧ Two h') (E := fun _ _ => False) X bm T2 (by decide) rfl (hid_list t44 t51 hL) hI (by rw [hI.length]; omega) (fun h' tk e2 T' => ⟨rfl, h', tk, rfl, e2, T'⟩)) (fun v s' hv => ?_) (fun _ _ e => e.elim)
  obtain ⟨rfl, h', tk, rfl, e2, T'⟩ := hv
  refine ⟨.inl ⟨_, .bool true, [], rfl, fun _ => rfl, .bool true, ?_, ?_⟩, oldK0 c44 c51 t44 t51 e2 T', rfl, .of_eq hg⟩
  · wrow_post
  · intro _
    exact ⟨.nil, fun a ha => nomatch ha⟩
theorem holds1 : PySem.Challenge.rw_ul0024_01.Holds := holds0 walk0
end
end Mine
theorem PySem.Challenge.cw_ul0024_01_holds : PySem.Challenge.rw_ul0024_01.Holds := by
  exact Mine.holds1
