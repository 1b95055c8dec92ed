import PyProof.Rows.All
import Wide.All
import OpenK.AllK
import Wide.FinOn
import PySem.Challenge.RW_re0173_01
set_option Elab.async false
set_option bootstrap.genMatcherCode false
section
open PySem PySem.W PyProof.Rows
set_option Elab.async false
set_option tactic.hygienic false
namespace Mine
section
variable (p : Program) (w : World) (n₀ : Nat) (ann : Option Value)

noncomputable def Goes (N : Nat) {α : Type} (x : Sem α) (s : Shared) (pos : Pos) (a : α) (s' : Shared) (pos' : Pos) : Prop :=
  ∀ (K : α → Sem Fin) (H : Value → Sem Fin) (gd : Bool → Bool) (lv : List Value → List Value) (c : Code) (fr : Frame) (B : List Frame),
    ∃ n, n ≤ N ∧ segGo treeTable p w n₀ ann 1 n s ⟨x.wrap K H gd lv, c, pos, fr :: B⟩ = some (s', ⟨K a, c, pos', fr :: B⟩)
end
section
variable {p : Program} {w : World} {n₀ : Nat} {ann : Option Value} {α β : Type}

theorem segGo_add {tb} {b n m : Nat} {s s' s'' : Shared} {t t' t'' : Thread} (h : segGo tb p w n₀ ann b n s t = some (s', t'))
    (k : segGo tb p w n₀ ann b m s' t' = some (s'', t'')) : segGo tb p w n₀ ann b (n + m) s t = some (s'', t'') := by
  induction n generalizing s t with
  | zero =>
    obtain ⟨rfl, rfl⟩ : s = s' ∧ t = t' := by simpa [segGo] using h
    rw [Nat.zero_add]; exact k
  | succ n ih =>
    rw [show n + 1 + m = n + m + 1 by lia]
    unfold segGo at h ⊢
    cases he : endAt b t with
    | some f => rw [he] at h; cases h
    | none =>
      rw [he] at h
      cases hk : stepOk n₀ ann t with
      | false => rw [hk] at h; cases h
      | true =>
        rw [hk] at h
        cases hs : step (denote tb) p w s t with
        | halt o s₂ => rw [hs] at h; cases h
        | go s₂ t₂ => rw [hs] at h; exact ih h

theorem Goes.pure (a : α) (s : Shared) (pos : Pos) : Goes p w n₀ ann 0 (Pure.pure a : Sem α) s pos a s pos := fun zq zq zq zq zq zq zq => ⟨0, Nat.le_refl _, rfl⟩

theorem Goes.le {N N' : Nat} {m : Sem α} {s s₁ : Shared} {p₀ p₁ : Pos} {a : α} (g : Goes p w n₀ ann N m s p₀ a s₁ p₁) (h : N ≤ N') : Goes p w n₀ ann N' m s p₀ a s₁ p₁ := fun K H gd lv c fr B => by
  obtain ⟨n, h1, h2⟩ := g K H gd lv c fr B
  exact ⟨n, Nat.le_trans h1 h, h2⟩

theorem Goes.bind {N₁ N₂ : Nat} {m : Sem α} {f : α → Sem β} {s s₁ s₂ : Shared} {p₀ p₁ p₂ : Pos} {a : α} {b : β} (h : Goes p w n₀ ann N₁ m s p₀ a s₁ p₁)
    (k : Goes p w n₀ ann N₂ (f a) s₁ p₁ b s₂ p₂) : Goes p w n₀ ann (N₁ + N₂) (m >>= f) s p₀ b s₂ p₂ := fun K H gd lv c fr B => by
  rw [Sem.bind_eq_wrap', Sem.wrap_wrap]
  obtain ⟨n, ha, hn⟩ := h (fun a => (f a).wrap K H gd lv) (fun e => (Sem.raise e).wrap K H gd lv) (fun g => gd (id g)) (fun l => lv (id l)) c fr B
  obtain ⟨m, hb, hm⟩ := k K H gd lv c fr B
  exact ⟨n + m, Nat.add_le_add ha hb, segGo_add hn hm⟩

theorem Goes.onRaise {N : Nat} {m : Sem α} {h : Value → Sem Unit} {s s₁ : Shared} {p₀ p₁ : Pos} {a : α} (g : Goes p w n₀ ann N m s p₀ a s₁ p₁) :
    Goes p w n₀ ann N (m.onRaise h) s p₀ a s₁ p₁ := fun K H gd lv c fr B => by
  rw [Sem.onRaise_eq_wrap, Sem.wrap_wrap]; exact g _ _ _ _ c fr B
theorem Goes.keep {N : Nat} {m : Sem α} {vs : List Value} {s s₁ : Shared} {p₀ p₁ : Pos} {a : α} (g : Goes p w n₀ ann N m s p₀ a s₁ p₁) :
    Goes p w n₀ ann N (m.keep vs) s p₀ a s₁ p₁ := fun K H gd lv c fr B => by
  rw [Sem.keep_eq_wrap, Sem.wrap_wrap]; exact g _ _ _ _ c fr B
theorem Goes.holding {N : Nat} {m : Sem α} {vs : List Value} {s s₁ : Shared} {p₀ p₁ : Pos} {a : α} (g : Goes p w n₀ ann N m s p₀ a s₁ p₁) :
    Goes p w n₀ ann N (PySem.holding vs m) s p₀ a s₁ p₁ := by
  unfold PySem.holding; split
  · exact g
  · exact g.keep

theorem Goes.standAt {s : Shared} {pos pos' : Pos} : Goes p w n₀ ann 1 (standAt pos') s pos () s pos' := fun zq zq zq zq zq zq B => ⟨1, Nat.le_refl _, by obtain ⟨⟩ := s; cases B <;> kernel_rfl⟩
theorem Goes.rule {s : Shared} {pos : Pos} {tag : String} : Goes p w n₀ ann 1 (rule tag) s pos () s pos := fun zq zq zq zq zq zq B => ⟨1, Nat.le_refl _, by obtain ⟨⟩ := s; cases B <;> kernel_rfl⟩
theorem Goes.mkInt {s : Shared} {pos : Pos} {i : Int} : Goes p w n₀ ann 1 (mkInt i) s pos (.int i s.toks) { s with toks := s.toks + 1 } pos := fun zq zq zq zq zq zq B => ⟨1, Nat.le_refl _, by obtain ⟨⟩ := s; cases B <;> kernel_rfl⟩
theorem Goes.mkText {s : Shared} {pos : Pos} {x : Str} : Goes p w n₀ ann 1 (mkText x) s pos (.str x s.toks) { s with toks := s.toks + 1 } pos := fun zq zq zq zq zq zq B => ⟨1, Nat.le_refl _, by obtain ⟨⟩ := s; cases B <;> kernel_rfl⟩
theorem Goes.alloc {s : Shared} {pos : Pos} {o : Obj} : Goes p w n₀ ann 1 (alloc o) s pos s.heap.objs.size { s with heap := s.heap.push o } pos := fun zq zq zq zq zq zq B => ⟨1, Nat.le_refl _, by obtain ⟨⟩ := s; cases B <;> kernel_rfl⟩
theorem Goes.loadPart {s : Shared} {pos : Pos} {a : Addr} {part : Option Value} {o : Obj} (h : s.heap.get? a = some o) : Goes p w n₀ ann 1 (loadPart a part) s pos o s pos := fun K H gd lv c fr B => ⟨1, Nat.le_refl _, by
  obtain ⟨heap, gens, drawn, toks, os⟩ := s
  dsimp only at h
  have e : segGo treeTable p w n₀ ann 1 1 ⟨heap, gens, drawn, toks, os⟩ ⟨(PySem.loadPart a part).wrap K H gd lv, c, pos, fr :: B⟩ =
    (match (match heap.get? a with
      | some o => Step.go ⟨heap, gens, drawn, toks, os⟩ ⟨K o, c, pos, fr :: B⟩
      | none => .halt (.stuck (if a < heap.objs.size then "load: the object has been freed" else "load: no object at this address")) ⟨heap, gens, drawn, toks, os⟩) with
    | .go s' t' => some (s', t')
    | .halt _ _ => none) := by cases B <;> kernel_rfl
  rw [e, h]⟩
theorem Goes.load {s : Shared} {pos : Pos} {a : Addr} {o : Obj} (h : s.heap.get? a = some o) : Goes p w n₀ ann 1 (load a) s pos o s pos := Goes.loadPart h
theorem Goes.updatePart {s : Shared} {pos : Pos} {a : Addr} {part : Option Value} {f : Obj → Obj} {o : Obj} (h : s.heap.get? a = some o) (ha : n₀ ≤ a) :
    Goes p w n₀ ann 1 (updatePart a part f) s pos () { s with heap := s.heap.update a f } pos := fun K H gd lv c fr B => ⟨1, Nat.le_refl _, by
  obtain ⟨heap, gens, drawn, toks, os⟩ := s
  dsimp only at h
  have e : segGo treeTable p w n₀ ann 1 1 ⟨heap, gens, drawn, toks, os⟩ ⟨(PySem.updatePart a part f).wrap K H gd lv, c, pos, fr :: B⟩ =
    (match (true && (Nat.ble n₀ a || a == mainNs || a == cStatics || ann == some (.ref a))) with
    | false => none
    | true => (match (if (heap.get? a).isSome then Step.go ⟨heap.update a f, gens, drawn, toks, os⟩ ⟨K (), c, pos, fr :: B⟩ else .halt (.stuck "update: no object at this address, or it has been freed") ⟨heap, gens, drawn, toks, os⟩) with
      | .go s' t' => some (s', t')
      | .halt _ _ => none)) := by cases B <;> kernel_rfl
  rw [e, h, Nat.ble_eq_true_of_le ha]; rfl⟩
theorem hash_call (k : Int) (t : Tok) (refuse : Sem Value) (K H gd lv) (c : Code) (pos : Pos) (fr : Frame) (B : List Frame) (heap : Heap) (gens : Array GenState) (drawn : Drawn) (toks : Nat) (os : OsState) :
    ∀ w : World, segGo treeTable p w n₀ ann 1 5 ⟨heap, gens, drawn, toks, os⟩ ⟨(callSpecialIfBoundUnlessNone? (.int k t) "__hash__" refuse).wrap K H gd lv, c, pos, fr :: B⟩ =
      some (⟨heap, gens, drawn, toks + 1, os⟩, ⟨K (some (.int (rawHash k) toks)), c, pos, fr :: B⟩) := by
  refine byRow2 "special-get-raises" (fun w => ?_) fun w => ?_
  · cases B <;> kernel_rfl
  · cases B <;> kernel_rfl

theorem Goes.hashCall {k : Int} {t : Tok} {refuse : Sem Value} {s : Shared} {pos : Pos} :
    Goes p w n₀ ann 5 (callSpecialIfBoundUnlessNone? (.int k t) "__hash__" refuse) s pos (some (.int (rawHash k) s.toks)) { s with toks := s.toks + 1 } pos :=
  fun K H gd lv c fr B => ⟨5, Nat.le_refl _, by obtain ⟨heap, gens, drawn, toks, os⟩ := s; exact hash_call k t refuse K H gd lv c pos fr B heap gens drawn toks os w⟩

theorem specialOf_int_hash (k : Int) (t : Tok) : specialOf (.int k t) "__hash__" = pure (some (.builtin "int.__hash__")) := slot_int_hash.lookup

theorem Goes.pyHash {k : Int} {t : Tok} {s : Shared} {pos : Pos} : Goes p w n₀ ann 5 (pyHash (.int k t)) s pos (hashInt k) { s with toks := s.toks + 1 } pos := by
  refine Goes.le ?_ (Nat.le_refl (0 + (0 + (0 + (5 + 0)))))
  have hr := rawHash_range k
  unfold PySem.pyHash
  have hv : [Value.int k t].any Value.onHeap = false := rfl
  refine Goes.bind (a := ()) (s₁ := s) (p₁ := pos) ?_ ?_
  · rw [cRoomFor, if_neg (by rw [hv]; exact Bool.false_ne_true)]; exact Goes.pure _ _ _
  refine Goes.bind (a := some (.builtin "int.__hash__")) (s₁ := s) (p₁ := pos) (by rw [specialOf_int_hash]; exact Goes.pure _ _ _) ?_
  show Goes _ _ _ _ _ (if (some (Value.builtin "int.__hash__") == some Value.none) = true then _ else _) _ _ _ _ _
  rw [if_neg (by rw [beq_builtin_none]; exact Bool.false_ne_true)]
  refine Goes.bind (a := some (.builtin "int.__hash__")) (s₁ := s) (p₁ := pos) (by rw [specialOf_int_hash]; exact Goes.pure _ _ _) ?_
  refine Goes.bind (a := some (.int (rawHash k) s.toks)) (s₁ := { s with toks := s.toks + 1 }) (p₁ := pos) Goes.hashCall ?_
  show Goes _ _ _ _ _ (if (decide (-(2 : Int) ^ 63 ≤ rawHash k) && decide (rawHash k < 2 ^ 63)) = true then _ else _) _ _ _ _ _
  rw [if_pos (by rw [decide_eq_true hr.1, decide_eq_true hr.2]; rfl)]
  exact Goes.pure _ _ _

theorem Goes.dictEntries {d : Addr} {part : Option Value} {o : Obj} {es ep} {s : Shared} {pos : Pos} (ho : s.heap.get? d = some o) (hd : o.data = .dict es ep) :
    Goes p w n₀ ann 1 (dictEntries d part) s pos es s pos := by
  refine Goes.le ?_ (Nat.le_refl (1 + 0))
  unfold PySem.dictEntries
  refine Goes.bind (Goes.loadPart ho) ?_
  rw [hd]; exact Goes.pure _ _ _
theorem Goes.dictEpoch {d : Addr} {part : Option Value} {o : Obj} {es ep} {s : Shared} {pos : Pos} (ho : s.heap.get? d = some o) (hd : o.data = .dict es ep) :
    Goes p w n₀ ann 1 (dictEpoch d part) s pos ep s pos := by
  refine Goes.le ?_ (Nat.le_refl (1 + 0))
  unfold PySem.dictEpoch
  refine Goes.bind (Goes.loadPart ho) ?_
  rw [hd]; exact Goes.pure _ _ _

theorem no_place {es : Array DictEntry} {h : Int} (hn : ∀ e ∈ es, e.hash ≠ h) : placesWithHash es.size (fun i => es[i]?.map (·.hash)) h = [] := by
  unfold placesWithHash
  rw [List.filter_eq_nil_iff]
  intro i hi
  have hi : i < es.size := List.mem_range.mp hi
  show ¬ ((es[i]?.map (·.hash)) == some h) = true
  rw [Array.getElem?_eq_getElem hi]
  simpa using hn _ (Array.getElem_mem hi)

theorem Goes.dictFind {d : Addr} {o : Obj} {es ep} {k : Int} {t : Tok} {h : Int} {s : Shared} {pos : Pos} (ho : s.heap.get? d = some o) (hd : o.data = .dict es ep) (hn : ∀ e ∈ es, e.hash ≠ h) :
    Goes p w n₀ ann 1 (dictFind d (.int k t) h) s pos none s pos := by
  refine Goes.le ?_ (Nat.le_refl (1 + 0))
  unfold PySem.dictFind
  refine Goes.holding (Goes.bind (Goes.dictEntries ho hd) ?_)
  dsimp only
  rw [no_place hn]
  exact Goes.pure _ _ _

noncomputable def dObj (es : Array DictEntry) (ep : Nat) : Obj := { cls := .type "dict", data := .dict es ep }

theorem Goes.updateKeys {d : Addr} {part : Option Value} {es ep} {f : Array DictEntry → Array DictEntry} {s : Shared} {pos : Pos} {h' : Heap} (ho : s.heap.get? d = some (dObj es ep)) (ha : n₀ ≤ d)
    (hu : s.heap.update d (Obj.mapDictKeys f) = h') (hg : h'.get? d = some (dObj (f es) (ep + 1))) (hz : (f es).size ≤ sizeLine + 1) :
    Goes p w n₀ ann 3 (updateDictKeys d f part) s pos () { s with heap := h' } pos := by
  refine Goes.le ?_ (Nat.le_refl (1 + (1 + (1 + 0))))
  unfold updateDictKeys
  refine Goes.bind (Goes.loadPart ho) ?_
  refine Goes.bind (Goes.updatePart ho ha) ?_
  rw [hu]
  unfold lookBehind
  refine Goes.bind (Goes.loadPart (s := { s with heap := h' }) hg) ?_
  have e : (dObj (f es) (ep + 1)).data.pastItsLine = none := by
    show (if (f es).size > sizeLine + 1 then some "dict:memory" else none) = none
    rw [if_neg (Nat.not_lt.mpr hz)]
  rw [e]
  exact Goes.pure _ _ _

theorem Goes.setHashed {d : Addr} {es ep} {k : Int} {t : Tok} {h : Int} {v : Value} {s : Shared} {pos : Pos} {h' : Heap} (ho : s.heap.get? d = some (dObj es ep)) (ha : n₀ ≤ d) (hn : ∀ e ∈ es, e.hash ≠ h)
    (hu : s.heap.update d (Obj.mapDictKeys (·.push ⟨h, .int k t, v⟩)) = h') (hg : h'.get? d = some (dObj (es.push ⟨h, .int k t, v⟩) (ep + 1))) (hz : es.size ≤ sizeLine) :
    Goes p w n₀ ann 5 (dictSetHashed d (.int k t) h v) s pos () { s with heap := h' } pos := by
  refine Goes.le ?_ (Nat.le_refl (1 + (1 + 3)))
  unfold dictSetHashed
  refine Goes.holding (Goes.bind (Goes.dictFind ho rfl hn) ?_)
  dsimp only
  exact Goes.bind Goes.rule (Goes.updateKeys ho ha hu hg (by rw [Array.size_push]; lia))
theorem Goes.put {d : Addr} {es ep} {k : Int} {t : Tok} {h : Int} {v : Value} {s : Shared} {pos : Pos} {h' : Heap} (ho : s.heap.get? d = some (dObj es ep)) (ha : n₀ ≤ d) (hn : ∀ e ∈ es, e.hash ≠ h)
    (hu : s.heap.update d (Obj.mapDictKeys (·.push ⟨h, .int k t, v⟩)) = h') (hg : h'.get? d = some (dObj (es.push ⟨h, .int k t, v⟩) (ep + 1))) (hz : es.size ≤ sizeLine) :
    Goes p w n₀ ann 4 (dictPut d h (.int k t) v) s pos () { s with heap := h' } pos := by
  refine Goes.le ?_ (Nat.le_refl (1 + 3))
  unfold dictPut
  refine Goes.bind (Goes.dictFind ho rfl hn) ?_
  exact Goes.updateKeys ho ha hu hg (by rw [Array.size_push]; lia)
theorem Goes.set {d : Addr} {es ep} {k : Int} {t : Tok} {v : Value} {s : Shared} {pos : Pos} {h' : Heap} (ho : s.heap.get? d = some (dObj es ep)) (ha : n₀ ≤ d) (hn : ∀ e ∈ es, e.hash ≠ hashInt k)
    (hu : s.heap.update d (Obj.mapDictKeys (·.push ⟨hashInt k, .int k t, v⟩)) = h') (hg : h'.get? d = some (dObj (es.push ⟨hashInt k, .int k t, v⟩) (ep + 1))) (hz : es.size ≤ sizeLine) :
    Goes p w n₀ ann 10 (dictSet d (.int k t) v) s pos () { s with heap := h', toks := s.toks + 1 } pos := by
  refine Goes.le ?_ (Nat.le_refl (5 + 5))
  unfold dictSet
  exact Goes.holding (Goes.bind Goes.pyHash (Goes.setHashed (s := { s with toks := s.toks + 1 }) ho ha hn hu hg hz))

theorem update_push (h : Heap) (es ep f) : (h.push (dObj es ep)).update h.objs.size (Obj.mapDictKeys f) = h.push (dObj (f es) (ep + 1)) := by
  obtain ⟨objs, l⟩ := h
  show Heap.mk ((objs.push (dObj es ep)).modify objs.size (Obj.mapDictKeys f)) l = Heap.mk (objs.push (dObj (f es) (ep + 1))) l
  congr 1
  apply Array.ext
  · simp
  · intro i h1 h2
    simp only [Array.getElem_modify, Array.getElem_push]
    simp only [Array.size_modify, Array.size_push] at h1
    by_cases hi : i < objs.size
    · rw [if_neg (by lia), dif_pos hi, dif_pos hi]
    · rw [if_pos (by lia), dif_neg hi, dif_neg hi]; rfl
theorem get_push (h : Heap) (es ep) : (h.push (dObj es ep)).get? h.objs.size = some (dObj es ep) := Heap.get?_push_size _ rfl
end
end Mine
end

section
open PySem PySem.W PyProof.Rows
set_option Elab.async false
set_option tactic.hygienic false
namespace Mine
section
variable {p : Program} {w : World} {n₀ : Nat} {ann : Option Value}

noncomputable abbrev KV := Int × Str
noncomputable def kvTree (pos : Pos) (x : KV) : Sem Value × Sem Value := (mkInt x.1, do let y ← mkText x.2; standAt pos; pure y)

noncomputable def ent (x : KV) (T u : Nat) : DictEntry := ⟨hashInt x.1, .int x.1 T, .str x.2 u⟩
noncomputable def longOf : Nat → List KV → List DictEntry
  | _, [] => []
  | T, x :: r => ent x T (T + 1) :: longOf (T + 3) r
noncomputable def shortOf : Nat → List KV → List DictEntry
  | _, [] => []
  | T, x :: r => ent x T (T + 1) :: shortOf (T + 2) r
theorem longOf_length : ∀ (T : Nat) (l : List KV), (longOf T l).length = l.length
  | _, [] => rfl
  | T, _ :: r => congrArg (· + 1) (longOf_length (T + 3) r)
theorem shortOf_length : ∀ (T : Nat) (l : List KV), (shortOf T l).length = l.length
  | _, [] => rfl
  | T, _ :: r => congrArg (· + 1) (shortOf_length (T + 2) r)
theorem longOf_hash : ∀ (T : Nat) (l : List KV), (longOf T l).map (·.hash) = l.map fun x => hashInt x.1
  | _, [] => rfl
  | T, x :: r => congrArg (hashInt x.1 :: ·) (longOf_hash (T + 3) r)
theorem shortOf_hash : ∀ (T : Nat) (l : List KV), (shortOf T l).map (·.hash) = l.map fun x => hashInt x.1
  | _, [] => rfl
  | T, x :: r => congrArg (hashInt x.1 :: ·) (shortOf_hash (T + 2) r)

noncomputable def Apart (es : List DictEntry) (l : List KV) : Prop := (es.map (·.hash) ++ l.map fun x => hashInt x.1).Nodup
theorem Apart.head {es : List DictEntry} {x : KV} {l : List KV} (h : Apart es (x :: l)) : ∀ e ∈ es.toArray, e.hash ≠ hashInt x.1 := by
  intro e he
  have he : e ∈ es := by simpa using he
  unfold Apart at h
  rw [List.nodup_append] at h
  exact h.2.2 _ (List.mem_map_of_mem he) _ (by simp)
theorem Apart.next {es : List DictEntry} {x : KV} {l : List KV} {t u} (h : Apart es (x :: l)) : Apart (es ++ [ent x t u]) l := by
  unfold Apart at h ⊢
  simpa [ent] using h

theorem Goes.longLoop (h : Heap) (hn : n₀ ≤ h.objs.size) {pos : Pos} : ∀ (l : List KV) (es : List DictEntry) (s : Shared), s.heap = h.push (dObj es.toArray es.length) → Apart es l → es.length + l.length ≤ sizeLine →
    Goes p w n₀ ann (13 * l.length) (forIn (l.map (kvTree pos)) PUnit.unit fun (x : Sem Value × Sem Value) (__s : PUnit) =>
        (match x with
        | (k, v) => do
          let kv ← k
          let vv ← PySem.holding [kv] v
          PySem.holding [kv, vv] (dictSet h.objs.size kv vv)
          Pure.pure (ForInStep.yield PUnit.unit) : Sem (ForInStep PUnit))) s pos PUnit.unit
      { s with heap := h.push (dObj (es ++ longOf s.toks l).toArray (es.length + l.length)), toks := s.toks + 3 * l.length } pos
  | [], es, s, hs, _, _ => by
    obtain ⟨heap, gens, drawn, toks, os⟩ := s
    dsimp only at hs; subst hs
    simp only [List.map_nil, List.forIn_nil, longOf, List.append_nil, List.length_nil, Nat.mul_zero, Nat.add_zero]
    exact Goes.pure _ _ _
  | x :: l, es, s, hs, ha, hz => by
    obtain ⟨heap, gens, drawn, toks, os⟩ := s
    dsimp only at hs; subst hs
    rw [List.length_cons] at hz
    rw [List.map_cons, List.forIn_cons]
    have ih := Goes.longLoop h hn l (es ++ [ent x toks (toks + 1)]) ⟨h.push (dObj (es ++ [ent x toks (toks + 1)]).toArray (es.length + 1)), gens, drawn, toks + 3, os⟩ (pos := pos)
      (by dsimp only; rw [List.length_append]; rfl) ha.next (by rw [List.length_append, List.length_singleton]; lia)
    have e : (⟨h.push (dObj (es ++ longOf toks (x :: l)).toArray (es.length + (x :: l).length)), gens, drawn, toks + 3 * (x :: l).length, os⟩ : Shared) =
        ⟨h.push (dObj ((es ++ [ent x toks (toks + 1)]) ++ longOf (toks + 3) l).toArray ((es ++ [ent x toks (toks + 1)]).length + l.length)), gens, drawn, toks + 3 + 3 * l.length, os⟩ := by
      rw [longOf, List.append_assoc, List.length_append, List.length_singleton, List.length_cons, List.singleton_append, show es.length + (l.length + 1) = es.length + 1 + l.length by lia, show toks + 3 * (l.length + 1) = toks + 3 + 3 * l.length by lia]
    dsimp only
    rw [e]
    refine Goes.le (N := (1 + (1 + (1 + 0)) + (10 + 0)) + 13 * l.length) ?_ (by rw [List.length_cons]; lia)
    refine Goes.bind (a := ForInStep.yield PUnit.unit) (s₁ := ⟨h.push (dObj (es ++ [ent x toks (toks + 1)]).toArray (es.length + 1)), gens, drawn, toks + 3, os⟩) (p₁ := pos) ?_ (by exact ih)
    refine Goes.le (N := 1 + ((1 + (1 + 0)) + (10 + 0))) ?_ (by lia)
    refine Goes.bind (a := .int x.1 toks) (s₁ := ⟨h.push (dObj es.toArray es.length), gens, drawn, toks + 1, os⟩) (p₁ := pos) Goes.mkInt ?_
    refine Goes.bind (a := .str x.2 (toks + 1)) (s₁ := ⟨h.push (dObj es.toArray es.length), gens, drawn, toks + 2, os⟩) (p₁ := pos) ?_ ?_
    · refine Goes.holding (Goes.bind (a := .str x.2 (toks + 1)) (s₁ := ⟨h.push (dObj es.toArray es.length), gens, drawn, toks + 2, os⟩) (p₁ := pos) Goes.mkText ?_)
      exact Goes.bind Goes.standAt (Goes.pure _ _ _)
    · refine Goes.bind (Goes.holding (Goes.set (s := ⟨h.push (dObj es.toArray es.length), gens, drawn, toks + 2, os⟩) (h' := h.push (dObj (es ++ [ent x toks (toks + 1)]).toArray (es.length + 1)))
        (get_push h es.toArray es.length) hn ha.head ?_ ?_ ?_)) (Goes.pure _ _ _)
      · rw [update_push]; simp [ent]
      · rw [get_push]; simp [ent]
      · rw [List.size_toArray]; lia

theorem Goes.pairs {pos : Pos} : ∀ (l : List KV) (s : Shared), Goes p w n₀ ann (3 * l.length) (evalPairs (l.map (kvTree pos))) s pos ((shortOf s.toks l).map fun e => (e.key, e.val)) { s with toks := s.toks + 2 * l.length } pos
  | [], s => by
    simp only [List.map_nil, evalPairs, shortOf, List.length_nil, Nat.mul_zero, Nat.add_zero]
    exact Goes.pure _ _ _
  | x :: l, s => by
    rw [List.map_cons, evalPairs]
    refine Goes.le (N := 1 + ((1 + (1 + 0)) + (3 * l.length + 0))) ?_ (by rw [List.length_cons]; lia)
    refine Goes.bind (a := .int x.1 s.toks) (s₁ := { s with toks := s.toks + 1 }) (p₁ := pos) Goes.mkInt ?_
    refine Goes.bind (a := .str x.2 (s.toks + 1)) (s₁ := { s with toks := s.toks + 2 }) (p₁ := pos) ?_ ?_
    · refine Goes.holding (Goes.bind (a := .str x.2 (s.toks + 1)) (s₁ := { s with toks := s.toks + 2 }) (p₁ := pos) (Goes.mkText (s := { s with toks := s.toks + 1 })) ?_)
      exact Goes.bind Goes.standAt (Goes.pure _ _ _)
    · have ih := Goes.pairs (pos := pos) l { s with toks := s.toks + 2 }
      have e : ({ s with toks := s.toks + 2 * (x :: l).length } : Shared) = { s with toks := s.toks + 2 + 2 * l.length } := by
        rw [List.length_cons, show s.toks + 2 * (l.length + 1) = s.toks + 2 + 2 * l.length by lia]
      rw [e]
      exact Goes.bind (Goes.holding ih) (Goes.pure _ _ _)

theorem Goes.shortLoop (h : Heap) (hn : n₀ ≤ h.objs.size) {pos : Pos} : ∀ (l : List KV) (T : Nat) (es : List DictEntry) (s : Shared), s.heap = h.push (dObj es.toArray es.length) → Apart es l → es.length + l.length ≤ sizeLine →
    Goes p w n₀ ann (10 * l.length) (forIn ((shortOf T l).map fun e => (e.key, e.val)) PUnit.unit fun (x : Value × Value) (__s : PUnit) =>
        (match x with
        | (k, v) => do
          dictSet h.objs.size k v
          Pure.pure (ForInStep.yield PUnit.unit) : Sem (ForInStep PUnit))) s pos PUnit.unit
      { s with heap := h.push (dObj (es ++ shortOf T l).toArray (es.length + l.length)), toks := s.toks + l.length } pos
  | [], T, es, s, hs, _, _ => by
    obtain ⟨heap, gens, drawn, toks, os⟩ := s
    dsimp only at hs; subst hs
    simp only [shortOf, List.map_nil, List.forIn_nil, List.append_nil, List.length_nil, Nat.add_zero]
    exact Goes.pure _ _ _
  | x :: l, T, es, s, hs, ha, hz => by
    obtain ⟨heap, gens, drawn, toks, os⟩ := s
    dsimp only at hs; subst hs
    rw [List.length_cons] at hz
    rw [shortOf, List.map_cons, List.forIn_cons]
    have ih := Goes.shortLoop h hn l (T + 2) (es ++ [ent x T (T + 1)]) ⟨h.push (dObj (es ++ [ent x T (T + 1)]).toArray (es.length + 1)), gens, drawn, toks + 1, os⟩ (pos := pos)
      (by dsimp only; rw [List.length_append]; rfl) ha.next (by rw [List.length_append, List.length_singleton]; lia)
    have e : (⟨h.push (dObj (es ++ ent x T (T + 1) :: shortOf (T + 2) l).toArray (es.length + (x :: l).length)), gens, drawn, toks + (x :: l).length, os⟩ : Shared) =
        ⟨h.push (dObj ((es ++ [ent x T (T + 1)]) ++ shortOf (T + 2) l).toArray ((es ++ [ent x T (T + 1)]).length + l.length)), gens, drawn, toks + 1 + l.length, os⟩ := by
      rw [List.append_assoc, List.length_append, List.length_singleton, List.length_cons, List.singleton_append, show es.length + (l.length + 1) = es.length + 1 + l.length by lia, show toks + (l.length + 1) = toks + 1 + l.length by lia]
    dsimp only
    rw [e]
    refine Goes.le (N := (10 + 0) + 10 * l.length) ?_ (by rw [List.length_cons]; lia)
    refine Goes.bind (a := ForInStep.yield PUnit.unit) (s₁ := ⟨h.push (dObj (es ++ [ent x T (T + 1)]).toArray (es.length + 1)), gens, drawn, toks + 1, os⟩) (p₁ := pos) ?_ (by exact ih)
    refine Goes.bind (Goes.set (s := ⟨h.push (dObj es.toArray es.length), gens, drawn, toks, os⟩) (h' := h.push (dObj (es ++ [ent x T (T + 1)]).toArray (es.length + 1)))
        (get_push h es.toArray es.length) hn ha.head ?_ ?_ ?_) (Goes.pure _ _ _)
    · rw [update_push]; simp [ent]
    · rw [get_push]; simp [ent]
    · rw [List.size_toArray]; lia

noncomputable def runOf (T : Nat) (l : List KV) : List DictEntry := if l.length ≤ 15 then shortOf T l else longOf T l
theorem runOf_hash (T : Nat) (l : List KV) : (runOf T l).map (·.hash) = l.map fun x => hashInt x.1 := by
  unfold runOf; split
  · exact shortOf_hash T l
  · exact longOf_hash T l
theorem runOf_length (T : Nat) (l : List KV) : (runOf T l).length = l.length := by
  unfold runOf; split
  · exact shortOf_length T l
  · exact longOf_length T l

theorem Goes.subDict {s : Shared} {pos : Pos} (l : List KV) (hn : n₀ ≤ s.heap.objs.size) (ha : (l.map fun x => hashInt x.1).Nodup) (hz : l.length ≤ sizeLine) :
    Goes p w n₀ ann (13 * l.length + 2) (subDict (l.map (kvTree pos))) s pos s.heap.objs.size { s with heap := s.heap.push (dObj (runOf s.toks l).toArray l.length), toks := s.toks + 3 * l.length } pos := by
  obtain ⟨heap, gens, drawn, toks, os⟩ := s
  unfold PySem.subDict
  refine Goes.le (N := 1 + (13 * l.length + 1)) ?_ (by lia)
  refine Goes.bind (a := heap.objs.size) (s₁ := ⟨heap.push (dObj #[] 0), gens, drawn, toks, os⟩) (p₁ := pos) Goes.alloc ?_
  rw [List.length_map]
  have ha' : Apart [] l := by unfold Apart; simpa using ha
  by_cases hl : l.length ≤ 15
  · rw [if_pos hl]
    have e : runOf toks l = shortOf toks l := if_pos hl
    dsimp only
    rw [e]
    refine Goes.le (N := (3 * l.length + (10 * l.length + 0)) + 0) ?_ (by lia)
    refine Goes.bind (a := ()) (s₁ := ⟨heap.push (dObj (shortOf toks l).toArray l.length), gens, drawn, toks + 3 * l.length, os⟩) (p₁ := pos) (Goes.holding ?_) (Goes.pure _ _ _)
    refine Goes.bind (Goes.pairs l ⟨heap.push (dObj #[] 0), gens, drawn, toks, os⟩) (Goes.holding ?_)
    have x := Goes.shortLoop (p := p) (w := w) (ann := ann) (pos := pos) heap hn l toks [] ⟨heap.push (dObj #[] 0), gens, drawn, toks + 2 * l.length, os⟩ rfl ha' (by simpa using hz)
    simp only [List.nil_append, List.length_nil, Nat.zero_add] at x
    rw [show toks + 3 * l.length = toks + 2 * l.length + l.length by lia]
    exact Goes.bind x (Goes.pure _ _ _)
  · rw [if_neg hl]
    have e : runOf toks l = longOf toks l := if_neg hl
    dsimp only
    rw [e]
    refine Goes.le (N := (1 + (13 * l.length + 0)) + 0) ?_ (by lia)
    refine Goes.bind (a := ()) (s₁ := ⟨heap.push (dObj (longOf toks l).toArray l.length), gens, drawn, toks + 3 * l.length, os⟩) (p₁ := pos) (Goes.holding ?_) (Goes.pure _ _ _)
    refine Goes.bind Goes.rule ?_
    have x := Goes.longLoop (p := p) (w := w) (ann := ann) (pos := pos) heap hn l [] ⟨heap.push (dObj #[] 0), gens, drawn, toks, os⟩ rfl ha' (by simpa using hz)
    simp only [List.nil_append, List.length_nil, Nat.zero_add] at x
    exact Goes.bind x (Goes.pure _ _ _)
end
end Mine
end

section
open PySem PySem.W PyProof.Rows
set_option Elab.async false
set_option tactic.hygienic false
namespace Mine
section
variable {p : Program} {w : World} {n₀ : Nat} {ann : Option Value}

noncomputable def hm (base : Heap) (es : List DictEntry) (mids : List Obj) : Heap := ⟨(base.objs.push (dObj es.toArray es.length)) ++ mids.toArray, base.life⟩

theorem hm_push (base : Heap) (es : List DictEntry) (mids : List Obj) (o : Obj) : (hm base es mids).push o = hm base es (mids ++ [o]) := by
  unfold hm Heap.push
  simp
theorem hm_size (base : Heap) (es : List DictEntry) (mids : List Obj) : (hm base es mids).objs.size = base.objs.size + 1 + mids.length := by
  simp [hm]; lia
theorem hm_main (base : Heap) (es : List DictEntry) (mids : List Obj) : (hm base es mids).get? base.objs.size = some (dObj es.toArray es.length) := by
  unfold hm Heap.get?
  simp only
  rw [Array.getElem?_append_left (by simp), Array.getElem?_push_size]
  rfl
theorem hm_last (base : Heap) (es fs : List DictEntry) (mids : List Obj) (n : Nat) : (hm base es (mids ++ [dObj fs.toArray n])).get? (base.objs.size + 1 + mids.length) = some (dObj fs.toArray n) := by
  rw [← hm_push, ← hm_size base es mids]
  exact get_push _ _ _
theorem hm_update (base : Heap) (es : List DictEntry) (mids : List Obj) (e : DictEntry) : (hm base es mids).update base.objs.size (Obj.mapDictKeys (·.push e)) = hm base (es ++ [e]) mids := by
  unfold hm Heap.update
  simp only
  congr 1
  apply Array.ext
  · simp
  · intro i h1 h2
    simp only [Array.getElem_modify, Array.getElem_append, Array.getElem_push]
    simp only [Array.size_modify, Array.size_append, Array.size_push] at h1
    by_cases hi : i < base.objs.size
    · rw [if_neg (by lia), dif_pos (by simp; lia), dif_pos hi, dif_pos (by simp; lia), dif_pos hi]
    · by_cases h3 : i = base.objs.size
      · rw [if_pos h3.symm, dif_pos (by simp; lia), dif_neg hi, dif_pos (by simp; lia), dif_neg hi]
        simp [dObj, Obj.mapDictKeys]
      · rw [if_neg (by lia), dif_neg (by simp; lia), dif_neg (by simp; lia)]
        simp

theorem Goes.mergeLoop (base : Heap) (hn : n₀ ≤ base.objs.size) (es fs : List DictEntry) (mids : List Obj) {pos : Pos} (hk : ∀ e ∈ fs, ∃ k t, e.key = .int k t) (ha : ((es ++ fs).map (·.hash)).Nodup) (hz : es.length + fs.length ≤ sizeLine) :
    ∀ (k i : Nat) (s : Shared), i + k = fs.length → s.heap = hm base (es ++ fs.take i) (mids ++ [dObj fs.toArray fs.length]) →
    Goes p w n₀ ann (6 * k) (forIn (List.range' i k) PUnit.unit fun i (__s : PUnit) => (do
        let __do_lift ← PySem.dictEntries (base.objs.size + 1 + mids.length)
        match __do_lift[i]? with
        | some e => do
          PySem.holding [e.key, e.val] (dictPut base.objs.size e.hash e.key e.val)
          let __do_lift ← PySem.dictEpoch (base.objs.size + 1 + mids.length)
          if (__do_lift != fs.length) = true then do
              unsupported "dict.changed-during-merge"
              Pure.pure (ForInStep.yield PUnit.unit)
            else Pure.pure (ForInStep.yield PUnit.unit)
        | _ => do
          unsupported "dict.changed-during-merge"
          Pure.pure (ForInStep.yield PUnit.unit) : Sem (ForInStep PUnit))) s pos PUnit.unit { s with heap := hm base (es ++ fs) (mids ++ [dObj fs.toArray fs.length]) } pos
  | 0, i, s, hi, hs => by
    obtain ⟨heap, gens, drawn, toks, os⟩ := s
    dsimp only at hs; subst hs
    rw [List.range'_zero, List.forIn_nil, List.take_of_length_le (by lia)]
    exact Goes.pure _ _ _
  | k + 1, i, s, hi, hs => by
    obtain ⟨heap, gens, drawn, toks, os⟩ := s
    dsimp only at hs; subst hs
    rw [List.range'_succ, List.forIn_cons]
    have hlt : i < fs.length := by lia
    obtain ⟨key, t, hkey⟩ := hk fs[i] (List.getElem_mem hlt)
    have et : fs.take (i + 1) = fs.take i ++ [fs[i]] := by rw [List.take_succ_eq_append_getElem hlt]
    have ih := Goes.mergeLoop base hn es fs mids (pos := pos) hk ha hz k (i + 1) ⟨hm base (es ++ fs.take (i + 1)) (mids ++ [dObj fs.toArray fs.length]), gens, drawn, toks, os⟩ (by lia) rfl
    refine Goes.le (N := (1 + (4 + (1 + 0))) + 6 * k) ?_ (by lia)
    refine Goes.bind (a := ForInStep.yield PUnit.unit) (s₁ := ⟨hm base (es ++ fs.take (i + 1)) (mids ++ [dObj fs.toArray fs.length]), gens, drawn, toks, os⟩) (p₁ := pos) ?_ (by exact ih)
    refine Goes.bind (Goes.dictEntries (hm_last base _ fs mids fs.length) rfl) ?_
    have e1 : fs.toArray[i]? = some fs[i] := by simp [hlt]
    rw [e1]
    have hq : ∀ e ∈ (es ++ fs.take i).toArray, e.hash ≠ fs[i].hash := by
      intro e he
      have he : e ∈ es ++ fs.take i := by simpa using he
      have ha' : ((es ++ fs.take i).map (·.hash) ++ (fs.drop i).map (·.hash)).Nodup := by
        rw [← List.map_append, List.append_assoc, List.take_append_drop]; exact ha
      rw [List.nodup_append] at ha'
      exact ha'.2.2 _ (List.mem_map_of_mem he) _ (List.mem_map_of_mem (by rw [List.drop_eq_getElem_cons hlt]; exact List.mem_cons_self))
    have eh : (⟨fs[i].hash, .int key t, fs[i].val⟩ : DictEntry) = fs[i] := by rw [← hkey]
    dsimp only
    refine Goes.bind (Goes.holding (by
      rw [hkey]
      refine Goes.put (s := ⟨hm base (es ++ fs.take i) (mids ++ [dObj fs.toArray fs.length]), gens, drawn, toks, os⟩) (h' := hm base (es ++ fs.take (i + 1)) (mids ++ [dObj fs.toArray fs.length])) (hm_main _ _ _) hn hq ?_ ?_ ?_
      · rw [eh, hm_update, et, List.append_assoc]
      · rw [hm_main, et, eh, ← List.append_assoc]
        simp only [List.length_append, List.length_take, List.length_singleton, List.push_toArray]
      · simp; lia)) ?_
    refine Goes.bind (Goes.dictEpoch (hm_last base _ fs mids fs.length) rfl) ?_
    rw [if_neg (by simp)]
    exact Goes.pure _ _ _

theorem Goes.merge (base : Heap) (hn : n₀ ≤ base.objs.size) (hs1 : 2 ≤ base.objs.size) (es fs : List DictEntry) (mids : List Obj) {pos : Pos} (h0 : es ≠ []) (hk : ∀ e ∈ fs, ∃ k t, e.key = .int k t) (ha : ((es ++ fs).map (·.hash)).Nodup) (hz : es.length + fs.length ≤ sizeLine)
    (s : Shared) (hs : s.heap = hm base es (mids ++ [dObj fs.toArray fs.length])) :
    Goes p w n₀ ann (6 * fs.length + 5) (mergeMapping base.objs.size (.ref (base.objs.size + 1 + mids.length)) false) s pos () { s with heap := hm base (es ++ fs) (mids ++ [dObj fs.toArray fs.length]) } pos := by
  obtain ⟨heap, gens, drawn, toks, os⟩ := s
  dsimp only at hs; subst hs
  unfold mergeMapping
  refine Goes.le (N := (1 + 0) + ((1 + 0) + (0 + (1 + (1 + (1 + (6 * fs.length + 0))))))) ?_ (by lia)
  have ht : Goes p w n₀ ann 1 (typeOf (.ref (base.objs.size + 1 + mids.length))) ⟨hm base es (mids ++ [dObj fs.toArray fs.length]), gens, drawn, toks, os⟩ pos (.type "dict") ⟨hm base es (mids ++ [dObj fs.toArray fs.length]), gens, drawn, toks, os⟩ pos :=
    Goes.le (N := 1 + 0) (Goes.bind (Goes.loadPart (hm_last base es fs mids fs.length)) (Goes.pure _ _ _)) (Nat.le_refl _)
  refine Goes.bind (a := true) (s₁ := ⟨hm base es (mids ++ [dObj fs.toArray fs.length]), gens, drawn, toks, os⟩) (p₁ := pos) ?_ ?_
  · unfold isInstance
    refine Goes.bind ht ?_
    rw [isSubtype_dict_dict]; exact Goes.pure _ _ _
  dsimp only
  rw [if_pos rfl]
  refine Goes.bind (a := some (.builtin "dict.__iter__")) (s₁ := ⟨hm base es (mids ++ [dObj fs.toArray fs.length]), gens, drawn, toks, os⟩) (p₁ := pos) ?_ ?_
  · unfold specialOf
    refine Goes.bind ht ?_
    rw [F.slot_dict_iter.lookup]; exact Goes.pure _ _ _
  refine Goes.bind (a := true) (s₁ := ⟨hm base es (mids ++ [dObj fs.toArray fs.length]), gens, drawn, toks, os⟩) (p₁ := pos) ?_ ?_
  · rw [beq_self_eq_true]; exact Goes.pure _ _ _
  dsimp only
  rw [if_neg (fun h => by have h : base.objs.size + 1 + mids.length = (1 : Nat) := eq_of_beq h; lia)]
  refine Goes.bind (Goes.dictEntries (hm_main base es _) rfl) ?_
  rw [if_neg (by simp [h0])]
  refine Goes.bind (Goes.dictEntries (hm_last base es fs mids fs.length) rfl) ?_
  refine Goes.bind (Goes.dictEpoch (hm_last base es fs mids fs.length) rfl) ?_
  have x := Goes.mergeLoop (p := p) (w := w) (ann := ann) base hn es fs mids (pos := pos) hk ha hz fs.length 0 ⟨hm base es (mids ++ [dObj fs.toArray fs.length]), gens, drawn, toks, os⟩ (by lia) (by simp)
  rw [List.size_toArray, List.range_eq_range']
  exact Goes.bind x (Goes.pure _ _ _)
end
end Mine
end

section
open PySem PySem.W PyProof.Rows
set_option Elab.async false
set_option tactic.hygienic false
namespace Mine
section
variable {p : Program} {w : World} {n₀ : Nat} {ann : Option Value}

noncomputable def flushOf (run : List (Sem Value × Sem Value)) (main : Option Addr) : Sem (Option Addr) :=
  if run.isEmpty = true then pure main
  else match main with
    | none => do
      let d ← subDict run
      pure (some d)
    | some d => do
      let sub ← holding [Value.ref d] (subDict run)
      (holding [Value.ref d, Value.ref sub] (mergeMapping d (Value.ref sub) false)).onRaise fun x => do
          let _ ← holding [Value.ref d, x] (runValue (Code.builtin "proto.let_go" { }))
          pure ()
      pure (some d)

noncomputable abbrev Turn := (Option (Sem Value) × Sem Value) → (Option Addr × List (Sem Value × Sem Value)) → Sem (ForInStep (Option Addr × List (Sem Value × Sem Value)))

noncomputable def itemsOf (pos : Pos) (l : List KV) : List (Option (Sem Value) × Sem Value) := l.map fun x => (some (kvTree pos x).1, (kvTree pos x).2)

noncomputable def Turns (f : Turn) : Prop := ∀ (k v : Sem Value) (main : Option Addr) (run : List (Sem Value × Sem Value)),
  f (some k, v) (main, run) = if ((run ++ [(k, v)]).length == 17) = true then (do let main ← flushOf (run ++ [(k, v)]) main; pure (ForInStep.yield (main, []))) else pure (ForInStep.yield (main, run ++ [(k, v)]))

theorem dictDisplay_eq (items : List (Option (Sem Value) × Sem Value)) : ∃ f : Turn, Turns f ∧ dictDisplay items = (do
    let s ← forIn items ((none : Option Addr), ([] : List (Sem Value × Sem Value))) f
    let r ← flushOf s.2 s.1
    match r with
    | some d => pure (Value.ref d)
    | none => newDict) := by
  unfold dictDisplay
  refine ⟨_, ?_, rfl⟩
  intro k v main run
  rfl

theorem gather {f : Turn} (hf : Turns f) (pos : Pos) (main : Option Addr) : ∀ (l : List KV) (run : List (Sem Value × Sem Value)), run.length + l.length < 17 →
    forIn (itemsOf pos l) (main, run) f = pure (main, run ++ l.map (kvTree pos))
  | [], run, _ => by simp [itemsOf]
  | x :: l, run, h => by
    rw [List.length_cons] at h
    unfold itemsOf
    rw [List.map_cons, List.forIn_cons, hf, if_neg (by simp; lia), pure_bind]
    have := gather hf pos main l (run ++ [((kvTree pos x).1, (kvTree pos x).2)]) (by simp; lia)
    unfold itemsOf at this
    dsimp only
    rw [this]; simp

theorem chunk {f : Turn} (hf : Turns f) (pos : Pos) (main : Option Addr) (rest : List KV) : ∀ (l : List KV) (run : List (Sem Value × Sem Value)), run.length + l.length = 17 → l ≠ [] →
    forIn (itemsOf pos (l ++ rest)) (main, run) f = (do let m ← flushOf (run ++ l.map (kvTree pos)) main; forIn (itemsOf pos rest) (m, []) f)
  | [], _, _, h0 => absurd rfl h0
  | [x], run, h, _ => by
    unfold itemsOf
    rw [List.singleton_append, List.map_cons, List.forIn_cons, hf, if_pos (by simp at h ⊢; lia)]
    simp
  | x :: y :: l, run, h, _ => by
    unfold itemsOf
    rw [List.length_cons, List.length_cons] at h
    rw [List.cons_append, List.map_cons, List.forIn_cons, hf, if_neg (by simp; lia), pure_bind]
    have := chunk hf pos main rest (y :: l) (run ++ [((kvTree pos x).1, (kvTree pos x).2)]) (by simp; lia) (by simp)
    unfold itemsOf at this
    dsimp only
    rw [this]; simp

noncomputable def dispE : Nat → List (List KV) → List DictEntry
  | _, [] => []
  | T, c :: r => runOf T c ++ dispE (T + 3 * c.length) r
noncomputable def dispM : Nat → List (List KV) → List Obj
  | _, [] => []
  | T, c :: r => dObj (runOf T c).toArray c.length :: dispM (T + 3 * c.length) r
theorem dispE_hash : ∀ (T : Nat) (l : List (List KV)), (dispE T l).map (·.hash) = l.flatten.map fun x => hashInt x.1
  | _, [] => rfl
  | T, c :: r => by rw [dispE, List.map_append, runOf_hash, dispE_hash, List.flatten_cons, List.map_append]
theorem longOf_key : ∀ (T : Nat) (l : List KV), ∀ e ∈ longOf T l, ∃ k t, e.key = .int k t
  | _, [], _, h => nomatch h
  | T, x :: r, e, h => by
    rcases List.mem_cons.mp h with rfl | h
    · exact ⟨_, _, rfl⟩
    · exact longOf_key _ r e h
theorem shortOf_key : ∀ (T : Nat) (l : List KV), ∀ e ∈ shortOf T l, ∃ k t, e.key = .int k t
  | _, [], _, h => nomatch h
  | T, x :: r, e, h => by
    rcases List.mem_cons.mp h with rfl | h
    · exact ⟨_, _, rfl⟩
    · exact shortOf_key _ r e h
theorem runOf_key (T : Nat) (l : List KV) : ∀ e ∈ runOf T l, ∃ k t, e.key = .int k t := by
  unfold runOf; split
  · exact shortOf_key T l
  · exact longOf_key T l

theorem Goes.flushSome (base : Heap) (hn : n₀ ≤ base.objs.size) (hs1 : 2 ≤ base.objs.size) (es : List DictEntry) (mids : List Obj) {pos : Pos} (l : List KV) (h0 : es ≠ []) (hl : l ≠ []) (s : Shared) (hs : s.heap = hm base es mids)
    (ha : (es.map (·.hash) ++ l.map fun x => hashInt x.1).Nodup) (hz : es.length + l.length ≤ sizeLine) :
    Goes p w n₀ ann (19 * l.length + 7) (flushOf (l.map (kvTree pos)) (some base.objs.size)) s pos (some base.objs.size)
      { s with heap := hm base (es ++ runOf s.toks l) (mids ++ [dObj (runOf s.toks l).toArray l.length]), toks := s.toks + 3 * l.length } pos := by
  obtain ⟨heap, gens, drawn, toks, os⟩ := s
  dsimp only at hs; subst hs
  unfold flushOf
  rw [if_neg (by simp [hl])]
  dsimp only
  have ha2 := (List.nodup_append.mp ha).2.1
  refine Goes.le (N := (13 * l.length + 2) + ((6 * l.length + 5) + 0)) ?_ (by lia)
  refine Goes.bind (Goes.holding (Goes.subDict l (by show n₀ ≤ (hm base es mids).objs.size; rw [hm_size]; lia) ha2 (by lia))) ?_
  have e1 : (⟨(hm base es mids).push (dObj (runOf toks l).toArray l.length), gens, drawn, toks + 3 * l.length, os⟩ : Shared) =
      ⟨hm base es (mids ++ [dObj (runOf toks l).toArray (runOf toks l).length]), gens, drawn, toks + 3 * l.length, os⟩ := by rw [hm_push, runOf_length]
  dsimp only
  rw [e1, hm_size]
  have x := Goes.merge (p := p) (w := w) (ann := ann) base hn hs1 es (runOf toks l) mids (pos := pos) h0 (runOf_key toks l) (by rw [List.map_append, runOf_hash]; exact ha) (by rw [runOf_length]; exact hz)
    ⟨hm base es (mids ++ [dObj (runOf toks l).toArray (runOf toks l).length]), gens, drawn, toks + 3 * l.length, os⟩ rfl
  rw [runOf_length] at x ⊢
  exact Goes.bind (Goes.onRaise (Goes.holding x)) (Goes.pure _ _ _)

theorem Goes.chunks (base : Heap) (hn : n₀ ≤ base.objs.size) (hs1 : 2 ≤ base.objs.size) {pos : Pos} {f : Turn} (hf : Turns f) (last : List KV) (hlast : last.length < 17) (hl0 : last ≠ []) :
    ∀ (cs : List (List KV)) (es : List DictEntry) (mids : List Obj) (s : Shared), (∀ c ∈ cs, c.length = 17) → es ≠ [] → s.heap = hm base es mids →
    (es.map (·.hash) ++ (cs.flatten ++ last).map fun x => hashInt x.1).Nodup → es.length + (cs.flatten ++ last).length ≤ sizeLine →
    Goes p w n₀ ann (26 * (cs.flatten ++ last).length) (do
        let s ← forIn (itemsOf pos (cs.flatten ++ last)) (some base.objs.size, ([] : List (Sem Value × Sem Value))) f
        let r ← flushOf s.2 s.1
        match r with
        | some d => Pure.pure (Value.ref d)
        | none => newDict) s pos (.ref base.objs.size)
      { s with heap := hm base (es ++ dispE s.toks (cs ++ [last])) (mids ++ dispM s.toks (cs ++ [last])), toks := s.toks + 3 * (cs.flatten ++ last).length } pos
  | [], es, mids, s, hc, h0, hs, ha, hz => by
    rw [List.flatten_nil, List.nil_append] at ha hz ⊢
    rw [gather hf pos _ last [] (by simpa using hlast), pure_bind, List.nil_append, List.nil_append, dispE, dispM, dispE, dispM, List.append_nil]
    refine Goes.le (N := (19 * last.length + 7) + 0) ?_ (by have := List.length_pos_iff.mpr hl0; lia)
    refine Goes.bind (Goes.flushSome base hn hs1 es mids last h0 hl0 s hs ha hz) ?_
    exact Goes.pure _ _ _
  | c :: cs, es, mids, s, hc, h0, hs, ha, hz => by
    obtain ⟨heap, gens, drawn, toks, os⟩ := s
    dsimp only at hs; subst hs
    have hcl : c.length = 17 := hc c List.mem_cons_self
    have hcne : c ≠ [] := by intro e; rw [e] at hcl; cases hcl
    rw [List.flatten_cons, List.append_assoc] at ha hz ⊢
    rw [chunk hf pos _ (cs.flatten ++ last) c [] (by simpa using hcl) hcne, List.nil_append]
    rw [bind_assoc]
    rw [List.map_append, ← List.append_assoc] at ha
    rw [List.length_append] at hz
    have ih := Goes.chunks base hn hs1 (pos := pos) hf last hlast hl0 cs (es ++ runOf toks c) (mids ++ [dObj (runOf toks c).toArray c.length])
      ⟨hm base (es ++ runOf toks c) (mids ++ [dObj (runOf toks c).toArray c.length]), gens, drawn, toks + 3 * c.length, os⟩ (fun c' h => hc c' (List.mem_cons_of_mem _ h)) (by simp [h0]) rfl
      (by rw [List.map_append, runOf_hash]; exact ha) (by rw [List.length_append, runOf_length]; lia)
    refine Goes.le (N := (19 * c.length + 7) + 26 * (cs.flatten ++ last).length) ?_ (by rw [List.length_append (as := c)]; lia)
    refine Goes.bind (Goes.flushSome base hn hs1 es mids c h0 hcne ⟨hm base es mids, gens, drawn, toks, os⟩ rfl (List.nodup_append.mp ha).1 (by lia)) ?_
    have e : (⟨hm base (es ++ dispE toks (c :: cs ++ [last])) (mids ++ dispM toks (c :: cs ++ [last])), gens, drawn, toks + 3 * (c ++ (cs.flatten ++ last)).length, os⟩ : Shared) =
        ⟨hm base (es ++ runOf toks c ++ dispE (toks + 3 * c.length) (cs ++ [last])) (mids ++ [dObj (runOf toks c).toArray c.length] ++ dispM (toks + 3 * c.length) (cs ++ [last])), gens, drawn, toks + 3 * c.length + 3 * (cs.flatten ++ last).length, os⟩ := by
      rw [List.cons_append, dispE, dispM, List.append_assoc es, List.append_assoc mids, List.singleton_append, List.length_append (as := c), Nat.mul_add, Nat.add_assoc]
    dsimp only
    rw [e]
    exact ih

theorem Goes.display (s : Shared) (hn : n₀ ≤ s.heap.objs.size) (hs1 : 2 ≤ s.heap.objs.size) {pos : Pos} (c : List KV) (cs : List (List KV)) (last : List KV) (hc : ∀ d ∈ c :: cs, d.length = 17) (hlast : last.length < 17) (hl0 : last ≠ [])
    (ha : (((c :: cs).flatten ++ last).map fun x => hashInt x.1).Nodup) (hz : ((c :: cs).flatten ++ last).length ≤ sizeLine) :
    Goes p w n₀ ann (26 * ((c :: cs).flatten ++ last).length) (dictDisplay (itemsOf pos ((c :: cs).flatten ++ last))) s pos (.ref s.heap.objs.size)
      { s with heap := hm s.heap (runOf s.toks c ++ dispE (s.toks + 3 * c.length) (cs ++ [last])) (dispM (s.toks + 3 * c.length) (cs ++ [last])), toks := s.toks + 3 * ((c :: cs).flatten ++ last).length } pos := by
  obtain ⟨heap, gens, drawn, toks, os⟩ := s
  obtain ⟨f, hf, e⟩ := dictDisplay_eq (itemsOf pos ((c :: cs).flatten ++ last))
  rw [e]
  have hcl : c.length = 17 := hc c List.mem_cons_self
  have hcne : c ≠ [] := by intro e; rw [e] at hcl; cases hcl
  rw [List.flatten_cons, List.append_assoc] at ha hz ⊢
  rw [chunk hf pos _ (cs.flatten ++ last) c [] (by simpa using hcl) hcne, List.nil_append, bind_assoc]
  rw [List.map_append] at ha
  rw [List.length_append] at hz
  refine Goes.le (N := (13 * c.length + 2 + 0) + 26 * (cs.flatten ++ last).length) ?_ (by rw [List.length_append (as := c)]; lia)
  refine Goes.bind (a := some heap.objs.size) (s₁ := ⟨hm heap (runOf toks c) [], gens, drawn, toks + 3 * c.length, os⟩) (p₁ := pos) ?_ ?_
  · unfold flushOf
    rw [if_neg (by simp [hcne])]
    dsimp only
    have x := Goes.subDict (p := p) (w := w) (ann := ann) (pos := pos) (s := ⟨heap, gens, drawn, toks, os⟩) c hn (List.nodup_append.mp ha).1 (by lia)
    have e : (⟨hm heap (runOf toks c) [], gens, drawn, toks + 3 * c.length, os⟩ : Shared) = ⟨heap.push (dObj (runOf toks c).toArray c.length), gens, drawn, toks + 3 * c.length, os⟩ := by
      unfold hm Heap.push; rw [runOf_length]; simp
    rw [e]
    exact Goes.bind x (Goes.pure _ _ _)
  · have x := Goes.chunks (p := p) (w := w) (ann := ann) heap hn hs1 (pos := pos) hf last hlast hl0 cs (runOf toks c) [] ⟨hm heap (runOf toks c) [], gens, drawn, toks + 3 * c.length, os⟩ (fun d h => hc d (List.mem_cons_of_mem _ h))
      (by intro e; have := congrArg List.length e; rw [runOf_length, hcl] at this; cases this) rfl (by rw [runOf_hash]; exact ha) (by rw [runOf_length]; lia)
    have e : (⟨hm heap (runOf toks c ++ dispE (toks + 3 * c.length) (cs ++ [last])) (dispM (toks + 3 * c.length) (cs ++ [last])), gens, drawn, toks + 3 * (c ++ (cs.flatten ++ last)).length, os⟩ : Shared) =
        ⟨hm heap (runOf toks c ++ dispE (toks + 3 * c.length) (cs ++ [last])) ([] ++ dispM (toks + 3 * c.length) (cs ++ [last])), gens, drawn, toks + 3 * c.length + 3 * (cs.flatten ++ last).length, os⟩ := by
      rw [List.nil_append, List.length_append (as := c), Nat.mul_add, Nat.add_assoc]
    dsimp only
    rw [e]
    exact x
end
end Mine
end

section
open PySem PySem.W PyProof.Rows
set_option Elab.async false
set_option tactic.hygienic false
set_option maxRecDepth 100000
set_option maxHeartbeats 0
namespace Mine
noncomputable abbrev P1 : Program := PySem.Challenge.pw_re0173_01
noncomputable def env1 : Env := { scope := P1.main.scope, locals := mainNs, globals := mainNs, cells := [], code := .ref 13, frame := some 14 }
noncomputable def body1 : List Stmt := behindTheImports P1
noncomputable def c1 : Code := .body body1 env1
noncomputable def q0 : Pos := ⟨0, 0, 0, 0⟩
noncomputable abbrev B0 : List Frame := [topFrame q0]
noncomputable def S0 (w : World) (os : OsState) : Shared := ⟨boot_heap w.params, Array.mk [], boot_drawn, boot_toks, os⟩
noncomputable def pre1 (w : World) (os : OsState) := topGo treeTable P1 w 11 (some (.ref 6)) 12 (S0 w os) (topStub P1)
noncomputable def Sa (w : World) (os : OsState) : Shared := ((pre1 w os).map (·.1)).getD (S0 w os)
theorem t2 (w : World) (os : OsState) : pre1 w os = some (Sa w os, ⟨denote treeTable c1, c1, q0, B0⟩) := by kernel_rfl
noncomputable def blk1 (w : World) (os : OsState) := segRun treeTable P1 w 11 (some (.ref 6)) 1 1 (Sa w os) (blockOf body1 env1 c1 q0 B0)
theorem t2b (w : World) (os : OsState) : blk1 w os = some (.next, Sa w os, c1, q0) := by kernel_rfl
noncomputable def l1 : List Stmt := body1.take 15
noncomputable def seg1 (w : World) (os : OsState) := segRun treeTable P1 w 11 (some (.ref 6)) 1 500 (Sa w os) (piecesOf l1 env1 c1 q0 B0)
noncomputable def Sb (w : World) (os : OsState) : Shared := ((seg1 w os).map (·.2.1)).getD (S0 w os)
theorem t3 (w : World) (os : OsState) : seg1 w os = some (.next, Sb w os, c1, ⟨124, 0, 124, 8⟩) := by kernel_rfl
-- the dict
noncomputable def dictKeys : Stmt → List (Option Expr)
  | .Assign _ (.Dict ks _ _) _ => ks
  | _ => []
noncomputable def dictVals : Stmt → List Expr
  | .Assign _ (.Dict _ vs _) _ => vs
  | _ => []
noncomputable def dictPos : Stmt → Pos
  | .Assign _ (.Dict _ _ p) _ => p
  | _ => default
noncomputable def stmtPos : Stmt → Pos
  | .Assign _ _ p => p
  | _ => default
noncomputable def kvOf : List (Option Expr) → List Expr → List KV
  | some (.Constant (.int k) _ _) :: ks, .Constant (.str v) _ _ :: vs => (k, v) :: kvOf ks vs
  | _, _ => []
noncomputable def chunks17 : Nat → List KV → List (List KV)
  | 0, _ => []
  | n + 1, l => l.take 17 :: chunks17 n (l.drop 17)
noncomputable def dSt1 : Stmt := body1.getD 15 (.Pass default)
noncomputable def dPos1 : Pos := dictPos dSt1
noncomputable def data1 : List KV := kvOf (dictKeys dSt1) (dictVals dSt1)
theorem dSt1_eq : dSt1 = .Assign [.Name "b3_exceptions" ⟨125, 0, 125, 13⟩] (.Dict (dictKeys dSt1) (dictVals dSt1) dPos1) (stmtPos dSt1) := by kernel_rfl
theorem items1 : (evalEachOpt (dictKeys dSt1) env1).zip ((evalEach (dictVals dSt1) env1).map fun v => do let x ← v; standAt dPos1; pure x) = itemsOf dPos1 data1 := by kernel_rfl
noncomputable def cs1 : List (List KV) := chunks17 37 (data1.drop 17)
noncomputable def last1 : List KV := data1.drop 646
theorem cut1 : data1 = (data1.take 17 :: cs1).flatten ++ last1 := by kernel_rfl
theorem len1 : ((data1.take 17 :: cs1).all fun c => c.length == 17) = true := by kernel_rfl
theorem last1_len : last1.length = 4 := by kernel_rfl
theorem data1_len : data1.length = 650 := by kernel_rfl
noncomputable def rising : List KV → Bool
  | x :: y :: r => decide (x.1 < y.1) && rising (y :: r)
  | _ => true
theorem rising1 : (rising data1 && data1.all fun x => decide (0 ≤ x.1) && decide (x.1 < 2 ^ 60)) = true := by kernel_rfl
end Mine
end

section
open PySem PySem.W PyProof.Rows
set_option Elab.async false
set_option tactic.hygienic false
set_option maxRecDepth 100000
set_option maxHeartbeats 0
namespace Mine
theorem rising_sorted : ∀ (l : List KV), rising l = true → (∀ x ∈ l, 0 ≤ x.1 ∧ x.1 < 2 ^ 60) → (l.map fun x => hashInt x.1).Pairwise (· < ·)
  | [], _, _ => .nil
  | [x], _, _ => by simp
  | x :: y :: r, h, hb => by
    simp only [rising, Bool.and_eq_true, decide_eq_true_eq] at h
    have ih := rising_sorted (y :: r) h.2 fun z hz => hb z (List.mem_cons_of_mem _ hz)
    have hh : ∀ k : Int, 0 ≤ k → k < 2 ^ 60 → hashInt k = k := by
      intro k h0 h1
      unfold hashInt rawHash
      have e : (k.natAbs : Int) % 2305843009213693951 = k := by lia
      have e2 : ¬ k = -1 := by lia
      simp [if_neg (show ¬ k < 0 by lia), e, e2]
    rw [List.map_cons, List.pairwise_cons]
    refine ⟨fun z hz => ?_, ih⟩
    rw [List.map_cons, List.mem_cons] at hz
    have hx := hb x List.mem_cons_self
    have hy := hb y (List.mem_cons_of_mem _ List.mem_cons_self)
    rw [hh x.1 hx.1 hx.2]
    rw [List.map_cons, List.pairwise_cons, hh y.1 hy.1 hy.2] at ih
    rcases hz with rfl | hz
    · rw [hh y.1 hy.1 hy.2]; exact h.1
    · exact Int.lt_trans h.1 (ih.1 z hz)
theorem rising_nodup {l : List KV} (h : (rising l && l.all fun x => decide (0 ≤ x.1) && decide (x.1 < 2 ^ 60)) = true) : (l.map fun x => hashInt x.1).Nodup := by
  simp only [Bool.and_eq_true, List.all_eq_true, decide_eq_true_eq] at h
  exact (rising_sorted l h.1 h.2).imp fun a b => Int.ne_of_lt a b

noncomputable def Sc (w : World) (os : OsState) : Shared :=
  { Sb w os with heap := hm (Sb w os).heap (runOf (Sb w os).toks (data1.take 17) ++ dispE ((Sb w os).toks + 51) (cs1 ++ [last1])) (dispM ((Sb w os).toks + 51) (cs1 ++ [last1])), toks := (Sb w os).toks + 1950 }
theorem Sb_size (w : World) (os : OsState) : (Sb w os).heap.objs.size = 71 := by kernel_rfl

theorem dict1 (w : World) (os : OsState) : Goes P1 w 11 (some (.ref 6)) 16900 (dictDisplay (itemsOf dPos1 data1)) (Sb w os) dPos1 (.ref 71) (Sc w os) dPos1 := by
  have hs := Sb_size w os
  have hl : ∀ d ∈ data1.take 17 :: cs1, d.length = 17 := by
    have := List.all_eq_true.mp len1
    exact fun d hd => eq_of_beq (this d hd)
  have x := Goes.display (p := P1) (w := w) (n₀ := 11) (ann := some (.ref 6)) (pos := dPos1) (Sb w os) (by lia) (by lia) (data1.take 17) cs1 last1 hl (by rw [last1_len]; lia) (by intro e; have := last1_len; rw [e] at this; cases this)
    (by rw [← cut1]; exact rising_nodup rising1) (by rw [← cut1, data1_len, sizeLine_eq]; lia)
  rw [← cut1, hs, data1_len, hl _ List.mem_cons_self] at x
  exact x

noncomputable def segD (w : World) (os : OsState) := segRun treeTable P1 w 11 (some (.ref 6)) 1 30 (Sc w os)
  ⟨(do standAt ⟨125, 0, 125, 13⟩; bindName env1 "b3_exceptions" (.ref 71); pure .next : Sem Flow).wrap doneF deadEnd id id, c1, dPos1, B0⟩
noncomputable def Sd (w : World) (os : OsState) : Shared := ((segD w os).map (·.2.1)).getD (S0 w os)
theorem t4 (w : World) (os : OsState) : segD w os = some (.next, Sd w os, c1, ⟨125, 0, 125, 13⟩) := by kernel_rfl
noncomputable def l2 : List Stmt := body1.drop 16
noncomputable def seg2 (w : World) (os : OsState) := segRun treeTable P1 w 11 (some (.ref 6)) 1 300 (Sd w os) (piecesOf l2 env1 c1 ⟨125, 0, 125, 13⟩ B0)
noncomputable def Se (w : World) (os : OsState) : Shared := ((seg2 w os).map (·.2.1)).getD (S0 w os)
theorem t5 (w : World) (os : OsState) : seg2 w os = some (.next, Se w os, c1, ⟨141, 0, 182, 63⟩) := by kernel_rfl
noncomputable def fin1 (w : World) (os : OsState) := topRun treeTable P1 w 11 (some (.ref 6)) 5 (Se w os) ⟨doneF .next, c1, ⟨141, 0, 182, 63⟩, B0⟩
noncomputable def Sf (w : World) (os : OsState) : Shared := (fin1 w os).getD (S0 w os)
theorem t6 (w : World) (os : OsState) : fin1 w os = some (Sf w os) := by kernel_rfl

theorem body1_eq : body1 = l1 ++ (dSt1 :: l2) := by kernel_rfl
theorem run_dict (w : World) (os : OsState) : ∃ n, n ≤ 17000 ∧ segRun treeTable P1 w 11 (some (.ref 6)) 1 n (Sb w os) (pieceOf dSt1 env1 c1 ⟨124, 0, 124, 8⟩ B0) = some (.next, Sd w os, c1, ⟨125, 0, 125, 13⟩) := by
  have g : Goes P1 w 11 (some (.ref 6)) (1 + (1 + 16900)) (do standAt (stmtPos dSt1); eval (.Dict (dictKeys dSt1) (dictVals dSt1) dPos1) env1) (Sb w os) ⟨124, 0, 124, 8⟩ (.ref 71) (Sc w os) dPos1 := by
    refine Goes.bind Goes.standAt ?_
    rw [PySem.arm_eval_Dict, items1]
    exact Goes.bind Goes.standAt (dict1 w os)
  have e : exec dSt1 env1 = ((do standAt (stmtPos dSt1); eval (.Dict (dictKeys dSt1) (dictVals dSt1) dPos1) env1) >>= fun v => (do standAt ⟨125, 0, 125, 13⟩; bindName env1 "b3_exceptions" v; pure .next : Sem Flow)) := by
    rw [dSt1_eq, exec_Assign_Name _ _ _ _ _ (by kernel_rfl), bind_assoc]
    rfl
  unfold pieceOf
  rw [e, Sem.bind_eq_wrap', Sem.wrap_wrap]
  obtain ⟨n, hle, hn⟩ := g (fun v => (do standAt ⟨125, 0, 125, 13⟩; bindName env1 "b3_exceptions" v; pure .next : Sem Flow).wrap doneF deadEnd id id) (fun e => (Sem.raise e : Sem Flow).wrap doneF deadEnd id id) (fun g => id (id g)) (fun l => id (id l)) c1 (topFrame q0) []
  exact ⟨n + 30, by lia, seg_go hn (t4 w os)⟩

theorem top1 (w : World) (os : OsState) : topRun treeTable P1 w 11 (some (.ref 6)) 20000 (S0 w os) (topStub P1) = some (Sf w os) := by
  obtain ⟨n, hle, hd⟩ := run_dict w os
  have a1 := piece_nil (env := env1) (t6 w os)
  have a2 := piece_app (rest := []) (t5 w os) a1
  rw [List.append_nil] at a2
  have a3 := piece_cons hd a2
  have a4 := piece_app (t3 w os) a3
  rw [← body1_eq] at a4
  have a5 := piece_block (t2b w os) a4
  have a6 := topRun_mono (20000 - (12 + (1 + (500 + (n + (300 + 5)))))) _ _ _ _ (go_top (t2 w os) a5)
  rw [show 12 + (1 + (500 + (n + (300 + 5)))) + (20000 - (12 + (1 + (500 + (n + (300 + 5)))))) = 20000 by lia] at a6
  exact a6
end Mine
end

section
open PySem PySem.W PyProof.Rows
set_option Elab.async false
set_option tactic.hygienic false
set_option maxRecDepth 100000
set_option maxHeartbeats 0
namespace Mine
noncomputable def q1 : Program := { P1 with main := { P1.main with body := [1, 2, 3, 4, 5, 7, 8, 9, 10, 11, 12, 13, 15, 16, 18, 19, 20].filterMap fun i => P1.main.body[i]? } }
noncomputable def entKV (e : DictEntry) : Option KV := match e.key, e.val with
  | .int k _, .str v _ => if e.hash == hashInt k then some (k, v) else none
  | _, _ => none
noncomputable def holdsKV (data : List KV) (h : Heap) : Bool := match h.nsMap mainGlobals "b3_exceptions" with
  | some (.ref d) => match h.get? d with
    | some ⟨.type n, dd, .dict es _, sl⟩ => n == "dict" && dd.isNone && sl.size == 0 && !(d == sysModules) && decide (es.toList.map entKV = data.map some)
    | _ => false
  | _ => false
noncomputable def tabOf (h : Heap) (x : Str) : Option Addr := match h.nsMap mainGlobals x with
  | some (.ref a) => match h.get? a with
    | some ⟨_, _, .func fd, _⟩ => match fd.code with
      | .ref c => match h.get? c with
        | some ⟨_, _, .fields vs, _⟩ => match (vs[11]? : Option Value) with
          | some (.ref P) => some P
          | _ => none
        | _ => none
      | _ => none
    | _ => none
  | _ => none
noncomputable def tabsApart (h : Heap) : Bool := match tabOf h "_int2digits", tabOf h "_digits2int" with
  | some P, some P' => P != P'
  | _, _ => false
noncomputable def Xt1 (s : Shared) : Bool := holdsKV data1 s.heap && tabsApart s.heap
theorem look_a (w : World) (os : OsState) : (staticsOk (importedModules P1.main.body) (S0 w os).heap (Sf w os).heap && namesBound P1 (Sf w os).heap && gensDone (Sf w os) && laidKept (S0 w os).heap (Sf w os).heap) = true := by kernel_rfl
theorem look_b (w : World) (os : OsState) : Xt1 (Sf w os) = true := by kernel_rfl
theorem look_c (w : World) (os : OsState) : openSeen q1 ["b3_exceptions"] (importedModules P1.main.body) Xt1 true (Sf w os) = openGood q1 ["b3_exceptions"] := by kernel_rfl
end Mine
end

section
open PySem PySem.W PyProof.Rows
set_option Elab.async false
set_option tactic.hygienic false
set_option maxRecDepth 100000
set_option maxHeartbeats 0
namespace Mine
theorem opening1 : opening P1 = plainProg P1.main.scope.names := by kernel_rfl
theorem fence1 (s : Shared) : fenceModules? P1 s = some s := by kernel_rfl
theorem ground1 (w : World) (os : OsState) : ((S0 w os).heap.isNs mainGlobals && (S0 w os).gens.size == 0, (S0 w os).heap.objs.size, (S0 w os).heap.nsMap mainGlobals "__annotations__") = (true, 11, some (.ref 6)) := by kernel_rfl
theorem left1 : LeftO P1 q1 ["b3_exceptions"] Xt1 (fun zq => ()) (fun zq => ()) 20000 := fun w => by
  obtain ⟨⟨h, gs, d, k, os⟩, e, e'⟩ := Option.map_eq_some_iff.mp (boot_open (p := P1) (N := 20000) opening1 (by decide) fence1 w)
  obtain ⟨rfl, rfl, rfl, rfl⟩ : h = boot_heap w.params ∧ gs = Array.mk [] ∧ d = boot_drawn ∧ k = boot_toks := by simpa using e'
  obtain ⟨z1, z2, z3⟩ : _ ∧ _ ∧ _ := by simpa only [Prod.mk.injEq] using ground1 w os
  have t : topFrom treeTable P1 w 20000 (S0 w os) = some (Sf w os) := by
    unfold topFrom
    rw [z1, z2, z3, top1 w os]
    show (match staticsOk (importedModules P1.main.body) (S0 w os).heap (Sf w os).heap && namesBound P1 (Sf w os).heap && gensDone (Sf w os) && laidKept (S0 w os).heap (Sf w os).heap with | true => some (Sf w os) | false => none) = _
    rw [look_a w os]
  unfold openEnds
  rw [e]
  show (topFrom treeTable P1 w 20000 (S0 w os)).map _ = _
  rw [t]
  exact congrArg some (Prod.ext (look_c w os) rfl)

noncomputable def TabIs (mg : Str → Option Value) (h : Heap) (x : Str) (P : Addr) : Prop := ∃ a o fd c oc vs, mg x = some (.ref a) ∧ h.get? a = some o ∧ o.data = .func fd ∧ fd.code = .ref c ∧ h.get? c = some oc ∧ oc.data = .fields vs ∧ vs[11]? = some (.ref P)
noncomputable def XP1 (mg : Str → Option Value) (h : Heap) : Prop := (∃ d o es ep, mg "b3_exceptions" = some (.ref d) ∧ h.get? d = some o ∧ o.ExactDict ∧ (d == sysModules) = false ∧ o.data = .dict es ep ∧ es.toList.map entKV = data1.map some) ∧ ∃ P P', P ≠ P' ∧ TabIs mg h "_int2digits" P ∧ TabIs mg h "_digits2int" P'
set_option tactic.hygienic true in
theorem tabOf_some {h : Heap} {x : Str} {P : Addr} (e : tabOf h x = some P) : TabIs (h.nsMap mainGlobals) h x P := by
  unfold tabOf at e
  split at e
  · next a ha =>
    split at e
    · next cl dd fd sl ho =>
      split at e
      · next c hc =>
        split at e
        · next cl2 dd2 vs sl2 hoc =>
          split at e
          · next P' hp => cases e; exact ⟨a, _, fd, c, _, vs, ha, ho, rfl, hc, hoc, rfl, hp⟩
          · cases e
        · cases e
      · cases e
    · cases e
  · cases e
theorem TabIs.keeps {mg : Str → Option Value} {h h' : Heap} {x : Str} {P : Addr} (t : TabIs mg h x P) (k : ∀ b o, h.get? b = some o → h'.get? b = some o) : TabIs mg h' x P := by
  obtain ⟨a, o, fd, c, oc, vs, h1, h2, h3, h4, h5, h6, h7⟩ := t
  exact ⟨a, o, fd, c, oc, vs, h1, k _ _ h2, h3, h4, k _ _ h5, h6, h7⟩
set_option tactic.hygienic true in
theorem XP1_of (s : Shared) (e : Xt1 s = true) : XP1 (s.heap.nsMap mainGlobals) s.heap := by
  unfold Xt1 at e
  rw [Bool.and_eq_true] at e
  obtain ⟨e, e'⟩ := e
  refine ⟨?_, ?_⟩
  · unfold holdsKV at e
    split at e
    · next d hd =>
      split at e
      · next n dd es ep sl ho =>
        simp only [Bool.and_eq_true, decide_eq_true_eq] at e
        obtain ⟨⟨⟨⟨e1, e2⟩, e3⟩, e4⟩, e5⟩ := e
        refine ⟨d, _, es, ep, hd, ho, ⟨by rw [beq_iff_eq.mp e1], by simpa using e2, Array.size_eq_zero_iff.mp (by simpa using e3)⟩, by simpa using e4, rfl, e5⟩
      · cases e
    · cases e
  · unfold tabsApart at e'
    split at e'
    · next P P' h1 h2 => exact ⟨P, P', by simpa using e', tabOf_some h1, tabOf_some h2⟩
    · cases e'
theorem XP1_keeps (mg : Str → Option Value) (h h' : Heap) (x : XP1 mg h) (k : ∀ b o, h.get? b = some o → h'.get? b = some o) : XP1 mg h' := by
  obtain ⟨⟨d, o, es, ep, a, b, c⟩, P, P', n, t1, t2⟩ := x
  exact ⟨⟨d, o, es, ep, a, k _ _ b, c⟩, P, P', n, t1.keeps k, t2.keeps k⟩
theorem some1 : (defOf q1 "law").isSome = true := by kernel_rfl
noncomputable def lawDef : DefRec × List (Str × Expr) := (defOf q1 "law").get some1
theorem def1 : defOf q1 "law" = some lawDef := (Option.some_get some1).symm
theorem the1 : P1.theDef "law" = some (lawDef.1.params, lawDef.1.body, lawDef.1.scope) := by kernel_rfl
theorem kw1 : kwWritten? lawDef.1.params.kwonlyargs lawDef.1.params.kw_defaults = some lawDef.2 := by kernel_rfl
theorem said1 : PySem.Challenge.rw_re0173_01.wellSaid = true := by kernel_rfl
theorem hd1 (call : WalkO q1 ["b3_exceptions"] XP1 (fun zq zq => True) (OpenLaw.row PySem.Challenge.rw_re0173_01).toRowW lawDef.1 lawDef.2 fun f vs => PySem.call f vs) : PySem.Challenge.rw_re0173_01.Holds := by
  refine holds_law (said1) fun said => ?_
  refine PySem.W.holds_open (q := q1) (loose := ["b3_exceptions"]) (Xt := Xt1) (XP := XP1) (Yf := fun zq => ()) (Ya := fun zq => ()) (YP := fun zq zq => True) (N := 20000) (d := lawDef.1) (kwd := lawDef.2) left1
    (fun zq zq zq => trivial) (fun zq zq zq zq zq => trivial) XP1_of XP1_keeps def1 the1 kw1 (fun zq zq => recFacts_nil rfl) rfl (by assumption) ?_ ?_ ?_ call
  · kernel_rfl
  · exact ⟨rfl, rfl, rfl, rfl, rfl, by kernel_rfl⟩
  · w_witness2
end Mine
end

section
open PySem PySem.W PyProof.Rows
set_option Elab.async false
set_option tactic.hygienic false
set_option maxRecDepth 100000
namespace Mine

inductive AV where
  | none | bool (b : Bool) | int (i : Int) | str (s : Str) | tup (xs : List AV) | lst (xs : List AV) | mut (xs : List AV) | view (xs : List AV)
  deriving Inhabited

mutual
noncomputable def RepV (W : Addr → Prop) (h : Heap) : AV → Value → Prop
  | .none, v => v = .none
  | .bool b, v => v = .bool b
  | .int i, v => ∃ t, v = .int i t
  | .str x, v => ∃ t, v = .str x t
  | .tup xs, v => ∃ a vs, v = .ref a ∧ ¬ W a ∧ h.IsTuple a (List.toArray vs) ∧ RepL W h xs vs
  | .lst xs, v => ∃ a vs, v = .ref a ∧ ¬ W a ∧ h.PlainList a (List.toArray vs) ∧ RepL W h xs vs
  | .mut xs, v => ∃ a vs, v = .ref a ∧ h.PlainList a (List.toArray vs) ∧ RepL W h xs vs
  | .view xs, v => ∃ a vs, v = .ref a ∧ h.IsList a (List.toArray vs) ∧ RepL W h xs vs
noncomputable def RepL (W : Addr → Prop) (h : Heap) : List AV → List Value → Prop
  | [], vs => vs = []
  | x :: xs, vs => ∃ v r, vs = v :: r ∧ RepV W h x v ∧ RepL W h xs r
end

noncomputable def tabby (o : Obj) : Bool := match o.cls, o.data with
  | .none, .fields _ => true
  | _, _ => false
theorem solid_cls {o : Obj} {c : String} (h : o.cls = .type c) : tabby o = false := by unfold tabby; rw [h]
theorem solid_data {o : Obj} (h : ∀ xs, o.data ≠ .fields xs) : tabby o = false := by
  unfold tabby
  split
  · next h2 => exact absurd h2 (h _)
  · rfl
theorem solid_dict {o : Obj} {es} {ep} (h : o.data = .dict es ep) : tabby o = false := solid_data fun ys e => by rw [h] at e; cases e
theorem solid_cell {o : Obj} {v : Option Value} (h : o.data = .cell v) : tabby o = false := solid_data fun ys e => by rw [h] at e; cases e
theorem solid_func {o : Obj} {fd : FuncData} (h : o.data = .func fd) : tabby o = false := solid_data fun ys e => by rw [h] at e; cases e
noncomputable abbrev FKept (h h' : Heap) : Prop := ∀ b o, h.get? b = some o → h'.get? b = some o
noncomputable abbrev Kept (h h' : Heap) : Prop := ∀ b o, h.get? b = some o → tabby o = false → h'.get? b = some o
theorem FKept.kept {h h' : Heap} (k : FKept h h') : Kept h h' := fun b o e zq => k b o e
theorem Ns.keepsK {h h' : Heap} {a : Addr} {m} (n : h.Ns a m) (hk : Kept h h') : h'.Ns a m := let ⟨o, es, ep, e, d, r⟩ := n; ⟨o, es, ep, hk _ _ e (solid_dict d), d, r⟩
theorem IsCell.keepsK {h h' : Heap} {c : Addr} {v : Option Value} (n : h.IsCell c v) (hk : Kept h h') : h'.IsCell c v := let ⟨o, e, d⟩ := n; ⟨o, hk _ _ e (solid_cell d), d⟩

noncomputable def innerPos : FuncBody → Option Pos
  | .stmts (_ :: .FunctionDef _ _ _ _ _ _ _ _ _ pos :: _) => some pos
  | .stmts (.FunctionDef _ _ _ _ _ _ _ _ _ pos :: _) => some pos
  | _ => none
theorem byG {P : Prop} (h : ∀ X : Prop, (P → X) → X) : P := h P id
inductive TBi (q : Str) (pos : Pos) (ps : Array Value) (h : Heap) : Prop
  | mk (c' : Addr) (o' : Obj) (k1 : ps = #[rawInt pos.line, rawInt pos.col, .ref c']) (k2 : h.get? c' = some o') (k3 : o'.cls = .type "code") (k4 : h.CodeRec (.ref c') q) : TBi q pos ps h
inductive TBf (name q : Str) (P : Addr) (h : Heap) : Prop
  | mk (mg : Str → Option Value) (a : Addr) (o : Obj) (fd : FuncData) (c : Addr) (ps : Array Value) (pos : Pos) (n : h.Ns mainGlobals mg) (h1 : mg name = some (.ref a)) (h2 : h.get? a = some o) (h3 : o.data = .func fd) (h4 : fd.code = .ref c)
      (h5 : innerPos fd.body = some pos) (h6 : CodeHd h c P) (h7 : h.get? P = some (tabObj ps)) (h8 : ps = #[] ∨ TBi q pos ps h) : TBf name q P h
noncomputable def codey (o : Obj) : Bool := match o.data with
  | .func _ => true
  | .fields _ => (match o.cls with
    | .none => true
    | .type c => c == "code"
    | _ => false)
  | _ => false
theorem codey_code {o : Obj} {vs} (h : o.data = .fields vs) (h' : o.cls = .type "code") : codey o = true := by unfold codey; rw [h, h']; rfl
theorem codey_func {o : Obj} {fd} (h : o.data = .func fd) : codey o = true := by unfold codey; rw [h]
noncomputable def iterO (o : Obj) : Bool := match o.cls, o.data with
  | .type c, .fields _ => c != "code"
  | _, _ => false
theorem iterO_of {o : Obj} {c : String} {vs} (h : o.cls = .type c) (h' : o.data = .fields vs) (hc : (c != "code") = true) : iterO o = true := by unfold iterO; rw [h, h']; exact hc
set_option tactic.hygienic true in
theorem iterO_spec {o : Obj} (h : iterO o = true) : codey o = false ∧ tabby o = false ∧ (∀ xs n, o.data ≠ .seq xs n) ∧ ∀ es ep, o.data ≠ .dict es ep := by
  unfold iterO at h
  split at h
  · next c vs h1 h2 =>
    refine ⟨?_, solid_cls h1, (fun xs n e => by rw [h2] at e; cases e), (fun es ep e => by rw [h2] at e; cases e)⟩
    unfold codey; rw [h1, h2]
    simpa using h
  · cases h
theorem codey_data {o : Obj} (h1 : ∀ vs, o.data ≠ .fields vs) (h2 : ∀ fd, o.data ≠ .func fd) : codey o = false := by
  unfold codey
  split
  · next h => exact absurd h (h2 _)
  · next h => exact absurd h (h1 _)
  · rfl
theorem TBf.but {name q : Str} {P : Addr} {h h' : Heap} (x : TBf name q P h) (hn : ∀ m, h.Ns mainGlobals m → h'.Ns mainGlobals m) (hk : ∀ b o, codey o = true → h.get? b = some o → h'.get? b = some o) : TBf name q P h' := by
  obtain ⟨mg, a, o, fd, c, ps, pos, n, h1, h2, h3, h4, h5, ⟨oc, vs, file, tf, flags, tg, inF, text, tt, e1, e2, e3, e4⟩, h7, h8⟩ := x
  refine ⟨mg, a, o, fd, c, ps, pos, hn _ n, h1, hk _ _ (codey_func h3) h2, h3, h4, h5, ⟨oc, vs, file, tf, flags, tg, inF, text, tt, hk _ _ (codey_code e3 e2) e1, e2, e3, e4⟩, hk _ _ rfl h7, h8.imp id fun z => ?_⟩
  obtain ⟨c', o', k1, k2, k3, c₂, o₂, vs₂, t₂, k4, k5, k6, k7⟩ := z
  obtain rfl := Value.ref.inj k4
  obtain rfl := Option.some.inj (k2.symm.trans k5)
  exact ⟨c', o', k1, hk _ _ (codey_code k6 k3) k2, k3, c', o', vs₂, t₂, rfl, hk _ _ (codey_code k6 k3) k2, k6, k7⟩
noncomputable def qDig : Str := "_int2digits.<locals>.inner"
noncomputable def qInt : Str := "_digits2int.<locals>.inner"
noncomputable def OldT (P P' : Addr) (H h : Heap) : Prop := ∀ b o, H.get? b = some o → tabby o = true → (h.get? b = some o ∨ ((b = P ∨ b = P') ∧ ∃ vs more, o = tabObj vs ∧ h.get? b = some (tabObj (vs ++ more))))
theorem codey_tab {o : Obj} (h : tabby o = true) : codey o = true := by
  unfold tabby at h
  split at h
  · next h1 h2 => unfold codey; rw [h2, h1]
  · cases h
theorem OldT.but {P P' : Addr} {H h h' : Heap} (x : OldT P P' H h) (hk : ∀ b o, codey o = true → h.get? b = some o → h'.get? b = some o) : OldT P P' H h' := fun b o e t => by
  rcases x b o e t with y | ⟨y, vs, more, z, w⟩
  · exact .inl (hk _ _ (codey_tab t) y)
  · exact .inr ⟨y, vs, more, z, hk _ _ rfl w⟩
theorem OldT.trans {P P' : Addr} {H h h' : Heap} (x : OldT P P' H h) (y : OldT P P' h h') : OldT P P' H h' := fun b o e t => by
  rcases x b o e t with z | ⟨z, vs, more, rfl, w⟩
  · exact y b o z t
  · rcases y b _ w rfl with u | ⟨_, vs2, more2, e2, u⟩
    · exact .inr ⟨z, vs, more, rfl, u⟩
    · have e3 : vs ++ more = vs2 := by simp only [tabObj] at e2; injection e2 with _ _ h3; injection h3
      subst e3
      exact .inr ⟨z, vs, more ++ more2, rfl, by rw [u, Array.append_assoc]⟩
theorem Ns.unique {h : Heap} {a : Addr} {m m' : Str → Option Value} (x : h.Ns a m) (y : h.Ns a m') (k : Str) : m k = m' k := by
  obtain ⟨o, es, ep, e, d, _, f⟩ := x
  obtain ⟨o', es', ep', e', d', _, f'⟩ := y
  obtain rfl := Option.some.inj (e.symm.trans e')
  obtain ⟨rfl, -⟩ := Data.dict.inj (d.symm.trans d')
  rw [← f k, ← f' k]
theorem TBf.det {name q : Str} {P P' : Addr} {h : Heap} (x : TBf name q P h) (y : TBf name q P' h) : P = P' := by
  obtain ⟨mg, a, o, fd, c, ps, pos, n, h1, h2, h3, h4, -, ⟨oc, vs, file, tf, flags, tg, inF, text, tt, e1, e2, e3, e4, -⟩, -, -⟩ := x
  obtain ⟨mg', a', o', fd', c', ps', pos', n', h1', h2', h3', h4', -, ⟨oc', vs', file', tf', flags', tg', inF', text', tt', e1', -, e3', e4', -⟩, -, -⟩ := y
  obtain rfl := Value.ref.inj (Option.some.inj (h1.symm.trans ((Ns.unique n n' name).trans h1')))
  obtain rfl := Option.some.inj (h2.symm.trans h2')
  obtain rfl := Data.func.inj (h3.symm.trans h3')
  obtain rfl := Value.ref.inj (h4.symm.trans h4')
  obtain rfl := Option.some.inj (e1.symm.trans e1')
  obtain ⟨rfl⟩ := Data.fields.inj (e3.symm.trans e3')
  exact Value.ref.inj (Option.some.inj (e4.symm.trans e4'))
noncomputable def TB (H h : Heap) : Prop := ∃ P P', P ≠ P' ∧ TBf "_int2digits" qDig P h ∧ TBf "_digits2int" qInt P' h ∧ TBf "_int2digits" qDig P H ∧ TBf "_digits2int" qInt P' H ∧ OldT P P' H h
theorem TB.self {H h : Heap} (x : TB H h) : TB h h := let ⟨P, P', n, a, b, _⟩ := x; ⟨P, P', n, a, b, a, b, fun zq zq e zq => .inl e⟩
theorem TB.trans {H h h' : Heap} (x : TB H h) (y : TB h h') : TB H h' := by
  obtain ⟨P, P', n, a, b, c, d, t⟩ := x
  obtain ⟨Q, Q', n', a', b', c', d', t'⟩ := y
  cases a.det c'
  cases b.det d'
  exact ⟨P, P', n, a', b', c, d, t.trans t'⟩
theorem TB.but {H h h' : Heap} (x : TB H h) (hn : ∀ m, h.Ns mainGlobals m → h'.Ns mainGlobals m) (hk : ∀ b o, codey o = true → h.get? b = some o → h'.get? b = some o) : TB H h' := let ⟨P, P', n, a, b, c, d, t⟩ := x; ⟨P, P', n, a.but hn hk, b.but hn hk, c, d, t.but hk⟩
theorem TB.main {H h : Heap} (x : TB H h) : ∃ mg, h.Ns mainGlobals mg := by
  obtain ⟨_, _, _, ⟨mg, _, _, _, _, _, _, n, _⟩, _⟩ := x
  exact ⟨mg, n⟩
theorem TB.keeps {H h h' : Heap} (x : TB H h) (hk : FKept h h') : TB H h' := x.but (fun zq n => n.keeps hk) (fun b o zq e => hk b o e)
theorem TB.wr {H h h' : Heap} {wr : List Addr} (x : TB H h) (kk : ∀ b o, b ∉ wr → h.get? b = some o → h'.get? b = some o) (hw : ∀ b ∈ wr, ∃ o, h.get? b = some o ∧ iterO o = true) : TB H h' :=
  x.but (fun _ ⟨o, es, ep, e, d, r⟩ => ⟨o, es, ep, kk _ _ (fun m => by obtain ⟨o', e', s⟩ := hw _ m; rw [e] at e'; cases e'; exact (iterO_spec s).2.2.2 _ _ d) e, d, r⟩)
    (fun b o s e => kk _ _ (fun m => by obtain ⟨o', e', s'⟩ := hw _ m; rw [e] at e'; cases e'; rw [(iterO_spec s').1] at s; cases s) e)
theorem none_wr {h h' : Heap} {wr : List Addr} (kk : ∀ b o, b ∉ wr → h.get? b = some o → h'.get? b = some o) (hw : ∀ b ∈ wr, (h'.get? b).isSome = true) (b : Addr) (e : h'.get? b = none) : h.get? b = none := by
  by_cases m : b ∈ wr
  · have := hw b m; rw [e] at this; cases this
  · cases q : h.get? b with
    | none => rfl
    | some o => rw [kk b o m q] at e; cases e
theorem none_but {h h' : Heap} {a : Addr} (kk : ∀ b o, b ≠ a → h.get? b = some o → h'.get? b = some o) (ha : (h'.get? a).isSome = true) (b : Addr) (e : h'.get? b = none) : h.get? b = none :=
  none_wr (wr := [a]) (fun b o m => kk b o fun q => m (by rw [q]; exact List.mem_singleton.mpr rfl)) (fun b m => by rw [List.mem_singleton.mp m]; exact ha) b e
theorem TB.change {H h h' : Heap} {a : Addr} {oa : Obj} (x : TB H h) (hk : ∀ b o, b ≠ a → h.get? b = some o → h'.get? b = some o) (hm : a ≠ mainGlobals) (ha : h.get? a = some oa) (hc : codey oa = false) : TB H h' :=
  x.but (fun _ ⟨o, es, ep, e, r⟩ => ⟨o, es, ep, hk _ _ (Ne.symm hm) e, r⟩) (fun b o s e => hk _ _ (fun q => by rw [q, ha] at e; cases e; rw [hc] at s; cases s) e)
theorem codey_ns {h : Heap} {a : Addr} {m} (n : h.Ns a m) : ∃ o, h.get? a = some o ∧ codey o = false := let ⟨o, es, ep, e, d, _⟩ := n; ⟨o, e, codey_data (fun zq q => by rw [d] at q; cases q) (fun zq q => by rw [d] at q; cases q)⟩
theorem codey_cell {h : Heap} {a : Addr} {v} (n : h.IsCell a v) : ∃ o, h.get? a = some o ∧ codey o = false := let ⟨o, e, d⟩ := n; ⟨o, e, codey_data (fun zq q => by rw [d] at q; cases q) (fun zq q => by rw [d] at q; cases q)⟩
theorem codey_list {h : Heap} {a : Addr} {us} (n : h.PlainList a us) : ∃ o, h.get? a = some o ∧ codey o = false := let ⟨_, e⟩ := n; ⟨_, e, rfl⟩

mutual
theorem RepV.mono {W W' : Addr → Prop} {h h' : Heap} (hk : ∀ b o, ¬ W b → h.get? b = some o → tabby o = false → h'.get? b = some o) (hm : ∀ b o, W b → h.get? b = some o → tabby o = false → h'.get? b = some o)
    (hW : ∀ b, (h.get? b).isSome = true → W' b → W b) : ∀ (x : AV) (v : Value), RepV W h x v → RepV W' h' x v
  | .none, _, r | .bool _, _, r | .int _, _, r | .str _, _, r => r
  | .tup xs, v, ⟨a, vs, e, hw, ⟨o, ho, hc, hd⟩, r⟩ => ⟨a, vs, e, fun w => hw (hW a (by rw [ho]; rfl) w), ⟨o, hk a o hw ho (solid_cls hc), hc, hd⟩, RepL.mono hk hm hW xs vs r⟩
  | .lst xs, v, ⟨a, vs, e, hw, ⟨o, ho⟩, r⟩ => ⟨a, vs, e, fun w => hw (hW a (by rw [ho]; rfl) w), ⟨o, hk a _ hw ho rfl⟩, RepL.mono hk hm hW xs vs r⟩
  | .mut xs, v, ⟨a, vs, e, ⟨o, ho⟩, r⟩ => ⟨a, vs, e, ⟨o, (by
      by_cases w : W a
      · exact hm a _ w ho rfl
      · exact hk a _ w ho rfl)⟩, RepL.mono hk hm hW xs vs r⟩
  | .view xs, v, ⟨a, vs, e, ⟨o, ho, hc, hd⟩, r⟩ => ⟨a, vs, e, ⟨o, (by
      by_cases w : W a
      · exact hm a o w ho (solid_cls hc)
      · exact hk a o w ho (solid_cls hc)), hc, hd⟩, RepL.mono hk hm hW xs vs r⟩
theorem RepL.mono {W W' : Addr → Prop} {h h' : Heap} (hk : ∀ b o, ¬ W b → h.get? b = some o → tabby o = false → h'.get? b = some o) (hm : ∀ b o, W b → h.get? b = some o → tabby o = false → h'.get? b = some o)
    (hW : ∀ b, (h.get? b).isSome = true → W' b → W b) : ∀ (xs : List AV) (vs : List Value), RepL W h xs vs → RepL W' h' xs vs
  | [], _, r => r
  | x :: xs, _, ⟨v, q, e, a, b⟩ => ⟨v, q, e, RepV.mono hk hm hW x v a, RepL.mono hk hm hW xs q b⟩
end

mutual
noncomputable def AV.firm : AV → Bool
  | .none | .bool _ | .int _ | .str _ => true
  | .tup xs => firmL xs
  | .lst xs => firmL xs
  | .mut _ | .view _ => false
noncomputable def firmL : List AV → Bool
  | [] => true
  | x :: xs => x.firm && firmL xs
end

mutual
theorem RepV.firm {W W' : Addr → Prop} {h h' : Heap} (hk : ∀ b o, ¬ W b → h.get? b = some o → tabby o = false → h'.get? b = some o)
    (hW : ∀ b, (h.get? b).isSome = true → W' b → W b) : ∀ (x : AV) (v : Value), x.firm = true → RepV W h x v → RepV W' h' x v
  | .none, _, _, r | .bool _, _, _, r | .int _, _, _, r | .str _, _, _, r => r
  | .tup xs, v, f, ⟨a, vs, e, hw, ⟨o, ho, hc, hd⟩, r⟩ => ⟨a, vs, e, fun w => hw (hW a (by rw [ho]; rfl) w), ⟨o, hk a o hw ho (solid_cls hc), hc, hd⟩, RepL.firm hk hW xs vs f r⟩
  | .lst xs, v, f, ⟨a, vs, e, hw, ⟨o, ho⟩, r⟩ => ⟨a, vs, e, fun w => hw (hW a (by rw [ho]; rfl) w), ⟨o, hk a _ hw ho rfl⟩, RepL.firm hk hW xs vs f r⟩
theorem RepL.firm {W W' : Addr → Prop} {h h' : Heap} (hk : ∀ b o, ¬ W b → h.get? b = some o → tabby o = false → h'.get? b = some o)
    (hW : ∀ b, (h.get? b).isSome = true → W' b → W b) : ∀ (xs : List AV) (vs : List Value), firmL xs = true → RepL W h xs vs → RepL W' h' xs vs
  | [], _, _, r => r
  | x :: xs, _, f, ⟨v, q, e, a, b⟩ => by
    unfold firmL at f
    rw [Bool.and_eq_true] at f
    exact ⟨v, q, e, RepV.firm hk hW x v f.1 a, RepL.firm hk hW xs q f.2 b⟩
end

theorem RepL.length {W h} : ∀ {xs : List AV} {vs : List Value}, RepL W h xs vs → vs.length = xs.length
  | [], _, r => by rw [show _ = [] from r]; rfl
  | x :: xs, _, ⟨v, q, e, _, b⟩ => by rw [e, List.length_cons, List.length_cons, RepL.length b]
theorem RepL.get {W h} : ∀ {xs : List AV} {vs : List Value} {i : Nat} {x : AV}, RepL W h xs vs → xs[i]? = some x → ∃ v, vs[i]? = some v ∧ RepV W h x v
  | [], _, i, x, _, e => by simp at e
  | y :: xs, _, 0, x, ⟨v, q, e, a, b⟩, hx => by
    rw [List.getElem?_cons_zero] at hx
    cases hx
    exact ⟨v, by rw [e]; rfl, a⟩
  | y :: xs, _, i + 1, x, ⟨v, q, e, a, b⟩, hx => by
    rw [List.getElem?_cons_succ] at hx
    obtain ⟨u, hu, r⟩ := RepL.get b hx
    exact ⟨u, by rw [e, List.getElem?_cons_succ]; exact hu, r⟩
theorem RepL.append {W h} : ∀ {xs ys : List AV} {vs us : List Value}, RepL W h xs vs → RepL W h ys us → RepL W h (xs ++ ys) (vs ++ us)
  | [], _, _, _, r, r' => by rw [show _ = [] from r]; exact r'
  | x :: xs, _, _, _, ⟨v, q, e, a, b⟩, r' => ⟨v, q ++ _, by rw [e]; rfl, a, RepL.append b r'⟩
theorem RepL.one {W h x v} (r : RepV W h x v) : RepL W h [x] [v] := ⟨v, [], rfl, r, rfl⟩
theorem RepL.firmL_of_mem {xs : List AV} (h : firmL xs = true) : ∀ x ∈ xs, x.firm = true := by
  induction xs with
  | nil => intro x hx; cases hx
  | cons y ys ih =>
    unfold firmL at h
    rw [Bool.and_eq_true] at h
    intro x hx
    rcases List.mem_cons.mp hx with rfl | hx
    · exact h.1
    · exact ih h.2 x hx
theorem firmL_iff {xs : List AV} : firmL xs = true ↔ ∀ x ∈ xs, x.firm = true := by
  induction xs with
  | nil => simp [firmL]
  | cons y ys ih => simp [firmL, ih]

structure TopK (p : Program) (loose : List Str) (mg mb : Str → Option Value) (h : Heap) : Prop where
  g : h.Ns mainGlobals mg
  b : h.Ns builtinsNs mb
  nolimit : h.NoLimit
  fn : ∀ d ∈ recsOf p, ∃ a o pm c oc doc, mg d.name = some (.ref a) ∧ h.get? a = some o ∧ o.data = .func (Calls.docDef d.name d.params d.body d.scope pm (.ref c) doc) ∧ h.CodeRec (.ref c) d.name ∧ h.get? c = some oc ∧ oc.cls = .type "code"
  const : ∀ x d, valOf p x = some d → ∃ v, mg x = some v ∧ ∀ h' : Heap, Reads h' v d []
  free : ∀ x, x ∉ startupNames → x ∉ loose → x ∉ (recsOf p).map (·.name) → x ∉ (litsOf p).map (·.1) → x ∉ (clssOf p loose).map (·.name) → mg x = none
  builtins : ∀ x : Str, x ≠ "__name__" → mb x = bootBuiltins x
  bmain : ∃ bm ob, mg "__builtins__" = some (.ref bm) ∧ bm ≠ builtinsNs ∧ h.get? bm = some ob ∧ ob.cls = .type "module" ∧ ob.dict = some builtinsNs ∧ ob.data = .plain
theorem TopK.of {p : Program} {loose : List Str} {mean : ExcName → Option Value} {mg mb : Str → Option Value} {h : Heap} (T : Top p loose mean mg mb h) : TopK p loose mg mb h where
  g := T.g
  b := T.b
  nolimit := T.nolimit
  fn := fun d hd => by
    obtain ⟨a, o, pm, code, doc, h1, h2, h3, h4⟩ := T.fn d hd
    obtain ⟨a', o', fd, c, P, k1, k2, k3, k4, k5, ⟨⟨oc, vs, k6, k7, _⟩, _⟩⟩ := T.tab d hd
    rw [h1] at k1; cases k1
    rw [h2] at k2; cases k2
    rw [h3] at k3; cases k3
    cases (show code = .ref c from k4)
    exact ⟨a, o, pm, c, oc, doc, h1, h2, h3, h4, k6, k7⟩
  const := T.const
  free := T.free
  builtins := T.builtins
  bmain := T.bmain
theorem CodeRec.keepsK {h h' : Heap} {c : Addr} {oc : Obj} {q : Str} (x : h.CodeRec (.ref c) q) (e : h.get? c = some oc) (s : oc.cls = .type "code") (hk : Kept h h') : h'.CodeRec (.ref c) q := by
  obtain ⟨c', o, vs, t, e1, e2, r⟩ := x
  cases e1
  rw [e] at e2; cases e2
  exact ⟨c, oc, vs, t, rfl, hk _ _ e (solid_cls s), r⟩
theorem NoLimit.keepsK {h h' : Heap} (x : h.NoLimit) (hk : Kept h h') : h'.NoLimit := let ⟨mc, a, b⟩ := x; ⟨mc, Ns.keepsK a hk, b⟩
theorem TopK.keeps {p : Program} {loose : List Str} {mg mb : Str → Option Value} {h h' : Heap} (T : TopK p loose mg mb h) (hk : Kept h h') : TopK p loose mg mb h' where
  g := Ns.keepsK T.g hk
  b := Ns.keepsK T.b hk
  nolimit := NoLimit.keepsK T.nolimit hk
  fn := fun d hd => by
    obtain ⟨a, o, pm, c, oc, doc, h1, h2, h3, h4, h5, h6⟩ := T.fn d hd
    exact ⟨a, o, pm, c, oc, doc, h1, hk _ _ h2 (solid_func h3), h3, CodeRec.keepsK h4 h5 h6 hk, hk _ _ h5 (solid_cls h6), h6⟩
  const := T.const
  free := T.free
  builtins := T.builtins
  bmain := let ⟨bm, ob, h1, h2, h3, h4, r⟩ := T.bmain; ⟨bm, ob, h1, h2, hk _ _ h3 (solid_cls h4), h4, r⟩
structure Gl where
  prog : Program
  w : World
  q : Program
  loose : List Str
  mg : Str → Option Value
  mb : Str → Option Value
  h₀ : Heap
  start : Heap
  top : TopK q loose mg mb h₀
  dd : List (Int × Str)
  b3 : ∃ d o es ep, mg "b3_exceptions" = some (.ref d) ∧ h₀.get? d = some o ∧ o.ExactDict ∧ (d == sysModules) = false ∧ o.data = .dict es ep ∧ es.toList.map (fun e => match e.key, e.val with
    | .int k _, .str v _ => if e.hash == hashInt k then some (k, v) else none
    | _, _ => none) = dd.map some
noncomputable abbrev Gl.M (G : Gl) : Model := model G.prog G.w

noncomputable def Loads (env : Env) (h : Heap) (x : Str) (ov : Option Value) : Prop :=
  (env.kindOf x = some .local ∧ ∃ m, h.Ns env.locals m ∧ m x = ov) ∨ ((env.kindOf x = some .cell ∨ env.kindOf x = some .free) ∧ ∃ c, env.cells.lookup x = some c ∧ h.IsCell c ov)

inductive Slot where
  | unset | val (v : AV) | mls (xs : List AV) | mgr (rows : List (List AV)) | scr (xs : List AV)
  deriving Inhabited

noncomputable def RepRows (W : Addr → Prop) (h : Heap) : List (List AV) → List Addr → Prop
  | [], ds => ds = []
  | r :: rs, ds => ∃ d q vs, ds = d :: q ∧ h.PlainList d (List.toArray vs) ∧ RepL W h r vs ∧ RepRows W h rs q

noncomputable def SlotRep (W : Addr → Prop) (h : Heap) : Slot → Option Value → Prop
  | .unset, _ => True
  | .val x, ov => ∃ v, ov = some v ∧ RepV W h x v ∧ x.firm = true
  | .mls xs, ov => ∃ d vs, ov = some (.ref d) ∧ h.PlainList d (List.toArray vs) ∧ RepL W h xs vs ∧ firmL xs = true
  | .mgr rows, ov => ∃ d ds, ov = some (.ref d) ∧ h.PlainList d (List.toArray (ds.map Value.ref)) ∧ RepRows W h rows ds ∧ rows.all firmL = true
  | .scr xs, ov => ∃ d vs, ov = some (.ref d) ∧ ¬ W d ∧ h.IsList d (List.toArray vs) ∧ RepL W h xs vs ∧ firmL xs = true

structure EnvF (env : Env) (sc : List (Str × NameKind)) : Prop where
  kind : env.scope.kind = .function
  globals : env.globals = mainGlobals
  builtins : env.builtins = builtinsNs
  names : env.scope.names = sc
  cells : ∀ x kd, sc.lookup x = some kd → (kd = .cell ∨ kd = .free) → ∃ c, env.cells.lookup x = some c
theorem EnvF.glob {env : Env} {sc : List (Str × NameKind)} (e : EnvF env sc) (g : Str) (h : sc.lookup g = some .globalImplicit) : env.kindOf g = some .globalImplicit := by
  unfold Env.kindOf; rw [e.names]; exact h

noncomputable def RS (W : Addr → Prop) (env : Env) (names : List Str) (sl : List Slot) (h : Heap) : Prop :=
  ∀ (i : Nat) (x : Str) (s : Slot), names[i]? = some x → sl[i]? = some s → s ≠ .unset → ∃ ov, Loads env h x ov ∧ SlotRep W h s ov

structure Base (G : Gl) (W : Addr → Prop) (s : Shared) : Prop where
  keep : Kept G.h₀ s.heap
  gone : ∀ b, s.heap.get? b = none → G.h₀.get? b = none
  tb : TB G.start s.heap
  above : ∀ a, W a → (s.heap.get? a).isSome = true ∧ G.h₀.get? a = none

theorem Base.notMain {G : Gl} {W : Addr → Prop} {s : Shared} (b : Base G W s) {a : Addr} (w : W a) : a ≠ mainGlobals := fun e => by
  obtain ⟨o, es, ep, h, _⟩ := G.top.g
  rw [← e, (b.above a w).2] at h; cases h

structure Room (A : Around) (k : Nat) : Prop where
  handled : A.handled = none
  depth : A.depth + k < 1000
  units : A.units + 8 * k < 9000

theorem Room.le {A : Around} {k k' : Nat} (r : Room A k) (h : k' ≤ k) : Room A k' := ⟨r.handled, by have := r.depth; lia, by have := r.units; lia⟩
theorem Room.deeper {A : Around} {k : Nat} {env : Env} (r : Room A (k + 1)) : Room (A.deeper env) k := ⟨r.handled, by have := r.depth; simp only [Around.deeper]; lia, by have := r.units; simp only [Around.deeper]; lia⟩
theorem Room.limit {A : Around} {k : Nat} (r : Room A k) : A.depth < recursionLimit := by have := r.depth; unfold recursionLimit; lia

mutual
theorem RepV.grow {W : Addr → Prop} {h h' : Heap} (hk : Kept h h') (x : AV) (v : Value) (r : RepV W h x v) : RepV W h' x v :=
  RepV.mono (fun b o zq => hk b o) (fun b o zq => hk b o) (fun zq zq w => w) x v r
theorem RepL.grow {W : Addr → Prop} {h h' : Heap} (hk : Kept h h') (xs : List AV) (vs : List Value) (r : RepL W h xs vs) : RepL W h' xs vs :=
  RepL.mono (fun b o zq => hk b o) (fun b o zq => hk b o) (fun zq zq w => w) xs vs r
end

theorem Loads.grow {env : Env} {h h' : Heap} {x : Str} {ov : Option Value} (hk : Kept h h') (l : Loads env h x ov) : Loads env h' x ov := by
  rcases l with ⟨a, m, n, e⟩ | ⟨a, c, b, n⟩
  · exact .inl ⟨a, m, Ns.keepsK n hk, e⟩
  · exact .inr ⟨a, c, b, IsCell.keepsK n hk⟩
theorem IsList.grow {h h' : Heap} {a : Addr} {xs : Array Value} (hk : Kept h h') (l : h.IsList a xs) : h'.IsList a xs := let ⟨o, ho, hc, r⟩ := l; ⟨o, hk _ _ ho (solid_cls hc), hc, r⟩
theorem PlainList.grow {h h' : Heap} {a : Addr} {xs : Array Value} (hk : Kept h h') (l : h.PlainList a xs) : h'.PlainList a xs := let ⟨o, ho⟩ := l; ⟨o, hk _ _ ho rfl⟩
theorem RepRows.grow {W : Addr → Prop} {h h' : Heap} (hk : Kept h h') : ∀ {rs : List (List AV)} {ds : List Addr}, RepRows W h rs ds → RepRows W h' rs ds
  | [], _, r => r
  | _ :: _, _, ⟨d, q, vs, e, l, r, rr⟩ => ⟨d, q, vs, e, PlainList.grow hk l, RepL.grow hk _ _ r, RepRows.grow hk rr⟩
theorem SlotRep.grow {W : Addr → Prop} {h h' : Heap} (hk : Kept h h') {s : Slot} {ov : Option Value} (r : SlotRep W h s ov) : SlotRep W h' s ov := by
  cases s with
  | unset => trivial
  | val x => obtain ⟨v, e, a, f⟩ := r; exact ⟨v, e, RepV.grow hk _ _ a, f⟩
  | mls xs => obtain ⟨d, vs, e, l, a, f⟩ := r; exact ⟨d, vs, e, PlainList.grow hk l, RepL.grow hk _ _ a, f⟩
  | mgr rows => obtain ⟨d, ds, e, l, a, f⟩ := r; exact ⟨d, ds, e, PlainList.grow hk l, RepRows.grow hk a, f⟩
  | scr xs => obtain ⟨d, vs, e, n, l, a, f⟩ := r; exact ⟨d, vs, e, n, IsList.grow hk l, RepL.grow hk _ _ a, f⟩
theorem RS.grow {W : Addr → Prop} {env : Env} {names : List Str} {sl : List Slot} {h h' : Heap} (hk : Kept h h') (r : RS W env names sl h) : RS W env names sl h' := fun i x s a b c => by
  obtain ⟨ov, l, q⟩ := r i x s a b c
  exact ⟨ov, l.grow hk, q.grow hk⟩

noncomputable def Ext (s s' : Shared) : Prop := ∃ h tk, s' = { s with heap := h, toks := tk } ∧ Kept s.heap h ∧ (∀ b, h.get? b = none → s.heap.get? b = none) ∧ (∀ H, TB H s.heap → TB H h)
theorem Ext.refl (s : Shared) : Ext s s := ⟨s.heap, s.toks, rfl, fun zq zq e zq => e, fun zq e => e, fun zq x => x⟩
theorem Ext.trans {a b c : Shared} (x : Ext a b) (y : Ext b c) : Ext a c := by
  obtain ⟨h, t, rfl, k, n, w⟩ := x
  obtain ⟨h', t', rfl, k', n', w'⟩ := y
  exact ⟨h', t', rfl, fun b o e s => k' b o (k b o e s) s, fun b e => n b (n' b e), fun H x => w' H (w H x)⟩
theorem Ext.kept {a b : Shared} (x : Ext a b) : Kept a.heap b.heap := by obtain ⟨h, t, rfl, k, _⟩ := x; exact k
theorem Ext.gone {a b : Shared} (x : Ext a b) {d : Addr} (e : b.heap.get? d = Option.none) : a.heap.get? d = Option.none := by obtain ⟨h, t, rfl, k, n, _⟩ := x; exact n d e
theorem Ext.tb {H : Heap} {a b : Shared} (x : Ext a b) : TB H a.heap → TB H b.heap := by obtain ⟨h, t, rfl, k, _, w⟩ := x; exact w H
theorem none_full {h h' : Heap} (k : FKept h h') (b : Addr) (e : h'.get? b = Option.none) : h.get? b = Option.none := by
  cases q : h.get? b with
  | none => rfl
  | some o => rw [k b o q] at e; cases e
theorem Ext.tok {s : Shared} {t : Nat} : Ext s { s with toks := t } := ⟨s.heap, t, rfl, fun zq zq e zq => e, fun zq e => e, fun zq x => x⟩
theorem Ext.of {s : Shared} {h : Heap} {t : Nat} (k : FKept s.heap h) : Ext s { s with heap := h, toks := t } := ⟨h, t, rfl, k.kept, none_full k, fun zq x => x.keeps k⟩
theorem Ext.some {a b : Shared} (x : Ext a b) {d : Addr} (e : (a.heap.get? d).isSome = true) : (b.heap.get? d).isSome = true := by
  cases q : b.heap.get? d with
  | none => rw [x.gone q] at e; cases e
  | some o => rfl
theorem Base.ext {G : Gl} {W : Addr → Prop} {s s' : Shared} (b : Base G W s) (x : Ext s s') : Base G W s' :=
  ⟨fun a o e h => x.kept a o (b.keep a o e h) h, fun a e => b.gone a (x.gone e), x.tb b.tb, fun a w => ⟨x.some (b.above a w).1, (b.above a w).2⟩⟩
theorem get_size (h : Heap) : h.get? h.objs.size = none := by
  cases e : h.get? h.objs.size with
  | none => rfl
  | some o => exact absurd (Heap.lt_size e) (Nat.lt_irrefl _)
theorem Base.new {G : Gl} {W : Addr → Prop} {s : Shared} (b : Base G W s) {a : Addr} (h : s.heap.get? a = none) : ¬ W a := fun w => by
  have := (b.above a w).1
  rw [h] at this; cases this
theorem Base.fresh {G : Gl} {W : Addr → Prop} {s : Shared} (b : Base G W s) {a : Addr} (h : s.heap.objs.size ≤ a) : ¬ W a := b.new (by
  cases e : s.heap.get? a with
  | none => rfl
  | some o => exact absurd (Heap.lt_size e) (Nat.not_lt.mpr h))
end Mine
end

section
open PySem PySem.W PyProof.Rows
set_option Elab.async false
set_option tactic.hygienic false
set_option maxRecDepth 100000
set_option exponentiation.threshold 5000
namespace Mine

noncomputable def Slot.read : Slot → Option AV
  | .unset => none
  | .val x => some x
  | .mls xs => some (.mut xs)
  | .mgr rows => some (.mut (rows.map .mut))
  | .scr xs => some (.view xs)

noncomputable def truth : AV → Option Bool
  | .none => some false
  | .bool b => some b
  | .int i => some (i != 0)
  | .str s => if s.length < 1000000 then some (!(s.length == 0)) else none
  | .lst xs | .mut xs | .view xs => if xs.length < 1000000 then some (!xs.isEmpty) else none
  | .tup _ => none

noncomputable def EvS (G : Gl) (W : Addr → Prop) (k : Nat) (names : List Str) (sc : List (Str × NameKind)) (ex : Expr) (f : List Slot → Option AV) : Prop :=
  ∀ (A : Around) (env : Env) (s : Shared) (sl : List Slot), Room A k → EnvF env sc → RS W env names sl s.heap → Base G W s → ∀ av, f sl = some av →
    ∀ Q : Value → Shared → Prop, (∀ v s', Ext s s' → RepV W s'.heap av v → Q v s') → wpAny G.M A (eval ex env) Q (fun zq zq => False) s

noncomputable def TsS (G : Gl) (W : Addr → Prop) (k : Nat) (names : List Str) (sc : List (Str × NameKind)) (ex : Expr) (f : List Slot → Option AV) : Prop :=
  ∀ (A : Around) (env : Env) (s : Shared) (sl : List Slot), Room A k → EnvF env sc → RS W env names sl s.heap → Base G W s → ∀ av b, f sl = some av → truth av = some b →
    ∀ Q : Bool → Shared → Prop, (∀ s', Ext s s' → Q b s') → wpAny G.M A (PySem.isTrue ex env (eval ex env)) Q (fun zq zq => False) s

section
variable {G : Gl} {W : Addr → Prop} {k : Nat} {names : List Str} {sc : List (Str × NameKind)}

theorem RepRows.mut {h : Heap} : ∀ {rows : List (List AV)} {ds : List Addr}, RepRows W h rows ds → RepL W h (rows.map .mut) (ds.map Value.ref)
  | [], _, r => by rw [show _ = [] from r]; rfl
  | r :: rs, _, ⟨d, q, vs, e, l, a, b⟩ => ⟨.ref d, q.map Value.ref, by rw [e]; rfl, ⟨d, vs, rfl, l, a⟩, RepRows.mut b⟩

theorem SlotRep.read {h : Heap} {s : Slot} {ov : Option Value} {av : AV} (r : SlotRep W h s ov) (e : s.read = some av) : ∃ v, ov = some v ∧ RepV W h av v := by
  cases s with
  | unset => cases e
  | val x => cases e; obtain ⟨v, a, b, _⟩ := r; exact ⟨v, a, b⟩
  | mls xs => cases e; obtain ⟨d, vs, a, b, c, _⟩ := r; exact ⟨_, a, d, vs, rfl, b, c⟩
  | mgr rows => cases e; obtain ⟨d, ds, a, b, c, _⟩ := r; exact ⟨_, a, d, _, rfl, b, c.mut⟩
  | scr xs => cases e; obtain ⟨d, vs, a, n, b, c, _⟩ := r; exact ⟨_, a, d, vs, rfl, b, c⟩

theorem EvS.var {i : Nat} {x : Str} {p : Pos} (hx : names[i]? = some x) (hd : (x == ("__debug__" : Str)) = false) (hc : (x == ("__classdict__" : Str)) = false) :
    EvS G W k names sc (.Name x p) (fun sl => (sl[i]?).bind Slot.read) := by
  intro A env s sl ro ef rs ba av hf Q hQ
  obtain ⟨sv, h1, h2⟩ := Option.bind_eq_some_iff.mp hf
  obtain ⟨ov, l, r⟩ := rs i x sv hx h1 (fun e => by rw [e] at h2; cases h2)
  obtain ⟨v, rfl, rv⟩ := r.read h2
  refine wpAny_Name ?_ hd
  rcases l with ⟨a, m, n, e⟩ | ⟨a | a, c, b, n⟩
  · exact wpAny_loadName_local ef.kind a n e (hQ v s (.refl s) rv)
  · exact wpAny_loadName_cell ef.kind a b n (hQ v s (.refl s) rv)
  · exact wpAny_loadName_free ef.kind a b n (hQ v s (.refl s) rv) hc

theorem EvS.int {i : Int} {kd : Nat} {p : Pos} : EvS G W k names sc (.Constant (.int i) kd p) (fun zq => some (.int i)) := by
  intro A env s sl ro ef rs ba av hf Q hQ
  cases hf
  exact wpAny_Constant_int (hQ _ _ .tok ⟨_, rfl⟩)
theorem EvS.bool {b : Bool} {kd : Nat} {p : Pos} : EvS G W k names sc (.Constant (.bool b) kd p) (fun zq => some (.bool b)) := by
  intro A env s sl ro ef rs ba av hf Q hQ
  cases hf
  exact Constant_bool (hQ _ _ (.refl s) rfl)
theorem EvS.none {kd : Nat} {p : Pos} : EvS G W k names sc (.Constant .none kd p) (fun zq => some .none) := by
  intro A env s sl ro ef rs ba av hf Q hQ
  cases hf
  exact Constant_none (hQ _ _ (.refl s) rfl)
theorem EvS.str {x : Str} {kd : Nat} {p : Pos} : EvS G W k names sc (.Constant (.str x) kd p) (fun zq => some (.str x)) := by
  intro A env s sl ro ef rs ba av hf Q hQ
  cases hf
  show wpAny _ _ (mkText x) _ _ _
  exact wpAny_mkText (hQ _ _ .tok ⟨_, rfl⟩)

theorem load_global {A : Around} {env : Env} {s : Shared} {g : Str} {v : Value} {Q : Value → Shared → Prop} {E : Value → Shared → Prop} (ef : EnvF env sc) (ba : Base G W s) (hg : sc.lookup g = some .globalImplicit) (hv : G.mg g = some v) (h : Q v s) :
    wpAny G.M A (loadName env g) Q E s := by
  refine ks_loadName_global ef.kind (ef.glob g hg) ?_
  unfold loadGlobal
  rw [ef.globals]
  refine wpAny_bind (wpAny_nsGet (Ns.keepsK G.top.g ba.keep) ?_)
  rw [hv]
  exact wpAny_pure h
theorem load_builtin {A : Around} {env : Env} {s : Shared} {g : Str} {v : Value} {Q : Value → Shared → Prop} {E : Value → Shared → Prop} (ef : EnvF env sc) (ba : Base G W s) (hg : sc.lookup g = some .globalImplicit) (hn : G.mg g = none) (hne : g ≠ "__name__") (hv : bootBuiltins g = some v) (h : Q v s) :
    wpAny G.M A (loadName env g) Q E s := by
  refine ks_loadName_global ef.kind (ef.glob g hg) ?_
  unfold loadGlobal
  rw [ef.globals]
  refine wpAny_bind (wpAny_nsGet (Ns.keepsK G.top.g ba.keep) ?_)
  rw [hn]
  dsimp only
  rw [ef.builtins]
  refine wpAny_bind (wpAny_nsGet (Ns.keepsK G.top.b ba.keep) ?_)
  rw [G.top.builtins g hne, hv]
  exact wpAny_pure h

theorem EvS.gint {g : Str} {i : Int} {p : Pos} (hg : sc.lookup g = some .globalImplicit) (hv : valOf G.q g = some (.int i)) (hd : (g == ("__debug__" : Str)) = false) :
    EvS G W k names sc (.Name g p) (fun zq => some (.int i)) := by
  intro A env s sl ro ef rs ba av hf Q hQ
  cases hf
  obtain ⟨v, hm, hr⟩ := G.top.const g _ hv
  have hr := hr s.heap
  cases hr
  exact wpAny_Name (load_global ef ba hg hm (hQ _ _ (.refl s) ⟨_, rfl⟩)) hd

noncomputable def BIG : Nat := 2 ^ 4000
noncomputable def small (a : Int) : Bool := decide (a.natAbs < BIG)
theorem small_bits {a : Int} (h : small a = true) : Builtin.Int.intBits a ≤ 4000 := intBits_le (k := 4000) (by have h : a.natAbs < BIG := of_decide_eq_true h; unfold BIG at h; exact h)
theorem small_pylong {a b : Int} (h : small b = true) : Builtin.divisionGoesByPylong a b = false := by
  refine PyProof.noPylong_of_log2 ?_
  have h : b.natAbs < BIG := of_decide_eq_true h
  by_cases h0 : b.natAbs = 0
  · rw [h0]; decide +kernel
  · have := (Nat.log2_lt (k := 4000) h0).mpr (by unfold BIG at h; exact h)
    lia
theorem small_mul {a b : Int} (ha : small a = true) (hb : small b = true) : IntMulOk a b := by
  have h1 := small_bits ha
  have h2 := small_bits hb
  have : Builtin.Int.intTooBig ((Builtin.Int.intBits a : Int) + (Builtin.Int.intBits b : Int)) = false := by
    unfold Builtin.Int.intTooBig bitsLine
    exact decide_eq_false (by lia)
  unfold IntMulOk
  rw [this]; simp
end

noncomputable def AV.seq? : AV → Option (List AV)
  | .lst xs | .mut xs => some xs
  | _ => Option.none

noncomputable def intBin (op : Operator) (x y : Int) : Option Int := match op with
  | .Add => some (x + y)
  | .Sub => some (x - y)
  | .Mult => if small x && small y then some (x * y) else none
  | .FloorDiv => if y ≠ 0 ∧ small y = true then some (x.fdiv y) else none
  | .Mod => if y = 0 then none else some (x.fmod y)
  | .Pow => if small x && decide (0 ≤ y) && decide (y < 4000) then some (x ^ y.toNat) else none
  | .LShift => if small x && decide (0 ≤ y) && decide (y < 10000000) then some (x * 2 ^ y.toNat) else none
  | .RShift => if 0 ≤ y then some (x.fdiv (2 ^ y.toNat)) else none
  | .BitXor => some (Builtin.bitXor x y)
  | .BitAnd => some (Builtin.bitAnd x y)
  | .BitOr => some (Builtin.bitOr x y)
  | _ => none

noncomputable def binV (op : Operator) (a b : AV) : Option AV := match a, b with
  | .int x, .int y => (intBin op x y).map .int
  | a, .int n => match op, a.seq? with
    | .Mult, some xs => if xs.length * n.toNat < 1000000 && decide (n < 1000000) && decide (-1000000 < n) then some (.lst (List.replicate n.toNat xs).flatten) else none
    | _, _ => none
  | a, b => match op, a.seq?, b.seq? with
    | .Add, some xs, some ys => if xs.length + ys.length < 1000000 then some (.lst (xs ++ ys)) else none
    | _, _, _ => none

section
variable {G : Gl} {W : Addr → Prop} {k : Nat} {names : List Str} {sc : List (Str × NameKind)} {A : Around} {s : Shared} {E : Value → Shared → Prop}

theorem RepV.seq {h : Heap} {a : AV} {v : Value} {xs : List AV} (r : RepV W h a v) (e : a.seq? = some xs) : ∃ l vs, v = .ref l ∧ h.PlainList l (List.toArray vs) ∧ RepL W h xs vs := by
  cases a <;> first | (cases e; done) | skip
  · cases e; obtain ⟨l, vs, a, _, b, c⟩ := r; exact ⟨l, vs, a, b, c⟩
  · cases e; obtain ⟨l, vs, a, b, c⟩ := r; exact ⟨l, vs, a, b, c⟩

theorem Ext.push {s : Shared} {o : Obj} : Ext s { s with heap := s.heap.push o } := Ext.of (t := s.toks) fun zq zq e => Heap.get?_push_of_some _ e

theorem intBin_sound {op : Operator} {x y r : Int} {t u : Tok} (e : intBin op x y = some r) {Q : Value → Shared → Prop} (h : Q (.int r s.toks) { s with toks := s.toks + 1 }) :
    wpAny G.M A (binaryOp op (.int x t) (.int y u)) Q E s := by
  cases op <;> simp only [intBin] at e <;> try (cases e; done)
  case Add => cases e; exact PyProof.Rows.add_int h
  case Sub => cases e; exact PyProof.Rows.sub_int h
  case Mult => split at e
               · next q => cases e; rw [Bool.and_eq_true] at q; exact PyProof.Rows.mul_int h (small_mul q.1 q.2)
               · cases e
  case FloorDiv => split at e
                   · next q => cases e; exact PyProof.Rows.floordiv_int q.1 h (Or.inl (small_pylong q.2))
                   · cases e
  case Mod => split at e
              · cases e
              · next q => cases e; exact PyProof.Rows.mod_int' q h
  case Pow => split at e
              · next q =>
                cases e
                simp only [Bool.and_eq_true, decide_eq_true_eq] at q
                have := small_bits q.1.1
                refine PyProof.Rows.pow_int q.1.2 ?_ h
                have h1 : (Builtin.Int.intBits x : Int) * y ≤ 4000 * 4000 := Int.mul_le_mul (by lia) (by lia) q.1.2 (by lia)
                lia
              · cases e
  case LShift => split at e
                 · next q =>
                   cases e
                   simp only [Bool.and_eq_true, decide_eq_true_eq] at q
                   have := small_bits q.1.1
                   exact PyProof.Rows.lshift_int q.1.2 (by lia) h
                 · cases e
  case RShift => split at e
                 · next q => cases e; exact PyProof.Rows.rshift_int q h
                 · cases e
  case BitXor => cases e; exact PyProof.Rows.xor_int h
  case BitAnd => cases e; exact PyProof.Rows.and_int h
  case BitOr => cases e; exact PyProof.Rows.or_int h

theorem foldl_replicate_toArray (vs : List Value) : ∀ n : Nat, List.foldl (fun (x1 x2 : Array Value) => x1 ++ x2) #[] (List.replicate n vs.toArray) = (List.replicate n vs).flatten.toArray := by
  have h : ∀ (n : Nat) (acc : Array Value), List.foldl (fun (x1 x2 : Array Value) => x1 ++ x2) acc (List.replicate n vs.toArray) = acc ++ (List.replicate n vs).flatten.toArray := by
    intro n
    induction n with
    | zero => intro acc; simp
    | succ n ih => intro acc; rw [List.replicate_succ, List.foldl_cons, ih, List.replicate_succ, List.flatten_cons]; simp
  intro n; rw [h]; simp

theorem RepL.replicate {h : Heap} {xs : List AV} {vs : List Value} (r : RepL W h xs vs) : ∀ n : Nat, RepL W h (List.replicate n xs).flatten (List.replicate n vs).flatten
  | 0 => rfl
  | n + 1 => by rw [List.replicate_succ, List.replicate_succ, List.flatten_cons, List.flatten_cons]; exact r.append (r.replicate n)

theorem mul_list0 {l : Addr} {items : Array Value} {k : Nat} {x : Int} {u : Tok} {Q : Value → Shared → Prop}
    (hl : s.heap.get? l = some { cls := .type "list", dict := none, data := .seq items k, slots := #[] })
    (hlo : -(2 ^ 63 : Int) ≤ x) (hhi : x < 2 ^ 63) (hsz : items.size * x.toNat ≤ 2 ^ 24)
    (h : Q (.ref s.heap.objs.size) { s with heap := s.heap.push { cls := .type "list", data := .seq (List.foldl (fun x1 x2 => x1 ++ x2) #[] (List.replicate (if items.isEmpty = true then 0 else x.toNat) items)) } }) :
    wpAny (model prog w) A (binaryOp .Mult (.ref l) (.int x u)) Q E s :=
  wpAny_binaryOp_repeat_ref (T := "list") (U := "int") (by decide) ⟨_, hl, rfl⟩ (fun s' => typeIs_int s' x u) noFill_list_mul F.fills_int_mul F.slot_int_rmul repeat_list F.slot_int_index.lookup
    (call_meets F.slot_int_rmul (typeIs_int s x u) F.entry_int_rmul (F.args_int_rmul_2 _ _) (int___rmul___int_list x u l items k)
      ⟨hl, rfl, ⟨_, hl, rfl⟩, call_meets F.slot_list_mul ⟨_, hl, rfl⟩ F.entry_list_mul (F.args_list_mul_2 _ _)
        (AutoListH.list___mul___list_int_3 l items k x u (by simp [Builtin.List.listFitsIndex]; lia) (by lia) (by simp [Builtin.List.listTooLong, sizeLine]; lia))
        ⟨hl, h⟩⟩)

set_option tactic.hygienic true in
theorem bin_sound {op : Operator} {a b av : AV} {va vb : Value} (e : binV op a b = some av) (ba : Base G W s) (ra : RepV W s.heap a va) (rb : RepV W s.heap b vb) {Q : Value → Shared → Prop}
    (hQ : ∀ v s', Ext s s' → RepV W s'.heap av v → Q v s') : wpAny G.M A (binaryOp op va vb) Q E s := by
  unfold binV at e
  split at e
  · next x y =>
    obtain ⟨r, h1, h2⟩ := Option.map_eq_some_iff.mp e
    subst h2
    obtain ⟨t, rfl⟩ := ra
    obtain ⟨u, rfl⟩ := rb
    exact intBin_sound h1 (hQ _ _ .tok ⟨_, rfl⟩)
  · next n _ =>
    obtain ⟨u, rfl⟩ := rb
    split at e
    · next xs hx =>
      split at e
      · next q =>
        cases e
        simp only [Bool.and_eq_true, decide_eq_true_eq] at q
        obtain ⟨l, vs, rfl, ⟨kk, hl⟩, r⟩ := ra.seq hx
        have hlen := r.length
        refine mul_list0 hl (by lia) (by lia) (by rw [List.size_toArray, hlen]; lia) (hQ _ _ .push ?_)
        refine ⟨_, (List.replicate n.toNat vs).flatten, rfl, ba.fresh (Nat.le_refl _), ⟨0, ?_⟩, (r.grow (Ext.push (s := s)).kept).replicate _⟩
        rw [Heap.get?_push_size _ rfl]
        congr 3
        by_cases hv : vs = []
        · subst hv; simp
        · rw [if_neg (by simpa using hv), foldl_replicate_toArray]
      · cases e
    · cases e
  · split at e
    · next xs ys hx hy =>
      split at e
      · next q =>
        cases e
        obtain ⟨l, vs, rfl, ⟨kk, hl⟩, r⟩ := ra.seq hx
        obtain ⟨m, us, rfl, ⟨km, hm⟩, r'⟩ := rb.seq hy
        have hlen := r.length
        have hlen' := r'.length
        refine P.add_list hl hm (hQ _ _ .push ?_) (by rw [List.size_toArray, List.size_toArray, hlen, hlen', sizeLine_eq]; lia)
        refine ⟨_, vs ++ us, rfl, ba.fresh (Nat.le_refl _), ⟨0, ?_⟩, (r.grow (Ext.push (s := s)).kept).append (r'.grow (Ext.push (s := s)).kept)⟩
        rw [Heap.get?_push_size _ rfl]
        simp
      · cases e
    · cases e

theorem EvS.bin {l r : Expr} {op : Operator} {p : Pos} {f g : List Slot → Option AV} (hl : EvS G W k names sc l f) (hr : EvS G W k names sc r g) :
    EvS G W k names sc (.BinOp l op r p) (fun sl => (f sl).bind fun a => (g sl).bind fun b => binV op a b) := by
  intro A env s sl ro ef rs ba av hf Q hQ
  obtain ⟨a, h1, hf⟩ := Option.bind_eq_some_iff.mp hf
  obtain ⟨b, h2, h3⟩ := Option.bind_eq_some_iff.mp hf
  refine wpAny_BinOp (hl A env s sl ro ef rs ba a h1 _ fun va s₁ x₁ r₁ => ?_)
  refine hr A env s₁ sl ro ef (rs.grow x₁.kept) (ba.ext x₁) b h2 _ fun vb s₂ x₂ r₂ => ?_
  exact bin_sound h3 (ba.ext (x₁.trans x₂)) (r₁.grow x₂.kept) r₂ fun v s' x r => hQ v s' ((x₁.trans x₂).trans x) r
end
end Mine
end

section
open PySem PySem.W PyProof.Rows
set_option Elab.async false
set_option tactic.hygienic false
set_option maxRecDepth 100000


namespace Mine

mutual
noncomputable def AV.py : AV → PyData
  | .none => .none
  | .bool b => .bool b
  | .int i => .int i
  | .str s => .str s
  | .tup xs => .tuple (pyL xs)
  | .lst xs | .mut xs | .view xs => .list (pyL xs)
noncomputable def pyL : List AV → List PyData
  | [] => []
  | x :: xs => x.py :: pyL xs
end

mutual
theorem RepV.reads {W : Addr → Prop} {h : Heap} : ∀ (x : AV) (v : Value), RepV W h x v → ∃ as, Reads h v x.py as
  | .none, _, r => by rw [show _ = Value.none from r]; exact ⟨_, .none⟩
  | .bool b, _, r => by rw [show _ = Value.bool b from r]; exact ⟨_, .bool b⟩
  | .int i, _, ⟨t, e⟩ => by rw [e]; exact ⟨_, .int i t⟩
  | .str s, _, ⟨t, e⟩ => by rw [e]; exact ⟨_, .str s t⟩
  | .tup xs, _, ⟨a, vs, e, _, ⟨o, ho, hc, n, hd⟩, r⟩ => by
    obtain ⟨as, q⟩ := RepL.reads xs vs r
    rw [e]; exact ⟨_, .tuple ho hc hd q⟩
  | .lst xs, _, ⟨a, vs, e, _, ⟨n, ho⟩, r⟩ => by
    obtain ⟨as, q⟩ := RepL.reads xs vs r
    rw [e]; exact ⟨_, .list ho rfl rfl q⟩
  | .mut xs, _, ⟨a, vs, e, ⟨n, ho⟩, r⟩ => by
    obtain ⟨as, q⟩ := RepL.reads xs vs r
    rw [e]; exact ⟨_, .list ho rfl rfl q⟩
  | .view xs, _, ⟨a, vs, e, ⟨o, ho, hc, n, hd⟩, r⟩ => by
    obtain ⟨as, q⟩ := RepL.reads xs vs r
    rw [e]; exact ⟨_, .list ho hc hd q⟩
theorem RepL.reads {W : Addr → Prop} {h : Heap} : ∀ (xs : List AV) (vs : List Value), RepL W h xs vs → ∃ as, ReadsAll h vs (pyL xs) as
  | [], _, r => by rw [show _ = [] from r]; exact ⟨_, .nil⟩
  | x :: xs, _, ⟨v, q, e, a, b⟩ => by
    obtain ⟨as, r1⟩ := RepV.reads x v a
    obtain ⟨bs, r2⟩ := RepL.reads xs q b
    rw [e]; exact ⟨_, .cons r1 r2⟩
end

noncomputable def asInts : List AV → Option (List Int)
  | [] => some []
  | .int i :: r => (asInts r).map (i :: ·)
  | _ :: _ => none
theorem RepL.ints {W : Addr → Prop} {h : Heap} (xs : List AV) : ∀ (vs : List Value) (ns : List Int), RepL W h xs vs → asInts xs = some ns → IntsAre vs ns := by
  induction xs with
  | nil => intro vs ns r e; rw [show vs = [] from r]; cases e; exact .nil
  | cons x xs ih =>
    intro vs ns r e
    obtain ⟨v, q, e', a, b⟩ := r
    cases x with
    | int i =>
      obtain ⟨t, a⟩ := a
      obtain ⟨ms, h1, h2⟩ := Option.map_eq_some_iff.mp e
      subst h2
      rw [e', a]
      exact .cons i t (ih q ms b h1)
    | _ => cases e
theorem asInts_map (ns : List Int) : asInts (ns.map .int) = some ns := by
  induction ns with
  | nil => rfl
  | cons n ns ih => simp [asInts, ih]

noncomputable def AV.any? : AV → Option (List AV)
  | .lst xs | .mut xs | .view xs => some xs
  | _ => Option.none
theorem RepV.anyList {W : Addr → Prop} {h : Heap} {a : AV} {v : Value} {xs : List AV} (r : RepV W h a v) (e : a.any? = some xs) : ∃ l vs, v = .ref l ∧ h.IsList l (List.toArray vs) ∧ RepL W h xs vs := by
  cases a
  case lst => cases e; obtain ⟨l, vs, a, _, ⟨n, b⟩, c⟩ := r; exact ⟨l, vs, a, ⟨_, b, rfl, n, rfl⟩, c⟩
  case «mut» => cases e; obtain ⟨l, vs, a, ⟨n, b⟩, c⟩ := r; exact ⟨l, vs, a, ⟨_, b, rfl, n, rfl⟩, c⟩
  case view => cases e; obtain ⟨l, vs, a, b, c⟩ := r; exact ⟨l, vs, a, b, c⟩
  all_goals (simp [AV.any?] at e)

theorem isEmpty_of_length {α β : Type} {a : List α} {b : List β} (h : a.length = b.length) : a.isEmpty = b.isEmpty := by
  cases a <;> cases b <;> first | rfl | (simp at h)

noncomputable def eqV (a b : AV) : Option Bool := match a, b with
  | .int x, .int y => some (x == y)
  | .str x, .str y => some (x == y)
  | .bool x, .bool y => some (x == y)
  | a, b => if a.py.canLay0 && b.py.canLay0 && decide (a.py.depth < 500) then some (PyData.eqv a.py b.py) else none
noncomputable def intsV (f : Int → Int → Bool) (a b : AV) : Option Bool := match a, b with
  | .int x, .int y => some (f x y)
  | _, _ => none
noncomputable def isNotV (a b : AV) : Option Bool := match b with
  | .none => (match a with
    | .none => some false
    | .str _ => some true
    | _ => none)
  | _ => none
noncomputable def inV (a b : AV) : Option Bool := match a with
  | .int x => (b.any?.bind asInts).map fun ns => ns.any (· == x)
  | _ => none
noncomputable def cmpV (op : CmpOp) (a b : AV) : Option Bool := match op with
  | .Eq => eqV a b
  | .NotEq => (eqV a b).map (!·)
  | .Lt => intsV (fun x y => decide (x < y)) a b
  | .LtE => intsV (fun x y => decide (x ≤ y)) a b
  | .Gt => intsV (fun x y => decide (y < x)) a b
  | .GtE => intsV (fun x y => decide (y ≤ x)) a b
  | .IsNot => isNotV a b
  | .In => inV a b
  | .NotIn => (inV a b).map (!·)
  | _ => none
theorem intsV_some {f : Int → Int → Bool} {a b : AV} {c : Bool} (e : intsV f a b = some c) : ∃ x y, a = .int x ∧ b = .int y ∧ c = f x y := by
  unfold intsV at e
  split at e
  · cases e; exact ⟨_, _, rfl, rfl, rfl⟩
  · cases e

section
variable {G : Gl} {W : Addr → Prop} {k : Nat} {names : List Str} {sc : List (Str × NameKind)} {A : Around} {s : Shared} {E : Value → Shared → Prop}

theorem Room.cLine {A : Around} {k : Nat} (r : Room A k) : A.units < PySem.cLine := by have := r.units; unfold PySem.cLine; lia

theorem eq_sound {a b : AV} {c : Bool} {va vb : Value} (ro : Room A k) (e : eqV a b = some c) (ra : RepV W s.heap a va) (rb : RepV W s.heap b vb) :
    (∀ Q : Value → Shared → Prop, Q (.bool c) s → wpAny G.M A (compareOp .Eq va vb) Q E s) ∧ ∀ Q : Value → Shared → Prop, Q (.bool (!c)) s → wpAny G.M A (compareOp .NotEq va vb) Q E s := by
  unfold eqV at e
  split at e
  · cases e; obtain ⟨t, rfl⟩ := ra; obtain ⟨u, rfl⟩ := rb; exact ⟨fun Q => PyProof.Rows.eq_int, fun Q => PyProof.Rows.ne_int⟩
  · cases e; obtain ⟨t, rfl⟩ := ra; obtain ⟨u, rfl⟩ := rb; exact ⟨fun Q => PyProof.Rows.eq_str, fun Q => PyProof.Rows.ne_str⟩
  · cases e; rw [show va = _ from ra, show vb = _ from rb]; exact ⟨fun Q => PyProof.Rows.eq_bool, fun Q => PyProof.Rows.ne_bool⟩
  · split at e
    · next q =>
      cases e
      simp only [Bool.and_eq_true, decide_eq_true_eq] at q
      obtain ⟨as, r1⟩ := ra.reads
      obtain ⟨bs, r2⟩ := rb.reads
      have hm : A.units + min a.py.depth b.py.depth < cLine := by
        have := ro.units
        have h2 := Nat.min_le_left a.py.depth b.py.depth
        have h3 := q.2
        unfold cLine
        lia
      exact ⟨fun Q h => SeqAt.compareEq_reads r1 r2 q.1.1 q.1.2 hm h, fun Q h => SeqAt.compareNe_reads r1 r2 q.1.1 q.1.2 hm h⟩
    · cases e
theorem cmp_sound {op : CmpOp} {a b : AV} {c : Bool} {va vb : Value} (ro : Room A k) (e : cmpV op a b = some c) (ra : RepV W s.heap a va) (rb : RepV W s.heap b vb) {Q : Value → Shared → Prop}
    (h : Q (.bool c) s) : wpAny G.M A (compareOp op va vb) Q E s := by
  cases op <;> first | (cases e; done) | skip
  case Eq => exact (eq_sound ro e ra rb).1 Q h
  case NotEq =>
    obtain ⟨c', e2, rfl⟩ := Option.map_eq_some_iff.mp (show (eqV a b).map (!·) = some c from e)
    exact (eq_sound ro e2 ra rb).2 Q h
  case Lt => obtain ⟨x, y, rfl, rfl, rfl⟩ := intsV_some e; obtain ⟨t, rfl⟩ := ra; obtain ⟨u, rfl⟩ := rb; exact PyProof.Rows.lt_int h
  case LtE => obtain ⟨x, y, rfl, rfl, rfl⟩ := intsV_some e; obtain ⟨t, rfl⟩ := ra; obtain ⟨u, rfl⟩ := rb; exact PyProof.Rows.le_int h
  case Gt => obtain ⟨x, y, rfl, rfl, rfl⟩ := intsV_some e; obtain ⟨t, rfl⟩ := ra; obtain ⟨u, rfl⟩ := rb; exact PyProof.Rows.gt_int h
  case GtE => obtain ⟨x, y, rfl, rfl, rfl⟩ := intsV_some e; obtain ⟨t, rfl⟩ := ra; obtain ⟨u, rfl⟩ := rb; exact PyProof.Rows.ge_int h
  case IsNot =>
    cases b <;> first | (cases e; done) | skip
    cases a <;> first | (cases e; done) | skip
    · cases e; rw [show va = _ from ra, show vb = _ from rb]; exact isNot_none h
    · cases e; obtain ⟨t, rfl⟩ := ra; rw [show vb = _ from rb]; exact isNot_none h
  case In =>
    cases a <;> first | (cases e; done) | skip
    obtain ⟨ns, h1, rfl⟩ := Option.map_eq_some_iff.mp e
    obtain ⟨xs, h2, h3⟩ := Option.bind_eq_some_iff.mp h1
    obtain ⟨t, rfl⟩ := ra
    obtain ⟨l, vs, rfl, hl, r⟩ := rb.anyList h2
    exact in_list_ints hl (r.ints _ _ _ h3) h
  case NotIn =>
    obtain ⟨c', e2, e3⟩ := Option.map_eq_some_iff.mp (show (inV a b).map (!·) = some c from e)
    subst e3
    clear e
    have e := e2
    clear e2
    cases a <;> first | (cases e; done) | skip
    obtain ⟨ns, h1, rfl⟩ := Option.map_eq_some_iff.mp e
    obtain ⟨xs, h2, h3⟩ := Option.bind_eq_some_iff.mp h1
    obtain ⟨t, rfl⟩ := ra
    obtain ⟨l, vs, rfl, hl, r⟩ := rb.anyList h2
    exact notin_list_ints hl (r.ints _ _ _ h3) h

set_option tactic.hygienic true in
theorem truth_sound {a : AV} {c : Bool} {v : Value} (e : truth a = some c) (r : RepV W s.heap a v) {Q : Bool → Shared → Prop} (h : ∀ s', Ext s s' → Q c s') : wpAny G.M A (truthy v) Q E s := by
  cases a
  case none => cases e; rw [show v = _ from r]; exact truthy_none (h _ (.refl s))
  case bool b => cases e; rw [show v = _ from r]; exact wpAny_truthy_bool (h _ (.refl s))
  case int i => cases e; obtain ⟨t, rfl⟩ := r; exact PyProof.Rows.truthy_int (h _ (.refl s))
  case str x =>
    simp only [truth] at e
    split at e
    · next q =>
      cases e
      obtain ⟨t, rfl⟩ := r
      refine PySem.P.truthy_str (by lia) ?_
      have : ((x.length : Int) != 0) = !(x.length == 0) := by
        cases hx : x.length with
        | zero => rfl
        | succ n => rw [Bool.eq_iff_iff]; simp; lia
      rw [this]; exact h _ .tok
    · cases e
  case tup xs => cases e
  all_goals
    simp only [truth] at e
    split at e
    · next q =>
      cases e
      obtain ⟨l, vs, rfl, hl, rr⟩ := r.anyList rfl
      have hlen := rr.length
      refine wpAny_truthy_list hl (by rw [List.size_toArray, hlen]; lia) ?_
      rw [List.isEmpty_toArray, isEmpty_of_length hlen]; exact h _ .tok
    · cases e

theorem TsS.value {ex : Expr} {f : List Slot → Option AV} (he : EvS G W k names sc ex f) (hp : ∀ env whole, PySem.isTrue ex env whole = (do let v ← whole; standAt ex.pos; holding [v] (truthy v))) : TsS G W k names sc ex f := by
  intro A env s sl ro ef rs ba av b hf ht Q hQ
  refine wpAny_isTrue_value (he A env s sl ro ef rs ba av hf _ fun v s₁ x r => ?_) (hp _ _)
  exact truth_sound ht r fun s' x' => hQ s' (x.trans x')

theorem EvS.cmp {l r : Expr} {op : CmpOp} {p : Pos} {f g : List Slot → Option AV} (hl : EvS G W k names sc l f) (hr : EvS G W k names sc r g) (hm : behindInMarks op r = false) :
    EvS G W k names sc (.Compare l [op] [r] p) (fun sl => (f sl).bind fun a => (g sl).bind fun b => (cmpV op a b).map .bool) := by
  intro A env s sl ro ef rs ba av hf Q hQ
  obtain ⟨a, h1, hf⟩ := Option.bind_eq_some_iff.mp hf
  obtain ⟨b, h2, hf⟩ := Option.bind_eq_some_iff.mp hf
  obtain ⟨c, h3, rfl⟩ := Option.map_eq_some_iff.mp hf
  refine wpAny_Compare1 (hl A env s sl ro ef rs ba a h1 _ fun va s₁ x₁ r₁ => ?_) hm
  refine hr A env s₁ sl ro ef (rs.grow x₁.kept) (ba.ext x₁) b h2 _ fun vb s₂ x₂ r₂ => ?_
  exact cmp_sound ro h3 (r₁.grow x₂.kept) r₂ (hQ _ _ (x₁.trans x₂) rfl)
theorem TsS.cmp {l r : Expr} {op : CmpOp} {p : Pos} {f g : List Slot → Option AV} (hl : EvS G W k names sc l f) (hr : EvS G W k names sc r g) (hm : behindInMarks op r = false) :
    TsS G W k names sc (.Compare l [op] [r] p) (fun sl => (f sl).bind fun a => (g sl).bind fun b => (cmpV op a b).map .bool) := by
  intro A env s sl ro ef rs ba av bb hf ht Q hQ
  obtain ⟨a, h1, hf⟩ := Option.bind_eq_some_iff.mp hf
  obtain ⟨b, h2, hf⟩ := Option.bind_eq_some_iff.mp hf
  obtain ⟨c, h3, rfl⟩ := Option.map_eq_some_iff.mp hf
  cases ht
  refine wpAny_isTrue_Compare1 (hl A env s sl ro ef rs ba a h1 _ fun va s₁ x₁ r₁ => ?_) hm
  refine hr A env s₁ sl ro ef (rs.grow x₁.kept) (ba.ext x₁) b h2 _ fun vb s₂ x₂ r₂ => ?_
  exact cmp_sound ro h3 (r₁.grow x₂.kept) r₂ (wpAny_truthy_bool (hQ _ (x₁.trans x₂)))

noncomputable def unV (op : UnaryOp) (a : AV) : Option AV := match op, a with
  | .USub, .int x => some (.int (-x))
  | .Invert, .int x => some (.int (Builtin.bitNot x))
  | .Not, a => (truth a).map fun b => .bool (!b)
  | _, _ => none
theorem un_sound {op : UnaryOp} {a av : AV} {v : Value} (e : unV op a = some av) (r : RepV W s.heap a v) {Q : Value → Shared → Prop} (hQ : ∀ v s', Ext s s' → RepV W s'.heap av v → Q v s') :
    wpAny G.M A (unaryOp op v) Q E s := by
  unfold unV at e
  split at e
  · cases e; obtain ⟨t, rfl⟩ := r; exact PyProof.Rows.neg_int (hQ _ _ .tok ⟨_, rfl⟩)
  · cases e; obtain ⟨t, rfl⟩ := r; exact PyProof.Rows.invert_int (hQ _ _ .tok ⟨_, rfl⟩)
  · obtain ⟨b, h1, rfl⟩ := Option.map_eq_some_iff.mp e
    exact not_of (truth_sound h1 r fun s' x => hQ _ s' x rfl)
  · cases e
theorem EvS.un {x : Expr} {op : UnaryOp} {p : Pos} {f : List Slot → Option AV} (hx : EvS G W k names sc x f) :
    EvS G W k names sc (.UnaryOp op x p) (fun sl => (f sl).bind (unV op)) := by
  intro A env s sl ro ef rs ba av hf Q hQ
  obtain ⟨a, h1, h2⟩ := Option.bind_eq_some_iff.mp hf
  refine UnaryOp_ (hx A env s sl ro ef rs ba a h1 _ fun va s₁ x₁ r₁ => ?_)
  exact un_sound h2 r₁ fun v s' x r => hQ v s' (x₁.trans x) r
theorem TsS.not {x : Expr} {p : Pos} {f : List Slot → Option AV} (hx : TsS G W k names sc x f) :
    TsS G W k names sc (.UnaryOp .Not x p) (fun sl => (f sl).bind (unV .Not)) := by
  intro A env s sl ro ef rs ba av bb hf ht Q hQ
  obtain ⟨a, h1, h2⟩ := Option.bind_eq_some_iff.mp hf
  simp only [unV] at h2
  obtain ⟨b, h3, rfl⟩ := Option.map_eq_some_iff.mp h2
  cases ht
  exact isTrue_not (hx A env s sl ro ef rs ba a b h1 h3 _ fun s' x' => hQ s' x')

noncomputable def andV (f g : List Slot → Option AV) : List Slot → Option AV := fun sl => (f sl).bind fun a => (truth a).bind fun c => if c then g sl else some a
noncomputable def orV (f g : List Slot → Option AV) : List Slot → Option AV := fun sl => (f sl).bind fun a => (truth a).bind fun c => if c then some a else g sl

theorem EvS.and {x y : Expr} {r : List Expr} {p : Pos} {f g : List Slot → Option AV} (hx : EvS G W k names sc x f) (hr : EvS G W k names sc (.BoolOp .And (y :: r) p) g) :
    EvS G W k names sc (.BoolOp .And (x :: y :: r) p) (andV f g) := by
  intro A env s sl ro ef rs ba av hf Q hQ
  obtain ⟨a, h1, hf⟩ := Option.bind_eq_some_iff.mp hf
  obtain ⟨c, h2, h3⟩ := Option.bind_eq_some_iff.mp hf
  refine BoolOp_and (hx A env s sl ro ef rs ba a h1 _ fun va s₁ x₁ r₁ => truth_sound h2 r₁ fun s₂ x₂ => ?_)
  cases c with
  | true =>
    rw [if_pos rfl] at h3 ⊢
    exact hr A env s₂ sl ro ef (rs.grow (x₁.trans x₂).kept) (ba.ext (x₁.trans x₂)) av h3 _ fun v s' x r => hQ v s' ((x₁.trans x₂).trans x) r
  | false =>
    rw [if_neg Bool.false_ne_true] at h3 ⊢
    cases h3
    exact hQ _ _ (x₁.trans x₂) (r₁.grow x₂.kept)
theorem EvS.or {x y : Expr} {r : List Expr} {p : Pos} {f g : List Slot → Option AV} (hx : EvS G W k names sc x f) (hr : EvS G W k names sc (.BoolOp .Or (y :: r) p) g) :
    EvS G W k names sc (.BoolOp .Or (x :: y :: r) p) (orV f g) := by
  intro A env s sl ro ef rs ba av hf Q hQ
  obtain ⟨a, h1, hf⟩ := Option.bind_eq_some_iff.mp hf
  obtain ⟨c, h2, h3⟩ := Option.bind_eq_some_iff.mp hf
  refine BoolOp_or (hx A env s sl ro ef rs ba a h1 _ fun va s₁ x₁ r₁ => truth_sound h2 r₁ fun s₂ x₂ => ?_)
  cases c with
  | false =>
    rw [if_neg Bool.false_ne_true] at h3 ⊢
    exact hr A env s₂ sl ro ef (rs.grow (x₁.trans x₂).kept) (ba.ext (x₁.trans x₂)) av h3 _ fun v s' x r => hQ v s' ((x₁.trans x₂).trans x) r
  | true =>
    rw [if_pos rfl] at h3 ⊢
    cases h3
    exact hQ _ _ (x₁.trans x₂) (r₁.grow x₂.kept)
theorem EvS.one {op : BoolOp} {x : Expr} {p : Pos} {f : List Slot → Option AV} (hx : EvS G W k names sc x f) : EvS G W k names sc (.BoolOp op [x] p) f :=
  fun A env s sl ro ef rs ba av hf Q hQ => BoolOp_one (hx A env s sl ro ef rs ba av hf Q hQ)
theorem TsS.one {op : BoolOp} {x : Expr} {p : Pos} {f : List Slot → Option AV} (hx : TsS G W k names sc x f) : TsS G W k names sc (.BoolOp op [x] p) f := by
  intro A env s sl ro ef rs ba av b hf ht Q hQ
  have := hx A env s sl ro ef rs ba av b hf ht
  cases op with
  | And =>
    refine isTrue_and (this _ fun s' x' => ?_)
    cases b with
    | true => rw [if_pos rfl]; exact isTrue_and_nil (hQ s' x')
    | false => rw [if_neg Bool.false_ne_true]; exact hQ s' x'
  | Or =>
    refine isTrue_or (this _ fun s' x' => ?_)
    cases b with
    | true => rw [if_pos rfl]; exact hQ s' x'
    | false => rw [if_neg Bool.false_ne_true]; exact isTrue_or_nil (hQ s' x')
theorem TsS.and {x y : Expr} {r : List Expr} {p : Pos} {f g : List Slot → Option AV} (hx : TsS G W k names sc x f) (hr : TsS G W k names sc (.BoolOp .And (y :: r) p) g) :
    TsS G W k names sc (.BoolOp .And (x :: y :: r) p) (andV f g) := by
  intro A env s sl ro ef rs ba av b hf ht Q hQ
  obtain ⟨a, h1, hf⟩ := Option.bind_eq_some_iff.mp hf
  obtain ⟨c, h2, h3⟩ := Option.bind_eq_some_iff.mp hf
  refine isTrue_and (hx A env s sl ro ef rs ba a c h1 h2 _ fun s₁ x₁ => ?_)
  cases c with
  | true =>
    rw [if_pos rfl] at h3 ⊢
    exact hr A env s₁ sl ro ef (rs.grow x₁.kept) (ba.ext x₁) av b h3 ht _ fun s' x => hQ s' (x₁.trans x)
  | false =>
    rw [if_neg Bool.false_ne_true] at h3 ⊢
    cases h3
    rw [h2] at ht; cases ht
    exact hQ _ x₁
theorem TsS.or {x y : Expr} {r : List Expr} {p : Pos} {f g : List Slot → Option AV} (hx : TsS G W k names sc x f) (hr : TsS G W k names sc (.BoolOp .Or (y :: r) p) g) :
    TsS G W k names sc (.BoolOp .Or (x :: y :: r) p) (orV f g) := by
  intro A env s sl ro ef rs ba av b hf ht Q hQ
  obtain ⟨a, h1, hf⟩ := Option.bind_eq_some_iff.mp hf
  obtain ⟨c, h2, h3⟩ := Option.bind_eq_some_iff.mp hf
  refine isTrue_or (hx A env s sl ro ef rs ba a c h1 h2 _ fun s₁ x₁ => ?_)
  cases c with
  | false =>
    rw [if_neg Bool.false_ne_true] at h3 ⊢
    exact hr A env s₁ sl ro ef (rs.grow x₁.kept) (ba.ext x₁) av b h3 ht _ fun s' x => hQ s' (x₁.trans x)
  | true =>
    rw [if_pos rfl] at h3 ⊢
    cases h3
    rw [h2] at ht; cases ht
    exact hQ _ x₁

noncomputable def iteV (t f g : List Slot → Option AV) : List Slot → Option AV := fun sl => (t sl).bind fun a => (truth a).bind fun c => if c then f sl else g sl
theorem EvS.ite {t b o : Expr} {p : Pos} {ft f g : List Slot → Option AV} (ht : TsS G W k names sc t ft) (hb : EvS G W k names sc b f) (ho : EvS G W k names sc o g) :
    EvS G W k names sc (.IfExp t b o p) (iteV ft f g) := by
  intro A env s sl ro ef rs ba av hf Q hQ
  obtain ⟨a, h1, hf⟩ := Option.bind_eq_some_iff.mp hf
  obtain ⟨c, h2, h3⟩ := Option.bind_eq_some_iff.mp hf
  refine IfExp_ (ht A env s sl ro ef rs ba a c h1 h2 _ fun s₁ x₁ => ?_)
  cases c with
  | true =>
    rw [if_pos rfl] at h3 ⊢
    exact hb A env s₁ sl ro ef (rs.grow x₁.kept) (ba.ext x₁) av h3 _ fun v s' x r => hQ v s' (x₁.trans x) r
  | false =>
    rw [if_neg Bool.false_ne_true] at h3 ⊢
    exact ho A env s₁ sl ro ef (rs.grow x₁.kept) (ba.ext x₁) av h3 _ fun v s' x r => hQ v s' (x₁.trans x) r
end
end Mine
end

section
open PySem PySem.W PyProof.Rows
set_option Elab.async false
set_option tactic.hygienic false
set_option maxRecDepth 100000


namespace Mine

noncomputable def notStar : Expr → Bool
  | .Starred .. => false
  | _ => true
theorem starEach_cons {e : Expr} {r : List Expr} {env : Env} (h : notStar e = true) : starEach (e :: r) env = (false, eval e env) :: starEach r env := by
  cases e <;> first | rfl | cases h

noncomputable def EvL (G : Gl) (W : Addr → Prop) (k : Nat) (names : List Str) (sc : List (Str × NameKind)) (es : List Expr) (f : List Slot → Option (List AV)) : Prop :=
  (∀ env pos, ((backTo pos (starEach es env)).any (·.1)) = false) ∧
  ∀ (A : Around) (env : Env) (s : Shared) (sl : List Slot) (pos : Pos), Room A k → EnvF env sc → RS W env names sl s.heap → Base G W s → ∀ avs, f sl = some avs →
    ∀ Q : List Value → Shared → Prop, (∀ vs s', Ext s s' → RepL W s'.heap avs vs → Q vs s') → wpAny G.M A (spliced (backTo pos (starEach es env))) Q (fun zq zq => False) s

noncomputable def consV (f : List Slot → Option AV) (g : List Slot → Option (List AV)) : List Slot → Option (List AV) := fun sl => (f sl).bind fun a => (g sl).map (a :: ·)

section
variable {G : Gl} {W : Addr → Prop} {k : Nat} {names : List Str} {sc : List (Str × NameKind)} {A : Around} {s : Shared} {E : Value → Shared → Prop}

theorem EvL.nil : EvL G W k names sc [] (fun zq => some []) :=
  ⟨fun zq zq => rfl, fun A env s sl pos ro ef rs ba avs hf Q hQ => by cases hf; exact Calls.spliced_nil (hQ [] s (.refl s) rfl)⟩
theorem EvL.cons {e : Expr} {r : List Expr} {f : List Slot → Option AV} {g : List Slot → Option (List AV)} (he : EvS G W k names sc e f) (hr : EvL G W k names sc r g) (hn : notStar e = true) :
    EvL G W k names sc (e :: r) (consV f g) := by
  refine ⟨fun env pos => ?_, fun A env s sl pos ro ef rs ba avs hf Q hQ => ?_⟩
  · rw [starEach_cons hn]
    show (false || (backTo pos (starEach r env)).any (·.1)) = false
    rw [hr.1 env pos]; rfl
  · obtain ⟨a, h1, hf⟩ := Option.bind_eq_some_iff.mp hf
    obtain ⟨as, h2, rfl⟩ := Option.map_eq_some_iff.mp hf
    rw [starEach_cons hn]
    show wpAny _ _ (spliced ((false, eval e env) :: backTo pos (starEach r env))) _ _ _
    refine Calls.spliced_cons (he A env s sl ro ef rs ba a h1 _ fun v s₁ x₁ r₁ => ?_)
    refine hr.2 A env s₁ sl pos ro ef (rs.grow x₁.kept) (ba.ext x₁) as h2 _ fun vs s₂ x₂ r₂ => ?_
    exact hQ _ _ (x₁.trans x₂) ⟨v, vs, rfl, r₁.grow x₂.kept, r₂⟩

theorem EvS.list {es : List Expr} {p : Pos} {g : List Slot → Option (List AV)} (hr : EvL G W k names sc es g) :
    EvS G W k names sc (.List es p) (fun sl => (g sl).bind fun xs => if xs.length < 1000000 then some (.lst xs) else Option.none) := by
  intro A env s sl ro ef rs ba av hf Q hQ
  obtain ⟨xs, h1, hf⟩ := Option.bind_eq_some_iff.mp hf
  split at hf
  · next q =>
    cases hf
    refine List_ (hr.2 A env s sl p ro ef rs ba xs h1 _ fun vs s₁ x₁ r₁ => ?_)
    refine wpAny_newObj_type (hQ _ _ (x₁.trans .push) ⟨_, vs, rfl, (ba.ext x₁).fresh (Nat.le_refl _), ⟨0, Heap.get?_push_size _ rfl⟩, r₁.grow (Ext.push (s := s₁)).kept⟩) ?_
    show vs.toArray.size ≤ sizeLine
    rw [List.size_toArray, r₁.length, sizeLine_eq]; lia
  · cases hf
noncomputable def idxV (a i : AV) : Option AV := match a, i with
  | .str x, .int j => if decide (-(2 ^ 62) < j) && decide (j < 2 ^ 62) then ((seqIndex? j x.length).bind (x.cps[·]?)).map fun c => .str ⟨#[c]⟩ else none
  | a, .int j => match a.any? with
    | some xs => if decide (0 ≤ j) && decide (j < 2 ^ 62) then xs[j.toNat]? else none
    | none => match a with
      | _ => none
  | _, _ => none

set_option tactic.hygienic true in
theorem idx_sound {value slice : Expr} {a i av : AV} {va vi : Value} (e : idxV a i = some av) (ra : RepV W s.heap a va) (ri : RepV W s.heap i vi)
    (hs : ∀ o i : Value, subscripted slice false o i = operate [o, i] (getItem o i)) {Q : Value → Shared → Prop}
    (hQ : ∀ v s', Ext s s' → RepV W s'.heap av v → Q v s') : wpAny G.M A (subscriptTail value slice va vi) Q E s := by
  unfold idxV at e
  split at e
  · next x j =>
    split at e
    · next q =>
      simp only [Bool.and_eq_true, decide_eq_true_eq] at q
      obtain ⟨c, h1, rfl⟩ := Option.map_eq_some_iff.mp e
      obtain ⟨t, rfl⟩ := ra
      obtain ⟨u, rfl⟩ := ri
      refine tail_any (typeIs_str s x t) F.slot_str_getitem.lookup (P.getItem_str ?_ h1 (hQ _ _ .tok ⟨_, rfl⟩)) (hs _ _)
      simp only [Bool.or_eq_false_iff, decide_eq_false_iff_not]
      lia
    · cases e
  · next j _ =>
    obtain ⟨u, rfl⟩ := ri
    split at e
    · next xs hx =>
      split at e
      · next q =>
        simp only [Bool.and_eq_true, decide_eq_true_eq] at q
        obtain ⟨l, vs, rfl, hl, r⟩ := ra.anyList hx
        obtain ⟨v, hv, rv⟩ := r.get e
        exact tail_any hl.typeIs slot_list_getitem.lookup (wpAny_getItem_list hl q.1 (by lia) (by simpa using hv) (hQ _ _ (.refl s) rv)) (hs _ _)
      · cases e
    · cases e
  · cases e

noncomputable def notSlice : Expr → Bool
  | .Slice .. => false
  | _ => true
theorem subscripted_plain {slice : Expr} (h : notSlice slice = true) (o i : Value) : subscripted slice false o i = operate [o, i] (getItem o i) := by
  cases slice <;> first | rfl | cases h

theorem EvS.idx {value slice : Expr} {p : Pos} {f g : List Slot → Option AV} (hv : EvS G W k names sc value f) (hi : EvS G W k names sc slice g) (hn : notSlice slice = true) :
    EvS G W k names sc (.Subscript value slice p) (fun sl => (f sl).bind fun a => (g sl).bind fun b => idxV a b) := by
  intro A env s sl ro ef rs ba av hf Q hQ
  obtain ⟨a, h1, hf⟩ := Option.bind_eq_some_iff.mp hf
  obtain ⟨b, h2, h3⟩ := Option.bind_eq_some_iff.mp hf
  refine Subscript_ (hv A env s sl ro ef rs ba a h1 _ fun va s₁ x₁ r₁ => ?_)
  refine hi A env s₁ sl ro ef (rs.grow x₁.kept) (ba.ext x₁) b h2 _ fun vb s₂ x₂ r₂ => ?_
  exact idx_sound h3 (r₁.grow x₂.kept) r₂ (subscripted_plain hn) fun v s' x r => hQ v s' ((x₁.trans x₂).trans x) r

noncomputable def EvP (G : Gl) (W : Addr → Prop) (k : Nat) (names : List Str) (sc : List (Str × NameKind)) (ex : Option Expr) (f : List Slot → Option AV) : Prop :=
  ∀ (A : Around) (env : Env) (s : Shared) (sl : List Slot), Room A k → EnvF env sc → RS W env names sl s.heap → Base G W s → ∀ av, f sl = some av →
    ∀ Q : Value → Shared → Prop, (∀ v s', Ext s s' → RepV W s'.heap av v → Q v s') → wpAny G.M A (evalPart ex env) Q (fun zq zq => False) s
theorem EvP.no : EvP G W k names sc none (fun zq => some .none) := by
  intro A env s sl ro ef rs ba av hf Q hQ
  cases hf
  exact wpAny_pure (hQ _ _ (.refl s) rfl)
theorem EvP.yes {e : Expr} {f : List Slot → Option AV} (h : EvS G W k names sc e f) : EvP G W k names sc (some e) f := h

noncomputable def partOf : AV → Option (Option Int)
  | .none => some none
  | .int i => some (some i)
  | _ => none
theorem part_is {a : AV} {v : Value} {h : Heap} {p : Option Int} (r : RepV W h a v) (e : partOf a = some p) : IsPart v p := by
  cases a <;> first | (cases e; done) | skip
  · cases e; rw [show v = _ from r]; exact .none
  all_goals first | (cases e; obtain ⟨t, rfl⟩ := r; exact .int _ t) | (simp [partOf] at e)

noncomputable def sliceL (xs : List AV) (lo hi : Option Int) : List AV := (xs.drop (lo.elim 0 (clipAt xs.length))).take (hi.elim xs.length (clipAt xs.length) - lo.elim 0 (clipAt xs.length))
noncomputable def sliceV (a l h : AV) : Option AV := (partOf l).bind fun lo => (partOf h).bind fun hi => match a with
  | .str x => if x.length < 1000000 then some (.str (Txt.slice x lo hi)) else none
  | a => match a.any? with
    | some xs => if xs.length < 1000000 then some (.lst (sliceL xs lo hi)) else none
    | none => none

theorem RepL.drop {h : Heap} : ∀ (n : Nat) {xs : List AV} {vs : List Value}, RepL W h xs vs → RepL W h (xs.drop n) (vs.drop n)
  | 0, _, _, r => r
  | n + 1, [], _, r => by rw [show _ = [] from r]; rfl
  | n + 1, x :: xs, _, ⟨v, q, e, _, b⟩ => by rw [e]; exact RepL.drop n b
theorem RepL.take {h : Heap} : ∀ (n : Nat) {xs : List AV} {vs : List Value}, RepL W h xs vs → RepL W h (xs.take n) (vs.take n)
  | 0, _, _, r => rfl
  | n + 1, [], _, r => by rw [show _ = [] from r]; rfl
  | n + 1, x :: xs, _, ⟨v, q, e, a, b⟩ => by rw [e]; exact ⟨v, q.take n, rfl, a, RepL.take n b⟩
theorem RepL.reverse {h : Heap} : ∀ {xs : List AV} {vs : List Value}, RepL W h xs vs → RepL W h xs.reverse vs.reverse
  | [], _, r => by rw [show _ = [] from r]; rfl
  | x :: xs, _, ⟨v, q, e, a, b⟩ => by rw [e, List.reverse_cons, List.reverse_cons]; exact (RepL.reverse b).append (RepL.one a)

theorem str_getitem_lookup : typeLookup (.type "str") "__getitem__" = pure (some (.builtin "str.__getitem__")) := F.slot_str_getitem.lookup

theorem part_some {v : Value} {p : Option Int} (h : IsPart v p) : ∃ o : Option (Int × Tok), v = partValue o ∧ o.map (·.1) = p := by
  cases h with
  | none => exact ⟨none, rfl, rfl⟩
  | int i t => exact ⟨some (i, t), rfl, rfl⟩

theorem letGo_name {value : Expr} (hv : ∃ x p, value = .Name x p) (o r : Value) : letTemporaryGo value o r = pure () := by
  obtain ⟨x, p, rfl⟩ := hv; rfl

theorem getItem_slice_str {x : Str} {t : Tok} {l u : Value} {lo hi : Option Int} {Q : Value → Shared → Prop} (hx : x.length < 1000000) (pl : IsPart l lo) (pu : IsPart u hi)
    (h : ∀ t' tk, Q (.str (Txt.slice x lo hi) t') { s with heap := s.heap.push { cls := .type "slice", data := .fields #[l, u, .none] }, toks := tk }) :
    wpAny G.M A (getItem (.str x t) (.ref s.heap.objs.size)) Q E { s with heap := s.heap.push { cls := .type "slice", data := .fields #[l, u, .none] } } := by
  obtain ⟨ol, rfl, rfl⟩ := part_some pl
  obtain ⟨ou, rfl, rfl⟩ := part_some pu
  refine PySem.getItem_meets (typeIs_str _ x t) (by decide) F.slot_str_getitem F.entry_str_getitem (F.args_str_getitem_2 _ _) (meets_str_getitem_slice x t _ ol ou none rfl) ⟨⟨_, Heap.get?_push_size _ rfl, rfl, rfl⟩, ?_⟩
  have e : Txt.slice x (ol.map (·.1)) (ou.map (·.1)) = if ((((none : Option (Int × Tok)).map (·.1)).getD 1 == 1 && (slicePicked x ol ou none).length == x.length) = true) then x else ⟨((slicePicked x ol ou none).filterMap (x.cps[·]?)).toArray⟩ := rfl
  unfold sliceMade
  split
  · next q => rw [e, if_pos q] at h; exact h t _
  · next q =>
    rw [e, if_neg q] at h
    refine ⟨?_, h _ _⟩
    show ((slicePicked x ol ou none).filterMap (x.cps[·]?)).toArray.size ≤ sizeLine
    have h1 := sliceIndices_le (ol.map (·.1)) (ou.map (·.1)) x.length
    have h2 := List.length_filterMap_le (x.cps[·]?) (slicePicked x ol ou none)
    rw [List.size_toArray, sizeLine_eq]
    have h3 : (slicePicked x ol ou none).length ≤ x.length := h1
    lia

set_option tactic.hygienic true in
theorem sliceV_some {a l h r : AV} (e : sliceV a l h = some r) : ∃ lo hi, partOf l = some lo ∧ partOf h = some hi ∧
    ((∃ x, a = .str x ∧ x.length < 1000000 ∧ r = .str (Txt.slice x lo hi)) ∨ ∃ xs, a.any? = some xs ∧ xs.length < 1000000 ∧ r = .lst (sliceL xs lo hi)) := by
  obtain ⟨lo, h1, e1⟩ := Option.bind_eq_some_iff.mp e
  obtain ⟨hi, h2, e2⟩ := Option.bind_eq_some_iff.mp e1
  clear e e1
  refine ⟨lo, hi, h1, h2, ?_⟩
  have tail : ∀ o : Option (List AV), (o.bind fun xs => if xs.length < 1000000 then some (AV.lst (sliceL xs lo hi)) else none) = some r → ∃ xs, o = some xs ∧ xs.length < 1000000 ∧ r = .lst (sliceL xs lo hi) := fun o e => by
    obtain ⟨xs, h3, e⟩ := Option.bind_eq_some_iff.mp e
    split at e
    · next q => cases e; exact ⟨xs, h3, q, rfl⟩
    · cases e
  cases a
  case str x =>
    replace e2 : (if x.length < 1000000 then some (AV.str (Txt.slice x lo hi)) else none) = some r := e2
    split at e2
    · next q => cases e2; exact .inl ⟨x, rfl, q, rfl⟩
    · cases e2
  all_goals exact .inr (tail _ e2)
theorem EvS.slice {x₀ : Str} {q₀ : Pos} {lower upper : Option Expr} {q p : Pos} {f g h : List Slot → Option AV} (hv : EvS G W k names sc (.Name x₀ q₀) f) (hl : EvP G W k names sc lower g) (hu : EvP G W k names sc upper h)
    (hn : true = true) :
    EvS G W k names sc (.Subscript (.Name x₀ q₀) (.Slice lower upper Option.none q) p) (fun sl => (f sl).bind fun a => (g sl).bind fun b => (h sl).bind fun c => sliceV a b c) := by
  intro A env s sl ro ef rs ba av hf Q hQ
  obtain ⟨a, h1, hf⟩ := Option.bind_eq_some_iff.mp hf
  obtain ⟨b, h2, hf⟩ := Option.bind_eq_some_iff.mp hf
  obtain ⟨c, h3, hf⟩ := Option.bind_eq_some_iff.mp hf
  obtain ⟨lo, hi, p1, p2, hf⟩ := sliceV_some hf
  have hnm : ∀ o r, letTemporaryGo (.Name x₀ q₀) o r = pure () := fun zq zq => rfl
  rcases hf with ⟨x, rfl, hx, rfl⟩ | ⟨xs, hx, hsz, rfl⟩
  · refine wpAny_Subscript_Slice (T := "str") str_getitem_lookup (hv A env s sl ro ef rs ba _ h1 _ fun va s₁ x₁ r₁ => ?_) hnm
    refine wpAny_Slice (hl A env s₁ sl ro ef (rs.grow x₁.kept) (ba.ext x₁) b h2 _ fun vl s₂ x₂ r₂ => ?_)
    have x₂ := x₁.trans x₂
    refine hu A env s₂ sl ro ef (rs.grow x₂.kept) (ba.ext x₂) c h3 _ fun vu s₃ x₃ r₃ => ?_
    obtain ⟨t, rfl⟩ := r₁
    exact wpAny_pure ⟨typeIs_str _ _ t, getItem_slice_str hx (part_is r₂ p1) (part_is r₃ p2) fun t' tk => hQ _ _ ((x₂.trans x₃).trans (.of fun zq zq e => Heap.get?_push_of_some _ e)) ⟨t', rfl⟩⟩
  · refine wpAny_Subscript_list_slice (hv A env s sl ro ef rs ba _ h1 _ fun va s₁ x₁ r₁ => ?_) hnm
    refine hl A env s₁ sl ro ef (rs.grow x₁.kept) (ba.ext x₁) b h2 _ fun vl s₂ x₂ r₂ => ?_
    refine hu A env s₂ sl ro ef (rs.grow (x₁.trans x₂).kept) (ba.ext (x₁.trans x₂)) c h3 _ fun vu s₃ x₃ r₃ => ?_
    obtain ⟨l, vs, rfl, hl, rl⟩ := (r₁.grow (x₂.trans x₃).kept).anyList hx
    have hlen := rl.length
    refine ⟨l, _, lo, hi, rfl, hl, by rw [List.size_toArray, hlen, sizeLine_eq]; lia, part_is r₂ p1, part_is r₃ p2, ?_⟩
    have x₃ := (x₁.trans x₂).trans x₃
    clear r₁ r₂ r₃ hl h1 h2 h3 p1 p2
    as_aux_lemma =>
    have x₄ : Ext s₃ { s₃ with heap := (s₃.heap.push { cls := .type "slice", data := .fields #[vl, vu, .none] }).push { cls := .type "list", data := .seq (slicePick vs.toArray lo hi Option.none) } } :=
      (Ext.push (s := s₃)).trans Ext.push
    refine hQ _ _ (x₃.trans x₄) ⟨_, (vs.drop (lo.elim 0 (clipAt xs.length))).take (hi.elim xs.length (clipAt xs.length) - lo.elim 0 (clipAt xs.length)), rfl, ?_, ⟨0, ?_⟩, ?_⟩
    · exact (ba.ext x₃).fresh (Nat.le_succ _)
    · have := Heap.get?_push_size (s₃.heap.push { cls := .type "slice", data := .fields #[vl, vu, .none] }) (o := { cls := .type "list", data := .seq (slicePick vs.toArray lo hi Option.none) }) rfl
      rw [Heap.size_push] at this
      rw [this, slicePick_plain, List.size_toArray, hlen]
    · exact ((rl.grow x₄.kept).drop _).take _
end
end Mine
end

section
open PySem PySem.W PyProof.Rows
set_option Elab.async false
set_option tactic.hygienic false
set_option maxRecDepth 100000
set_option linter.unusedVariables false


namespace Mine

mutual
noncomputable def AV.freeze : AV → AV
  | .tup xs => .tup (freezeL xs)
  | .lst xs | .mut xs => .lst (freezeL xs)
  | .view xs => .view (freezeL xs)
  | x => x
noncomputable def freezeL : List AV → List AV
  | [] => []
  | x :: xs => x.freeze :: freezeL xs
end
mutual
theorem RepV.freeze {W : Addr → Prop} {h : Heap} : ∀ (x : AV) (v : Value), RepV W h x v → RepV (fun zq => False) h x.freeze v
  | .none, _, r | .bool _, _, r | .int _, _, r | .str _, _, r => r
  | .tup xs, v, ⟨a, vs, e, hw, l, r⟩ => ⟨a, vs, e, fun q => q, l, RepL.freeze xs vs r⟩
  | .lst xs, v, ⟨a, vs, e, hw, l, r⟩ => ⟨a, vs, e, fun q => q, l, RepL.freeze xs vs r⟩
  | .mut xs, v, ⟨a, vs, e, l, r⟩ => ⟨a, vs, e, fun q => q, l, RepL.freeze xs vs r⟩
  | .view xs, v, ⟨a, vs, e, l, r⟩ => ⟨a, vs, e, l, RepL.freeze xs vs r⟩
theorem RepL.freeze {W : Addr → Prop} {h : Heap} : ∀ (xs : List AV) (vs : List Value), RepL W h xs vs → RepL (fun zq => False) h (freezeL xs) vs
  | [], _, r => r
  | x :: xs, _, ⟨v, q, e, a, b⟩ => ⟨v, q, e, RepV.freeze x v a, RepL.freeze xs q b⟩
end
mutual
theorem RepV.weaken {W W' : Addr → Prop} {h : Heap} (hw : ∀ a, W' a → W a) : ∀ (x : AV) (v : Value), RepV W h x v → RepV W' h x v
  | .none, _, r | .bool _, _, r | .int _, _, r | .str _, _, r => r
  | .tup xs, v, ⟨a, vs, e, n, l, r⟩ => ⟨a, vs, e, fun q => n (hw a q), l, RepL.weaken hw xs vs r⟩
  | .lst xs, v, ⟨a, vs, e, n, l, r⟩ => ⟨a, vs, e, fun q => n (hw a q), l, RepL.weaken hw xs vs r⟩
  | .mut xs, v, ⟨a, vs, e, l, r⟩ => ⟨a, vs, e, l, RepL.weaken hw xs vs r⟩
  | .view xs, v, ⟨a, vs, e, l, r⟩ => ⟨a, vs, e, l, RepL.weaken hw xs vs r⟩
theorem RepL.weaken {W W' : Addr → Prop} {h : Heap} (hw : ∀ a, W' a → W a) : ∀ (xs : List AV) (vs : List Value), RepL W h xs vs → RepL W' h xs vs
  | [], _, r => r
  | x :: xs, _, ⟨v, q, e, a, b⟩ => ⟨v, q, e, RepV.weaken hw x v a, RepL.weaken hw xs q b⟩
end

structure Fn (G : Gl) (g : Str) (lvl : Nat) (f : List AV → Option AV) : Prop where
  place : ∃ a o fd, G.mg g = some (.ref a) ∧ G.h₀.get? a = some o ∧ o.data = .func fd
  runs : ∀ a, G.mg g = some (.ref a) → ∀ (A : Around) (s : Shared) (vs : List Value) (avs : List AV) (r : AV), Room A lvl → Kept G.h₀ s.heap → ∀ H, TB H s.heap → RepL (fun zq => False) s.heap avs vs → f avs = some r →
    ∀ Q : Value → Shared → Prop, (∀ v s', Ext s s' → RepV (fun b => (s.heap.get? b).isSome = true) s'.heap r v → r.firm = true → Q v s') → wpAny G.M A (call (.ref a) vs) Q (fun zq zq => False) s

section
variable {G : Gl} {W : Addr → Prop} {k : Nat} {names : List Str} {sc : List (Str × NameKind)} {A : Around} {s : Shared} {E : Value → Shared → Prop}

theorem EvS.call {g : Str} {lvl : Nat} {fn : List AV → Option AV} {p q : Pos} {e : Expr} {es : List Expr} {f : List Slot → Option (List AV)} (F : Fn G g lvl fn) (hk : lvl ≤ k) (hg : sc.lookup g = some .globalImplicit)
    (hd : (g == ("__debug__" : Str)) = false) (ha : EvL G W k names sc (e :: es) f) (hn : notStar e = true) :
    EvS G W k names sc (.Call (.Name g p) (e :: es) [] q) (fun sl => (f sl).bind fun avs => fn (freezeL avs)) := by
  intro A env s sl ro ef rs ba av hf Q hQ
  obtain ⟨avs, h1, h2⟩ := Option.bind_eq_some_iff.mp hf
  obtain ⟨a, o, fd, hm, ho, hfd⟩ := F.place
  refine Call_ (wpAny_Name (load_global ef ba hg hm ?_) hd)
  refine callWith_def hfd (ha.2 A env s sl q ro ef rs ba avs h1 _ fun vs s₁ x₁ r₁ => ⟨(ba.ext x₁).keep _ _ ho (solid_func hfd), ?_⟩) (starEach_cons hn)
  refine F.runs a hm A s₁ vs (freezeL avs) av (ro.le hk) (ba.ext x₁).keep _ (ba.ext x₁).tb (r₁.freeze) h2 Q fun v s' x r fi => hQ v s' (x₁.trans x) ?_
  refine r.weaken fun b w => ?_
  exact ((ba.ext x₁).above b w).1

theorem EvS.builtin {g : Str} {v : Value} {fn : List AV → Option AV} {p q : Pos} {e : Expr} {es : List Expr} {f : List Slot → Option (List AV)} (hg : sc.lookup g = some .globalImplicit)
    (hd : (g == ("__debug__" : Str)) = false) (hne : g ≠ "__name__") (hm : G.mg g = Option.none) (hb : bootBuiltins g = some v) (hv : (∃ id, v = .builtin id) ∨ ∃ T, v = .type T) (ha : EvL G W k names sc (e :: es) f) (hn : notStar e = true)
    (hr : ∀ env pos, ((backTo pos (starEach es env)).any (·.1)) = false)
    (hc : ∀ (A : Around) (s : Shared) (vs : List Value) (avs : List AV) (av : AV), Room A k → Base G W s → RepL W s.heap avs vs → fn avs = some av → ∀ Q : Value → Shared → Prop, (∀ v s', Ext s s' → RepV W s'.heap av v → Q v s') → wpAny G.M A (PySem.call v vs) Q (fun zq zq => False) s) :
    EvS G W k names sc (.Call (.Name g p) (e :: es) [] q) (fun sl => (f sl).bind fn) := by
  intro A env s sl ro ef rs ba av hf Q hQ
  obtain ⟨avs, h1, h2⟩ := Option.bind_eq_some_iff.mp hf
  refine Call_ (wpAny_Name (load_builtin ef ba hg hm hne hb ?_) hd)
  have h : wpAny G.M A (spliced (backTo q (starEach (e :: es) env))) (fun vs s₁ => wpAny G.M A (PySem.call v vs) Q (fun zq zq => False) s₁) (fun zq zq => False) s :=
    ha.2 A env s sl q ro ef rs ba avs h1 _ fun vs s₁ x₁ r₁ => hc A s₁ vs avs av ro (ba.ext x₁) r₁ h2 Q fun v s' x r => hQ v s' (x₁.trans x) r
  rcases hv with ⟨id, rfl⟩ | ⟨T, rfl⟩
  · exact PyProof.Rows.callWith_builtin1 h (starEach_cons hn) (hr _ _)
  · exact PyProof.Rows.callWith_type1 h (starEach_cons hn) (hr _ _)

noncomputable def lenV : List AV → Option AV
  | [.str x] => if x.length < 1000000 then some (.int x.length) else none
  | [a] => match a.any? with
    | some xs => if xs.length < 1000000 then some (.int xs.length) else none
    | none => none
  | _ => none
theorem len_sound {vs : List Value} {avs : List AV} {av : AV} (r : RepL W s.heap avs vs) (e : lenV avs = some av) {Q : Value → Shared → Prop} (hQ : ∀ v s', Ext s s' → RepV W s'.heap av v → Q v s') :
    wpAny G.M A (call (.builtin "len") vs) Q E s := by
  unfold lenV at e
  split at e
  · split at e
    · obtain ⟨v, q, rfl, ⟨t, rfl⟩, rfl⟩ := r
      cases e
      exact P.len_str (by lia) (hQ _ _ .tok ⟨_, rfl⟩)
    · cases e
  · split at e
    · next hx =>
      split at e
      · obtain ⟨v, q, rfl, ra, rfl⟩ := r
        cases e
        obtain ⟨l, us, rfl, hl, rl⟩ := ra.anyList hx
        have hlen := rl.length
        refine len_list hl (by rw [List.size_toArray, hlen]; lia) ?_
        rw [List.size_toArray, hlen]
        exact hQ _ _ .tok ⟨_, rfl⟩
      · cases e
    · cases e
  · cases e

noncomputable def absV : List AV → Option AV
  | [.int a] => some (.int (if a < 0 then -a else a))
  | _ => none
noncomputable def chrV : List AV → Option AV
  | [.int i] => if 0 ≤ i ∧ i ≤ 0x10FFFF then some (.str ⟨#[i.toNat]⟩) else none
  | _ => none
noncomputable def ordV : List AV → Option AV
  | [.str x] => match x.cps.toList with
    | [c] => some (.int c)
    | _ => none
  | _ => none
set_option tactic.hygienic true in
theorem ord_sound {vs : List Value} {avs : List AV} {av : AV} (r : RepL W s.heap avs vs) (e : ordV avs = some av) {Q : Value → Shared → Prop} (hQ : ∀ v s', Ext s s' → RepV W s'.heap av v → Q v s') :
    wpAny G.M A (call (.builtin "ord") vs) Q E s := by
  unfold ordV at e
  split at e
  · next x =>
    split at e
    · next c hc =>
      obtain ⟨v, q, rfl, ⟨t, rfl⟩, rfl⟩ := r
      cases e
      have : x = ⟨#[c]⟩ := by
        obtain ⟨cps⟩ := x
        have : cps = #[c] := by rw [← Array.toArray_toList (xs := cps)]; simp only at hc; rw [hc]
        rw [this]
      rw [this]
      exact P.ord_of_char (hQ _ _ .tok ⟨_, rfl⟩)
    · cases e
  · cases e
noncomputable def minV : List AV → Option AV
  | [.int a, .int b] => some (.int (if b < a then b else a))
  | _ => none
theorem min_sound {vs : List Value} {avs : List AV} {av : AV} (ro : Room A k) (r : RepL W s.heap avs vs) (e : minV avs = some av) {Q : Value → Shared → Prop} (hQ : ∀ v s', Ext s s' → RepV W s'.heap av v → Q v s') :
    wpAny G.M A (call (.builtin "min") vs) Q E s := by
  unfold minV at e
  split at e
  · obtain ⟨v, q, rfl, ⟨t, rfl⟩, ⟨v', q', rfl, ⟨t', rfl⟩, rfl⟩⟩ := r
    cases e
    refine min_two_ints ro.handled fun h' tk hk => hQ _ _ (.of hk) ?_
    split
    · exact ⟨_, rfl⟩
    · exact ⟨_, rfl⟩
  · cases e
noncomputable def divmodV : List AV → Option AV
  | [.int a, .int b] => if b ≠ 0 ∧ small b = true then some (.tup [.int (a.fdiv b), .int (a.fmod b)]) else none
  | _ => none
noncomputable def sumV : List AV → Option AV
  | [a] => match a.any? with
    | some xs => (asInts xs).map fun ns => .int ns.sum
    | none => none
  | _ => none
theorem intItems_of : ∀ {vs : List Value} {ns : List Int}, IntsAre vs ns → ∃ xs : List (Int × Tok), vs.toArray = intItems xs.toArray ∧ xs.map (·.1) = ns
  | _, _, .nil => ⟨[], by simp [intItems], rfl⟩
  | _, _, .cons n t h => by
    obtain ⟨xs, e1, e2⟩ := intItems_of h
    refine ⟨(n, t) :: xs, ?_, by rw [List.map_cons, e2]⟩
    have := congrArg Array.toList e1
    apply Array.ext'
    simp [intItems] at this ⊢
    exact this
theorem preSum_items (xs : List (Int × Tok)) : preSum (numAt xs.toArray) xs.toArray.size = (xs.map (·.1)).sum := by
  rw [preSum_eq, List.take_of_length_le (by simp)]
theorem sum_sound {vs : List Value} {avs : List AV} {av : AV} (ro : Room A k) (r : RepL W s.heap avs vs) (e : sumV avs = some av) {Q : Value → Shared → Prop} (hQ : ∀ v s', Ext s s' → RepV W s'.heap av v → Q v s') :
    wpAny G.M A (call (.builtin "sum") vs) Q E s := by
  unfold sumV at e
  split at e
  · split at e
    · next hx =>
      obtain ⟨ns, h1, h2⟩ := Option.map_eq_some_iff.mp e
      obtain ⟨v, q, rfl, ra, rfl⟩ := r
      subst h2
      obtain ⟨l, us, rfl, hl, rl⟩ := ra.anyList hx
      obtain ⟨xs, e1, e2⟩ := intItems_of (rl.ints _ _ _ h1)
      refine sum_intListG ro.handled (xs := xs.toArray) (by rw [← e1]; exact hl) fun h' tk t' hk => ?_
      rw [preSum_items, e2]
      exact hQ _ _ (.of hk) ⟨_, rfl⟩
    · cases e
  · cases e
end
end Mine
end

section
open PySem PySem.W PyProof.Rows
set_option Elab.async false
set_option tactic.hygienic false
set_option maxRecDepth 100000
set_option linter.unusedVariables false


namespace Mine

theorem RepRows.shift {W W' : Addr → Prop} {h h' : Heap} (hk : Kept h h') (hW : ∀ b, (h.get? b).isSome = true → W' b → W b) : ∀ {rs : List (List AV)} {ds : List Addr}, RepRows W h rs ds → RepRows W' h' rs ds
  | [], _, r => r
  | _ :: _, _, ⟨d, q, vs, e, l, r, rr⟩ => ⟨d, q, vs, e, PlainList.grow hk l, RepL.mono (fun b o zq => hk b o) (fun b o zq => hk b o) hW _ _ r, RepRows.shift hk hW rr⟩
theorem SlotRep.shift {W W' : Addr → Prop} {h h' : Heap} (hk : Kept h h') (hW : ∀ b, (h.get? b).isSome = true → W' b → W b) {s : Slot} {ov : Option Value} (r : SlotRep W h s ov) : SlotRep W' h' s ov := by
  cases s with
  | unset => trivial
  | val x => obtain ⟨v, e, a, f⟩ := r; exact ⟨v, e, RepV.mono (fun b o zq => hk b o) (fun b o zq => hk b o) hW _ _ a, f⟩
  | mls xs => obtain ⟨d, vs, e, l, a, f⟩ := r; exact ⟨d, vs, e, PlainList.grow hk l, RepL.mono (fun b o zq => hk b o) (fun b o zq => hk b o) hW _ _ a, f⟩
  | mgr rows => obtain ⟨d, ds, e, l, a, f⟩ := r; exact ⟨d, ds, e, PlainList.grow hk l, RepRows.shift hk hW a, f⟩
  | scr xs =>
    obtain ⟨d, vs, e, n, l, a, f⟩ := r
    refine ⟨d, vs, e, fun w => n (hW d ?_ w), IsList.grow hk l, RepL.mono (fun b o zq => hk b o) (fun b o zq => hk b o) hW _ _ a, f⟩
    obtain ⟨o, ho, _⟩ := l
    rw [ho]; rfl

noncomputable def relab (sc ns : List (Str × NameKind)) : List (Str × NameKind) := ns.map fun (n, k) => if (k == .free && sc.lookup n == some .cell) then (n, .cell) else (n, k)
theorem relabel_names {scope : Scope} {env : Env} {sc : List (Str × NameKind)} (ef : EnvF env sc) : (relabel scope env).names = relab sc scope.names := by
  simp only [relabel, relab, ef.kind, Env.kindOf, ef.names]
  congr 1
  funext ⟨n, k⟩
  simp

theorem lookup_relab {sc : List (Str × NameKind)} {y : Str} : ∀ {ns : List (Str × NameKind)}, (relab sc ns).lookup y = (ns.lookup y).map fun k => if (k == .free && sc.lookup y == some .cell) then .cell else k
  | [] => rfl
  | (n, k) :: r => by
    have ih := lookup_relab (sc := sc) (y := y) (ns := r)
    have e : relab sc ((n, k) :: r) = (if (k == .free && sc.lookup n == some .cell) then (n, .cell) else (n, k)) :: relab sc r := rfl
    rw [e]
    by_cases h : y = n
    · subst h
      by_cases hc : (k == .free && sc.lookup y == some .cell) = true
      · rw [if_pos hc]; simp [List.lookup_cons]; simp at hc; simp [hc]
      · rw [if_neg hc]; simp [List.lookup_cons]; simp at hc; intro a b; exact absurd b (hc a)
    · have hb : (y == n) = false := by simpa using h
      by_cases hc : (k == .free && sc.lookup n == some .cell) = true
      · rw [if_pos hc]; simp only [List.lookup_cons, hb]; exact ih
      · rw [if_neg hc]; simp only [List.lookup_cons, hb]; exact ih

theorem lookup_of_mem {α : Type} : ∀ {l : List (Str × α)} {n : Str} {c : α}, (n, c) ∈ l → ∃ d, l.lookup n = some d
  | (k, v) :: r, n, c, h => by
    rw [List.lookup_cons]
    cases hb : n == k with
    | true => exact ⟨v, rfl⟩
    | false =>
      rcases List.mem_cons.mp h with e | h
      · cases e; simp at hb
      · exact lookup_of_mem h

theorem closure_ex {env : Env} (f : Str × NameKind → List (Str × Addr) → Sem (ForInStep (List (Str × Addr))))
    (hf : ∀ name kind cs, f (name, kind) cs = if (kind == .free) = true then (do let c ← cellOf env name; pure (.yield ((name, c) :: cs))) else pure (.yield cs)) :
    ∀ (ns : List (Str × NameKind)) (acc : List (Str × Addr)), (∀ y ∈ ns, y.2 = .free → ∃ c, env.cells.lookup y.1 = some c) → (∀ n c, acc.lookup n = some c → env.cells.lookup n = some c) →
      ∃ cl, forIn ns acc f = pure cl ∧ (∀ n c, cl.lookup n = some c → env.cells.lookup n = some c) ∧ ∀ n, ((n, NameKind.free) ∈ ns ∨ ∃ c, acc.lookup n = some c) → ∃ c, cl.lookup n = some c
  | [], acc, _, ha => ⟨acc, by rw [List.forIn_nil], ha, fun n h => by rcases h with h | h; cases h; exact h⟩
  | (n, k) :: r, acc, hn, ha => by
    rw [List.forIn_cons, hf]
    by_cases hk : (k == NameKind.free) = true
    · rw [if_pos hk]
      obtain ⟨c, hc⟩ := hn (n, k) List.mem_cons_self (by simpa using hk)
      have hce : cellOf env n = pure c := by unfold cellOf; simp only at hc; rw [hc]
      obtain ⟨cl, h1, h2, h3⟩ := closure_ex f hf r ((n, c) :: acc) (fun y hy => hn y (List.mem_cons_of_mem _ hy)) (fun m d e => by
        rw [List.lookup_cons] at e
        cases hb : m == n with
        | true => rw [hb] at e; cases e; rw [beq_iff_eq.mp hb]; exact hc
        | false => rw [hb] at e; exact ha m d e)
      refine ⟨cl, by rw [hce]; simpa using h1, h2, fun m h => h3 m ?_⟩
      rcases h with h | ⟨d, h⟩
      · rcases List.mem_cons.mp h with e | h
        · cases e; exact .inr ⟨c, by simp [List.lookup_cons]⟩
        · exact .inl h
      · refine .inr ?_
        rw [List.lookup_cons]
        cases m == n
        · exact ⟨d, h⟩
        · exact ⟨c, rfl⟩
    · rw [if_neg hk]
      obtain ⟨cl, h1, h2, h3⟩ := closure_ex f hf r acc (fun y hy => hn y (List.mem_cons_of_mem _ hy)) ha
      refine ⟨cl, by simpa using h1, h2, fun m h => h3 m ?_⟩
      rcases h with h | h
      · rcases List.mem_cons.mp h with e | h
        · cases e; exact absurd rfl hk
        · exact .inl h
      · exact .inr h

theorem closure_is {scope : Scope} {env : Env} (h : ∀ y ∈ scope.names, y.2 = .free → ∃ c, env.cells.lookup y.1 = some c) :
    ∃ cl, closureFor scope env = pure cl ∧ (∀ n c, cl.lookup n = some c → env.cells.lookup n = some c) ∧ ∀ n, (n, NameKind.free) ∈ scope.names → ∃ c, cl.lookup n = some c := by
  obtain ⟨cl, h1, h2, h3⟩ := closure_ex (env := env) (fun x cs => if (x.2 == .free) = true then (do let c ← cellOf env x.1; pure (.yield ((x.1, c) :: cs))) else pure (.yield cs)) (fun name kind cs => rfl) scope.names [] h (fun zq zq e => by cases e)
  refine ⟨cl, ?_, h2, fun n hn => h3 n (.inl hn)⟩
  rw [← h1]
  simp only [closureFor, bind_pure]

theorem cellsFrom_append : ∀ (ns : List (Str × NameKind)) (n : Nat) (acc : List (Str × Addr)), cellsFrom n ns acc = cellsFrom n ns [] ++ acc
  | [], n, acc => rfl
  | (x, k) :: r, n, acc => by
    unfold cellsFrom
    split
    · rw [cellsFrom_append r _ ((x, n) :: acc), cellsFrom_append r _ [(x, n)], List.append_assoc]; rfl
    · exact cellsFrom_append r n acc
theorem lookup_append {α : Type} : ∀ {a b : List (Str × α)} {x : Str}, (a ++ b).lookup x = (a.lookup x).or (b.lookup x)
  | [], b, x => rfl
  | (k, v) :: r, b, x => by
    rw [List.cons_append, List.lookup_cons, List.lookup_cons]
    cases x == k
    · exact lookup_append
    · rfl
theorem own_mem : ∀ {ns : List (Str × NameKind)} {n : Nat} {x : Str} {c : Addr}, (x, c) ∈ cellsFrom n ns [] → (x, NameKind.cell) ∈ ns
  | [], n, x, c, h => by cases h
  | (y, k) :: r, n, x, c, h => by
    unfold cellsFrom at h
    split at h
    · next hk =>
      rw [cellsFrom_append] at h
      rcases List.mem_append.mp h with h | h
      · exact List.mem_cons_of_mem _ (own_mem h)
      · cases List.mem_singleton.mp h
        have : k = .cell := by simpa using hk
        subst this; exact List.mem_cons_self
    · exact List.mem_cons_of_mem _ (own_mem h)
theorem mem_own : ∀ {ns : List (Str × NameKind)} {n : Nat} {x : Str}, (x, NameKind.cell) ∈ ns → ∃ c, (x, c) ∈ cellsFrom n ns []
  | [], n, x, h => by cases h
  | (y, k) :: r, n, x, h => by
    unfold cellsFrom
    rcases List.mem_cons.mp h with e | h
    · cases e
      rw [if_pos (by rfl), cellsFrom_append]
      exact ⟨n, List.mem_append_right _ List.mem_cons_self⟩
    · split
      · obtain ⟨c, hc⟩ := mem_own (n := n + 1) h
        rw [cellsFrom_append]
        exact ⟨c, List.mem_append_left _ hc⟩
      · exact mem_own h

section
variable {M : Model} {A : Around} {E : Value → Shared → Prop} {s : Shared}
theorem newEnv_comp {scope : Scope} {globals : Addr} {cl : List (Str × Addr)} {qual : Str} {func : Option Addr} {code : Value} {outer : Env} {builtins : Addr} {Q : Env → Shared → Prop}
    (h : Q (newEnv scope s.heap.objs.size globals (cellsFrom (s.heap.objs.size + 1) scope.names [] ++ cl) qual func code (some outer) builtins)
      { s with heap := pushCells (s.heap.push { cls := .type "dict", data := .dict #[] }) scope.names }) :
    wpAny M A (newFunctionEnv scope globals cl [] qual func code (some outer) builtins) Q E s := by
  simp only [newFunctionEnv, Option.isSome_some, if_true]
  refine wpAny_bind (wpAny_alloc ?_)
  refine wpAny_bind (wpAny_layCells _ (fun name kind cells => by cases hkc : kind == NameKind.cell <;> simp [hkc]) _ _ _ _ ?_)
  rw [cellsFrom_append, show ({ s with heap := s.heap.push { cls := .type "dict", data := .dict #[] } } : Shared).heap.objs.size = s.heap.objs.size + 1 from Heap.size_push ..]
  exact wpAny_bind (by rw [List.forIn_nil]; exact wpAny_pure (wpAny_pure h))
end
end Mine
end

section
open PySem PySem.W PyProof.Rows
set_option Elab.async false
set_option tactic.hygienic false
set_option maxRecDepth 100000
set_option linter.unusedVariables false


namespace Mine

noncomputable def EvB (fr : Bool) (G : Gl) (W : Addr → Prop) (k : Nat) (names : List Str) (sc : List (Str × NameKind)) (ex : Expr) (f : List Slot → Option AV) : Prop :=
  ∀ (A : Around) (env : Env) (s : Shared) (sl : List Slot), Room A k → EnvF env sc → RS W env names sl s.heap → Base G W s → ∀ av, f sl = some av →
    ∀ Q : Value → Shared → Prop, (∀ v s', Ext s s' → RepV W s'.heap av v → (fr = true → ∃ d, v = .ref d ∧ s.heap.get? d = Option.none) → Q v s') → wpAny G.M A (eval ex env) Q (fun zq zq => False) s

noncomputable def EvI (G : Gl) (W : Addr → Prop) (k : Nat) (names : List Str) (sc : List (Str × NameKind)) (ex : Expr) (f : List Slot → Option (List AV)) : Prop :=
  ∀ (A : Around) (env : Env) (s : Shared) (sl : List Slot), Room A k → EnvF env sc → RS W env names sl s.heap → Base G W s → ∀ avs, f sl = some avs →
    ∀ Q : Value → Shared → Prop, (∀ I s' fp wr P St, Ext s s' → Walks G.prog G.w A I fp wr avs.length P St → St 0 s'.heap → (∀ b ∈ fp, b < s'.heap.objs.size) → (∀ b ∈ wr, s.heap.get? b = Option.none) →
      (∀ b ∈ fp, b ∉ wr → ¬ W b ∧ (s'.heap.get? b).isSome = true) → (∀ i h, St i h → (∀ b ∈ wr, ∃ o, h.get? b = some o ∧ iterO o = true) ∧ ∀ b ∈ fp, ∀ o, h.get? b = some o → tabby o = false) →
      (∀ i v x, P i v → avs[i]? = some x → RepV (fun b => W b ∨ b ∈ wr) s'.heap x v) → Q (.ref I) s') →
    wpAny G.M A (eval ex env) (fun xv s₁ => wpAny G.M A (pyIter xv) Q (fun zq zq => False) s₁) (fun zq zq => False) s

noncomputable def TestsS (G : Gl) (W : Addr → Prop) (k : Nat) (names : List Str) (sc : List (Str × NameKind)) (ifs : List Expr) (f : List Slot → Option Bool) : Prop :=
  ∀ (A : Around) (env : Env) (s : Shared) (sl : List Slot), Room A k → EnvF env sc → RS W env names sl s.heap → Base G W s → ∀ b, f sl = some b →
    ∀ (Q : Bool → Shared → Prop), (∀ s', Ext s s' → Q b s') →
      wpAny G.M A (forIn ifs true fun c r => if r = true then do let ok ← isTrue c env (eval c env); pure (ForInStep.yield ok) else pure (ForInStep.yield r)) Q (fun zq zq => False) s

section
variable {G : Gl} {W : Addr → Prop} {k : Nat} {names : List Str} {sc : List (Str × NameKind)} {A : Around} {s : Shared} {E : Value → Shared → Prop}

theorem EvS.b {ex f} (h : EvS G W k names sc ex f) : EvB false G W k names sc ex f := fun A env s sl ro ef rs ba av hf Q hQ =>
  h A env s sl ro ef rs ba av hf Q fun v s' x r => hQ v s' x r (fun e => by cases e)
theorem EvB.plain {fr ex f} (h : EvB fr G W k names sc ex f) : EvS G W k names sc ex f := fun A env s sl ro ef rs ba av hf Q hQ =>
  h A env s sl ro ef rs ba av hf Q fun v s' x r zq => hQ v s' x r

theorem TestsS.nil : TestsS G W k names sc [] (fun zq => some true) := fun A env s sl ro ef rs ba b hf Q hQ => by
  cases hf; exact wpAny_tests_nil (hQ s (.refl s))
theorem TestsS.one {ex f} (h : TsS G W k names sc ex f) : TestsS G W k names sc [ex] (fun sl => (f sl).bind truth) := fun A env s sl ro ef rs ba b hf Q hQ => by
  obtain ⟨av, h1, h2⟩ := Option.bind_eq_some_iff.mp hf
  exact wpAny_tests_one (h A env s sl ro ef rs ba av b h1 h2 Q hQ)

noncomputable def compV (ft : List Slot → Option Bool) (fe : List Slot → Option AV) (mk : AV → List Slot) : List AV → Option (List AV)
  | [] => some []
  | x :: r => (ft (mk x)).bind fun b => if b = true then (fe (mk x)).bind fun y => if y.firm = true then (compV ft fe mk r).map (y :: ·) else Option.none else compV ft fe mk r

noncomputable def compChk (sc ns : List (Str × NameKind)) (names : List Str) (x : Str) (ix : List Nat) : Bool :=
  (ns.lookup x == some .local || ns.lookup x == some .cell) &&
  ns.all (fun y => y.2 != .free || sc.lookup y.1 == some .cell || sc.lookup y.1 == some .free) &&
  ns.all (fun y => y.2 != .local || ns.lookup y.1 == some .local) &&
  ns.all (fun y => y.2 != .cell || (y.1 == x && ns.lookup x == some .cell)) &&
  ix.all (fun i => match names[i]? with | some y => y != x && ns.lookup y == some .free | none => false)

theorem assign_var {env : Env} {x : Str} {p : Pos} {v : Value} {Q : Unit → Shared → Prop} (hk : env.scope.kind = .function)
    (h : (env.kindOf x = some .local ∧ ∃ m, s.heap.Ns env.locals m) ∨ (env.kindOf x = some .cell ∧ ∃ c ov, env.cells.lookup x = some c ∧ s.heap.IsCell c ov))
    (hQ : ∀ a h' tk, ((env.kindOf x = some .local ∧ a = env.locals ∧ ∃ m, s.heap.Ns env.locals m ∧ h'.Ns env.locals (fun y => if y = x then some v else m y)) ∨ (env.kindOf x = some .cell ∧ env.cells.lookup x = some a ∧ h'.IsCell a (some v))) →
      Heap.SameBut a s.heap h' → Q () { s with heap := h', toks := tk }) : wpAny G.M A (assign (.Name x p) env v) Q E s := by
  refine wpAny_assign_Name ?_
  rcases h with ⟨a, m, n⟩ | ⟨a, c, ov, b, n⟩
  · exact wpAny_storeName_local a n (fun h' n' sb => hQ _ h' _ (.inl ⟨a, rfl, m, n, n'⟩) sb) (by rw [hk]; rfl)
  · exact wpAny_storeName_cell hk a b n fun h' n' sb => hQ c h' _ (.inr ⟨a, b, n'⟩) sb

noncomputable def cvars (names : List Str) (x : Str) (ix : List Nat) : List Str := x :: ix.map fun i => (names[i]?).getD x
noncomputable def cslots (sl : List Slot) (ix : List Nat) (a : AV) : List Slot := .val a :: ix.map fun i => (sl[i]?).getD .unset

theorem Ext.but {H₀ : Heap} {s s' : Shared} {C : Addr} {h' : Heap} {m} (xx : Ext s s') (tb : TB H₀ s.heap) (hC : s.heap.get? C = Option.none) (hm : s'.heap.Ns C m) (sb : Heap.SameBut C s'.heap h') : Ext s { s' with heap := h' } := by
  obtain ⟨o, e, c⟩ := codey_ns hm
  have hM : C ≠ mainGlobals := fun q => by
    obtain ⟨mg, o', _, _, e', _⟩ := tb.main
    rw [← q, hC] at e'; cases e'
  obtain ⟨h₁, tk, rfl, kk, nn, t⟩ := xx
  refine ⟨h', tk, rfl, fun b o e hs => sb.extBut b o (fun q => by rw [q, hC] at e; cases e) (kk b o e hs), fun b e => ?_, fun H tb => (t H tb).change (fun b o hb e => sb.extBut b o hb e) hM e c⟩
  by_cases q : b = C
  · rw [q]; exact hC
  · exact nn b (by rw [← sb.2 b q]; exact e)
theorem ltN {a b : Nat} (h : a < b) : a < b := h
theorem leN {a b : Nat} (h : a ≤ b) : a ≤ b := h
theorem neN {a b : Nat} (h : a ≠ b) : a ≠ b := h
theorem eqN {a b : Nat} (h : a = b) : a = b := h
theorem noE {α : Type} {t : Sem α} {Q : α → Shared → Prop} (h : wpAny G.M A t Q (fun zq zq => False) s) : wpAny G.M A t Q E s := wpAny_mono h (fun zq zq q => q) fun zq zq f => f.elim
theorem RepV.there {h : Heap} {a : AV} {d : Addr} (r : RepV W h a (.ref d)) : (h.get? d).isSome = true := by
  cases a
  case none => cases (show Value.ref d = .none from r)
  case bool => cases (show Value.ref d = .bool _ from r)
  case int => obtain ⟨_, e⟩ := r; cases e
  case str => obtain ⟨_, e⟩ := r; cases e
  case tup => obtain ⟨_, _, e, _, ⟨o, ho, _⟩, _⟩ := r; cases e; rw [ho]; rfl
  case lst => obtain ⟨_, _, e, _, ⟨o, ho⟩, _⟩ := r; cases e; rw [ho]; rfl
  case «mut» => obtain ⟨_, _, e, ⟨o, ho⟩, _⟩ := r; cases e; rw [ho]; rfl
  case view => obtain ⟨_, _, e, ⟨o, ho, _⟩, _⟩ := r; cases e; rw [ho]; rfl
theorem RepL.there {h : Heap} {d : Addr} : ∀ {xs : List AV} {vs : List Value}, RepL W h xs vs → Value.ref d ∈ vs → (h.get? d).isSome = true
  | [], _, r, m => by rw [show _ = [] from r] at m; cases m
  | x :: xs, _, ⟨v, q, e, a, b⟩, m => by
    rw [e] at m
    rcases List.mem_cons.mp m with m | m
    · rw [← m] at a; exact a.there
    · exact b.there m
theorem firmL_append {a b : List AV} (h : firmL a = true) (h' : firmL b = true) : firmL (a ++ b) = true := by
  rw [firmL_iff] at *
  intro x hx
  rcases List.mem_append.mp hx with q | q
  · exact h x q
  · exact h' x q

noncomputable def PApp (M : Model) (A : Around) (acc : Value) (J : Shared → Prop) (x : Value) (s : Shared) : Prop := wpAny M A (call (.builtin "list.append") [acc, x]) (fun zq s' => J s') (fun zq zq => False) s
noncomputable def PTst (M : Model) (A : Around) (elt : Expr) (env : Env) (acc : Value) (J : Shared → Prop) (ok : Bool) (s : Shared) : Prop := if ok = true then wpAny M A (eval elt env) (PApp M A acc J) (fun zq zq => False) s else J s
noncomputable def PAsg (M : Model) (A : Around) (ifs : List Expr) (elt : Expr) (env : Env) (acc : Value) (J : Shared → Prop) (_ : Unit) (s : Shared) : Prop :=
  wpAny M A (forIn ifs true fun c r => if r = true then do let ok ← isTrue c env (eval c env); pure (ForInStep.yield ok) else pure (ForInStep.yield r)) (PTst M A elt env acc J) (fun zq zq => False) s
noncomputable def PNxt (M : Model) (A : Around) (target : Expr) (ifs : List Expr) (elt : Expr) (env : Env) (acc : Value) (J K : Shared → Prop) (r : Option Value) (s : Shared) : Prop :=
  match r with
  | Option.none => K s
  | some v => wpAny M A (assign target env v) (PAsg M A ifs elt env acc J) (fun zq zq => False) s
theorem loop_name {prog : Program} {w : World} {A : Around} {s : Shared} {R : Result → Shared → Prop} {x : Str} {px : Pos} {elt iter : Expr} {ifs : List Expr} {scope : Scope} {pos : Pos} {it acc : Value} {env : Env} (I : Nat → Shared → Prop)
    (turn : ∀ n s (J : Shared → Prop), (∀ m s', m < n → I m s' → J s') → I n s → wpAny (model prog w) A (pyNext it) (PNxt (model prog w) A (.Name x px) ifs elt env acc J (R (.ok .next))) (fun zq zq => False) s)
    (n : Nat) (h : I n s) : codeAny (model prog w) A (.compLoop (.ListComp elt [⟨.Name x px, iter, ifs, 0⟩] scope pos) 0 it acc env) R s := by
  refine codeAny_compLoop_tests I (fun n s' h => wpAny_mono (turn n s' (fun s₅ => ∃ m, m < n ∧ I m s₅) (fun m s' a b => ⟨m, a, b⟩) h) (fun r s₁ h₁ => ?_) fun zq zq f => f.elim) n h
  cases r with
  | none => exact h₁
  | some v =>
    refine wpAny_mono (show wpAny _ _ _ _ _ _ from h₁) (fun zq s₂ h₂ => wpAny_mono (show wpAny _ _ _ _ _ _ from h₂) (fun ok s₃ h₃ => ?_) fun zq zq f => f.elim) fun zq zq f => f.elim
    cases ok with
    | false => exact h₃
    | true => exact wpAny_mono (show wpAny _ _ _ _ _ _ from h₃) (fun x s₄ h₄ => wpAny_mono (show wpAny _ _ _ _ _ _ from h₄) (fun zq zq h => h) fun zq zq f => f.elim) fun zq zq f => f.elim
inductive CInv (H H2 : Heap) (wr : Addr → Prop) (ows : List (Str × Addr)) (D C : Addr) (W' : Addr → Prop) (St : Nat → Heap → Prop) (tl : List AV → Option (List AV)) (items out : List AV) (fr : Bool) (s₂ : Shared) : Nat → Shared → Prop
  | mk (h' : Heap) (tk : Nat) (i : Nat) (done : List AV) (vs : List Value) (hi : i ≤ items.length) (st : St i h') (pl : h'.PlainList D (List.toArray vs)) (ns : ∃ m, h'.Ns C m)
      (oc : ∀ n c, (n, c) ∈ ows → ∃ ov, h'.IsCell c ov) (rl : RepL W' h' done vs) (fl : firmL done = true) (rest : List AV) (hr : tl (items.drop i) = some rest) (hro : done ++ rest = out)
      (kk : ∀ b o, ¬ wr b → H2.get? b = some o → tabby o = false → h'.get? b = some o) (nn : ∀ b, h'.get? b = Option.none → H2.get? b = Option.none) (tb : TB H h')
      (hfr : fr = true → ∃ ds : List Addr, vs = ds.map Value.ref ∧ ds.Nodup ∧ ∀ d ∈ ds, H2.get? d = Option.none) (hle : done.length ≤ i) :
      CInv H H2 wr ows D C W' St tl items out fr s₂ (items.length + 1 - i) { s₂ with heap := h', toks := tk }
theorem comp_core {fr : Bool} {x : Str} {px : Pos} {iter elt : Expr} {ifs : List Expr} {scope : Scope} {pos pos' : Pos} {ix : List Nat} {fi : List Slot → Option (List AV)} {ft : List Slot → Option Bool} {fe : List Slot → Option AV}
    (chk : compChk sc scope.names names x ix = true) (hsk : scope.kind = .function)
    (ci : EvI G W k names sc iter fi) (ct : ∀ W, TestsS G W k (cvars names x ix) (relab sc scope.names) ifs ft) (ce : ∀ W, EvB fr G W k (cvars names x ix) (relab sc scope.names) elt fe)
    {env : Env} {sl : List Slot} (ro : Room A k) (ef : EnvF env sc) (rs : RS W env names sl s.heap) (ba : Base G W s) {items out : List AV} (hi : fi sl = some items) (hf : firmL items = true) (hn : items.length < 1000000)
    (ho : compV ft fe (cslots sl ix) items = some out)
    {use : Option (Value → Sem Unit)} {Q : Value → Shared → Prop}
    (hQ : ∀ D C s' vs, Ext s s' → s.heap.get? D = Option.none → s.heap.get? C = Option.none → D ≠ C → (∃ m, s'.heap.Ns C m) → s'.heap.PlainList D (List.toArray vs) → RepL (fun b => W b ∨ b = D ∨ b = C) s'.heap out vs → firmL out = true →
      (fr = true → ∃ ds : List Addr, vs = ds.map Value.ref ∧ ds.Nodup ∧ ∀ d ∈ ds, s.heap.get? d = Option.none) → compPost G.M A (fun zq zq => False) use Q (.ref D) C (.ok .next) s')
    (hs : ∀ x, foldedSetIterable iter env x = pure x) :
    wpAny G.M A (comprehension (.ListComp elt [⟨.Name x px, iter, ifs, 0⟩] scope pos) scope env pos' (newList []) false (eval iter env) use) Q (fun zq zq => False) s := by
  unfold compChk at chk
  simp only [Bool.and_eq_true, Bool.or_eq_true, List.all_eq_true, beq_iff_eq, bne_iff_ne, ne_eq] at chk
  obtain ⟨⟨⟨⟨c1, c2⟩, c3⟩, c4⟩, c5⟩ := chk
  obtain ⟨cl, hclos, hcl1, hcl2⟩ := closure_is (scope := scope) (env := env) (fun y hy hk => by
    rcases c2 y hy with (h | h) | h
    · exact absurd hk h
    · exact ef.cells _ _ h (.inl rfl)
    · exact ef.cells _ _ h (.inr rfl))
  refine wpAny_comprehension_free rfl hs hclos hsk (fun y hy hk => (c3 y hy).resolve_left (fun h => h hk)) ?_
  refine ci A env s sl ro ef rs ba items hi _ fun I s₂ fp wr P St x₂ Wk st0 hfp hwr hfw hws hP => ?_
  refine wpAny_newObj_type (newEnv_comp ?_)
  dsimp only
  have hsz0 : s₂.heap.objs.size = s₂.heap.objs.size := rfl
  generalize hH2 : s₂.heap.push { cls := .type "list", dict := none, data := .seq ([] : List Value).toArray } = H2
  have hC : H2.objs.size = s₂.heap.objs.size + 1 := by rw [← hH2, Heap.size_push]
  generalize hH3 : H2.push { cls := .type "dict", data := .dict #[] } = H3
  have hC3 : H3.objs.size = H2.objs.size + 1 := by rw [← hH3, Heap.size_push]
  have ok := cellsFrom_ok scope.names H3 H3.objs.size [] ⟨fun zq zq hm => (nomatch hm), List.Pairwise.nil⟩ (Nat.le_refl _)
  rw [hC3] at ok
  have hDC : s₂.heap.objs.size ≠ H2.objs.size := by lia
  have k23 : FKept s₂.heap H3 := fun b o e => by rw [← hH3]; exact Heap.get?_push_of_some _ (by rw [← hH2]; exact Heap.get?_push_of_some _ e)
  have k24 : FKept s₂.heap (pushCells H3 scope.names) := fun b o e => pushCells_keeps _ _ _ _ (k23 b o e)
  have hD4 : (pushCells H3 scope.names).PlainList s₂.heap.objs.size (List.toArray []) := ⟨_, pushCells_keeps _ _ _ _ (by rw [← hH3]; exact Heap.get?_push_of_some _ (by rw [← hH2]; exact Heap.get?_push_size _ rfl))⟩
  have hC4 : (pushCells H3 scope.names).Ns H2.objs.size (fun zq => none) := by
    have := (Heap.Ns.new H2 (.type "dict"))
    rw [hH3] at this
    exact this.keeps (pushCells_keeps _ _)
  generalize hH4 : pushCells H3 scope.names = H4 at ok k24 hD4 hC4
  generalize hown : cellsFrom (H2.objs.size + 1) scope.names [] = own at ok
  generalize hDd : s₂.heap.objs.size = D at *
  generalize hCd : H2.objs.size = C at *
  as_aux_lemma =>
  have mem_own_x : ∀ n c, (n, c) ∈ own → n = x ∧ scope.names.lookup x = some .cell := fun n c h => by
    rw [← hown] at h
    rcases c4 _ (own_mem h) with q | q
    · exact absurd rfl q
    · exact q
  have hownx : scope.names.lookup x = some .cell → ∃ c, own.lookup x = some c := fun h => by
    obtain ⟨c, hc⟩ := mem_own (n := C + 1) (mem_of_lookup h)
    rw [hown] at hc; exact lookup_of_mem hc
  have hownn : ∀ y, y ≠ x → own.lookup y = none := fun y h => by
    cases q : own.lookup y with
    | none => rfl
    | some c => exact absurd (mem_own_x _ _ (mem_of_lookup q)).1 h
  have hkindOf : ∀ y, (compEnvC scope (own ++ cl) C env).kindOf y = (relab sc scope.names).lookup y := fun y => by
    show (relabel scope env).names.lookup y = _
    rw [relabel_names ef]
  have ef' : EnvF (compEnvC scope (own ++ cl) C env) (relab sc scope.names) := by
    refine ⟨hsk, ef.globals, ef.builtins, relabel_names ef, fun y kd e hkd => ?_⟩
    rw [lookup_relab] at e
    obtain ⟨k0, h1, h2⟩ := Option.map_eq_some_iff.mp e
    show ∃ c, (own ++ cl).lookup y = some c
    rw [lookup_append]
    by_cases h0 : k0 = .free
    · subst h0
      obtain ⟨c, hc⟩ := hcl2 y (mem_of_lookup h1)
      cases q : own.lookup y with
      | none => exact ⟨c, by rw [hc]; rfl⟩
      | some d => exact ⟨d, rfl⟩
    · have hk0 : k0 = kd := by rw [← h2, if_neg (by simp [h0])]
      have : k0 = .cell := by rw [hk0]; exact hkd.resolve_right (fun e => h0 (hk0.trans e))
      subst this
      rcases c4 _ (mem_of_lookup h1) with q | q
      · exact absurd rfl q
      · obtain ⟨c, hc⟩ := hownx q.2
        refine ⟨c, ?_⟩
        have q1 : y = x := q.1
        rw [q1, hc]; rfl
  have ge : ∀ a, s₂.heap.objs.size ≤ a → s₂.heap.get? a = none := fun a h => by
    cases q : s₂.heap.get? a with
    | none => rfl
    | some o => exact absurd (Heap.lt_size q) (Nat.not_lt.mpr h)
  rw [hDd] at ge
  have hown2 : ∀ n c, (n, c) ∈ own → s₂.heap.get? c = none ∧ C < c := fun n c h => by
    have := (ok.empty n c h).2
    exact ⟨ge c (by lia), by lia⟩
  generalize hWd : (fun b => W b ∨ b ∈ wr ∨ b = D ∨ b = C ∨ ∃ n, (n, b) ∈ own) = W'
  have eW : ∀ b, W' b ↔ (W b ∨ b ∈ wr ∨ b = D ∨ b = C ∨ ∃ n, (n, b) ∈ own) := fun b => by rw [← hWd]
  clear hWd
  as_aux_lemma =>
  have hW2 : ∀ b, (s₂.heap.get? b).isSome = true → W' b → W b ∨ b ∈ wr := fun b h w => by
    rcases (eW b).mp w with w | w | w | w | ⟨n, w⟩
    · exact .inl w
    · exact .inr w
    · subst w; rw [ge b (Nat.le_refl _)] at h; cases h
    · subst w; rw [ge b (by lia)] at h; cases h
    · rw [(hown2 n b w).1] at h; cases h
  have hW1 : ∀ b, (s.heap.get? b).isSome = true → W' b → W b := fun b h w => by
    rcases hW2 b (x₂.some h) w with q | q
    · exact q
    · rw [hwr b q] at h; cases h
  have kS : ∀ h' : Heap, (∀ b o, b ∉ wr → s₂.heap.get? b = some o → tabby o = false → h'.get? b = some o) → Kept s.heap h' := fun h' kk b o e hs =>
    kk b o (fun m => by rw [hwr b m] at e; cases e) (x₂.kept b o e hs) hs
  have tb₂ : TB s.heap s₂.heap := x₂.tb ba.tb.self
  have hmain : mainGlobals < s₂.heap.objs.size := by
    obtain ⟨mg, n⟩ := tb₂.main
    exact n.lt
  rw [hDd] at hmain
  have noM : ∀ a : Addr, D ≤ a → a ≠ mainGlobals := fun a h e => by rw [e] at h; exact Nat.lt_irrefl _ (Nat.lt_of_lt_of_le hmain h)
  have base' : ∀ (s' : Shared) (i : Nat), St i s'.heap → TB s.heap s'.heap → (∀ b, s'.heap.get? b = none → s₂.heap.get? b = none) → (∀ b o, b ∉ wr → s₂.heap.get? b = some o → tabby o = false → s'.heap.get? b = some o) → (∃ us, s'.heap.PlainList D us) → (∃ m, s'.heap.Ns C m) → (∀ n c, (n, c) ∈ own → ∃ ov, s'.heap.IsCell c ov) → Base G W' s' := by
    intro s' i hst tb' nn kk hd hc hcs
    have n0 : ∀ b, s.heap.get? b = none → G.h₀.get? b = none := fun b e => ba.gone b e
    have n2 : ∀ b, s₂.heap.get? b = none → G.h₀.get? b = none := fun b e => n0 b (x₂.gone e)
    refine ⟨fun b o e hs => kS _ kk b o (ba.keep b o e hs) hs, fun b e => n2 b (nn b e), ba.tb.trans tb', fun b w => ?_⟩
    rcases (eW b).mp w with w | w | w | w | ⟨n, w⟩
    · refine ⟨?_, (ba.above b w).2⟩
      cases q : s'.heap.get? b with
      | none => have := (ba.above b w).1; rw [x₂.gone (nn b q)] at this; cases this
      | some o => rfl
    · obtain ⟨o, ho, _⟩ := (hws i _ hst).1 b w; exact ⟨by rw [ho]; rfl, n0 b (hwr b w)⟩
    · subst w; obtain ⟨us, _, h⟩ := hd; exact ⟨by rw [h]; rfl, n2 _ (ge _ (Nat.le_refl _))⟩
    · subst w; obtain ⟨m, o, _, _, h, _⟩ := hc; exact ⟨by rw [h]; rfl, n2 _ (ge _ (by lia))⟩
    · obtain ⟨ov, o, h, _⟩ := hcs n b w; exact ⟨by rw [h]; rfl, n2 _ (hown2 n b w).1⟩
  have rs' : ∀ (h' : Heap) (v : Value) (a : AV), Kept s.heap h' → Loads (compEnvC scope (own ++ cl) C env) h' x (some v) → RepV W' h' a v → a.firm = true →
      RS W' (compEnvC scope (own ++ cl) C env) (cvars names x ix) (cslots sl ix a) h' := by
    intro h' v a kk hl hr hfa i y sv hy hsv hne
    cases i with
    | zero =>
      simp only [cvars, cslots, List.getElem?_cons_zero, Option.some.injEq] at hy hsv
      subst hy; subst hsv
      exact ⟨_, hl, v, rfl, hr, hfa⟩
    | succ j =>
      simp only [cvars, cslots, List.getElem?_cons_succ, List.getElem?_map] at hy hsv
      obtain ⟨i0, e0, hy⟩ := Option.map_eq_some_iff.mp hy
      rw [e0] at hsv
      simp only [Option.map_some] at hsv
      have hm := List.mem_of_getElem? e0
      have c5' := c5 i0 hm
      cases hn0 : names[i0]? with
      | none => rw [hn0] at c5'; cases c5'
      | some y0 =>
        rw [hn0] at c5' hy
        simp only [Option.getD_some] at hy
        subst hy
        simp only [Bool.and_eq_true, bne_iff_ne, ne_eq, beq_iff_eq] at c5'
        cases hs0 : sl[i0]? with
        | none =>
          rw [hs0] at hsv
          simp only [Option.getD_none, Option.some.injEq] at hsv
          exact absurd hsv.symm hne
        | some sv0 =>
          rw [hs0] at hsv
          simp only [Option.getD_some, Option.some.injEq] at hsv
          subst hsv
          obtain ⟨ov, l, r⟩ := rs i0 y0 sv0 hn0 hs0 hne
          refine ⟨ov, .inr ?_, r.shift kk hW1⟩
          have hko : env.kindOf y0 = sc.lookup y0 := by unfold Env.kindOf; rw [ef.names]
          have hsc : sc.lookup y0 = some .cell ∨ sc.lookup y0 = some .free := by
            rcases c2 _ (mem_of_lookup c5'.2) with (h | h) | h
            · exact absurd rfl h
            · exact .inl h
            · exact .inr h
          rcases l with ⟨q, _⟩ | ⟨_, c, hc, isc⟩
          · rw [hko] at q
            rcases hsc with h | h <;> rw [h] at q <;> cases q
          · refine ⟨?_, c, ?_, IsCell.keepsK isc kk⟩
            · rw [hkindOf, lookup_relab, c5'.2]
              by_cases h : sc.lookup y0 = some .cell
              · left; simp [h]
              · right; simp [h]
            · show (own ++ cl).lookup y0 = some c
              rw [lookup_append, hownn y0 c5'.1]
              obtain ⟨c', h'⟩ := hcl2 y0 (mem_of_lookup c5'.2)
              have := hcl1 _ _ h'
              rw [hc] at this
              cases this
              rw [h']; rfl
  have hwlt : ∀ b ∈ wr, b < D := fun b hb => hfp b (Wk.sub b hb)
  have hwC : C ∉ wr := fun h => by have := ltN (hwlt _ h); lia
  have hwD : D ∉ wr := fun h => by have := ltN (hwlt _ h); lia
  have hwO : ∀ n c, (n, c) ∈ own → c ∉ wr := fun n c h q => by have := ltN (hwlt _ q); have := ltN (hown2 n c h).2; lia
  have hlook : ∀ y, (compEnvC scope (own ++ cl) C env).cells.lookup y = (own ++ cl).lookup y := fun zq => rfl
  have hloc : (compEnvC scope (own ++ cl) C env).locals = C := rfl
  have hkd : (compEnvC scope (own ++ cl) C env).scope.kind = .function := hsk
  suffices loop : ∀ s₃ : Shared, (∃ tk, s₃ = { s₂ with heap := H4, toks := tk }) →
      codeAny G.M A (.compLoop (.ListComp elt [⟨.Name x px, iter, ifs, 0⟩] scope pos) 0 (.ref I) (.ref D) (compEnvC scope (own ++ cl) C env)) (compPost G.M A (fun zq zq => False) use Q (.ref D) C) s₃ from
    codeAny_compStart_list (loop { s₂ with heap := H4 } ⟨s₂.toks, rfl⟩) (Wk.self 0 _ _ _ (Wk.frame 0 _ _ st0 fun b zq o e => k24 b o e) (loop { s₂ with heap := H4 } ⟨s₂.toks, rfl⟩))
  generalize compEnvC scope (own ++ cl) C env = env' at *
  have hQ' := hQ D C
  clear hQ
  generalize compPost G.M A (fun zq zq => False) use Q (.ref D) C = R at *
  as_aux_lemma =>
    rintro _ ⟨tk0, rfl⟩
    refine loop_name (CInv s.heap s₂.heap (· ∈ wr) own D C W' St (compV ft fe (cslots sl ix)) items out fr s₂) ?_ (items.length + 1)
      (.mk H4 tk0 0 [] [] (Nat.zero_le _) (Wk.frame 0 _ _ st0 (fun b zq o e => k24 b o e)) hD4 ⟨_, hC4⟩ (fun n c h => ⟨none, (ok.empty n c h).1⟩) rfl rfl out ho rfl (fun b o zq e zq => k24 b o e) (none_full k24) (tb₂.keeps k24) (fun zq => ⟨[], rfl, List.nodup_nil, fun d hd => by cases hd⟩) (Nat.le_refl _))
    rintro _ _ J hJ ⟨h', tk, i, done, vs, hi', st, pl, ns, oc, rl, fl, rest, hr, hro, kk, nn, tb', hfr, hle⟩
    by_cases hlt : i < items.length
    · refine Wk.item i _ _ _ hlt st fun v h₁ tk₁ hPv st₁ kk₁ => ?_
      dsimp only at kk₁
      have tb₁ : TB s.heap h₁ := tb'.wr kk₁ (hws _ _ st).1
      have nn₁ : ∀ b, h₁.get? b = none → h'.get? b = none := none_wr kk₁ fun b hb => by obtain ⟨o, ho, _⟩ := (hws _ _ st₁).1 b hb; rw [ho]; rfl
      have ns₁ : ∃ m, h₁.Ns C m := let ⟨m, o, es, ep, e, r⟩ := ns; ⟨m, o, es, ep, kk₁ _ _ hwC e, r⟩
      have oc₁ : ∀ n c, (n, c) ∈ own → ∃ ov, h₁.IsCell c ov := fun n c h => let ⟨ov, o, e, r⟩ := oc n c h; ⟨ov, o, kk₁ _ _ (hwO n c h) e, r⟩
      have pl₁ : h₁.PlainList D (List.toArray vs) := let ⟨n, e⟩ := pl; ⟨n, kk₁ _ _ hwD e⟩
      show wpAny _ _ (assign (.Name x px) env' v) _ _ _
      refine assign_var (G := G) hkd ?_ fun a h₂ tk₂ ha sb => ?_
      · show _ ∨ _
        rcases c1 with h | h
        · exact .inl ⟨by rw [hkindOf, lookup_relab, h]; rfl, by rw [hloc]; exact ns₁⟩
        · obtain ⟨c, hc⟩ := hownx h
          obtain ⟨ov, hov⟩ := oc₁ x c (mem_of_lookup hc)
          refine .inr ⟨by rw [hkindOf, lookup_relab, h]; rfl, c, ov, ?_, hov⟩
          rw [hlook, lookup_append, hc]; rfl
      dsimp only at sb ha
      rw [hloc] at ha
      have ha' : a = C ∨ ∃ n, (n, a) ∈ own := by
        rcases ha with ⟨_, h, _⟩ | ⟨hk, h, _⟩
        · exact .inl h
        · refine .inr ⟨x, ?_⟩
          rw [hkindOf, lookup_relab] at hk
          have hxc : scope.names.lookup x = some .cell := by
            rcases c1 with q | q
            · rw [q] at hk; cases hk
            · exact q
          obtain ⟨c, hc⟩ := hownx hxc
          rw [hlook, lookup_append, hc] at h
          cases h
          exact mem_of_lookup hc
      have haW : W' a := (eW a).mpr (by rcases ha' with h | h; exact .inr (.inr (.inr (.inl h))); exact .inr (.inr (.inr (.inr h))))
      have haC : C ≤ a := by
        rcases ha' with h | ⟨n, h⟩
        · rw [h]; exact Nat.le_refl _
        · exact Nat.le_of_lt (hown2 n a h).2
      have haC' := leN haC
      have haD : a ≠ D := neN (by lia)
      have kk₂ : ∀ b o, b ∉ wr → s₂.heap.get? b = some o → tabby o = false → h₂.get? b = some o := fun b o hb e hs => by
        have : b ≠ a := fun q => by rw [q, ge a (leN (by lia))] at e; cases e
        exact sb.extBut b o this (kk₁ b o hb (kk b o hb e hs))
      have ca₁ : ∃ o, h₁.get? a = some o ∧ codey o = false := by
        rcases ha' with h | ⟨n, h⟩
        · obtain ⟨m, hm⟩ := ns₁; rw [h]; exact codey_ns hm
        · obtain ⟨ov, hov⟩ := oc₁ n a h; exact codey_cell hov
      have ca₂ : (h₂.get? a).isSome = true := by
        rcases ha with ⟨_, h, m, _, hm⟩ | ⟨_, _, hc⟩
        · rw [h]; obtain ⟨o, e, _⟩ := codey_ns hm; rw [e]; rfl
        · obtain ⟨o, e, _⟩ := codey_cell hc; rw [e]; rfl
      have tb₂' : TB s.heap h₂ := by obtain ⟨o, e, c⟩ := ca₁; exact tb₁.change (fun b o hb e => sb.extBut b o hb e) (noM a (leN (by lia))) e c
      have nn₂ : ∀ b, h₂.get? b = none → s₂.heap.get? b = none := fun b e => nn b (nn₁ b (none_but (fun b o hb e => sb.extBut b o hb e) ca₂ b e))
      have st₂ : St (i + 1) h₂ := Wk.frame _ _ _ st₁ fun b hb o e => sb.extBut b o (fun q => by have := ltN (hfp b hb); have q' := eqN q; lia) e
      have pl₂ : h₂.PlainList D (List.toArray vs) := let ⟨n, e⟩ := pl₁; ⟨n, sb.extBut _ _ (Ne.symm haD) e⟩
      have ns₂ : ∃ m, h₂.Ns C m := by
        rcases ha with ⟨_, h, m, _, hm⟩ | ⟨hk, h, hc⟩
        · exact ⟨_, hm⟩
        · obtain ⟨m, hm⟩ := ns₁
          have : a ≠ C := by
            rintro rfl
            obtain ⟨o, e1, e2⟩ := hc
            obtain ⟨o', es, ep, e3, e4⟩ := hm
            have h' : (own ++ cl).lookup x = some a := (hlook x).symm.trans h
            rcases ha' with _ | ⟨n, hn⟩
            · rw [hkindOf, lookup_relab] at hk
              rcases c1 with q | q
              · rw [q] at hk; cases hk
              · obtain ⟨c, hc⟩ := hownx q
                rw [lookup_append, hc] at h'
                cases h'
                exact Nat.lt_irrefl _ (hown2 _ _ (mem_of_lookup hc)).2
            · exact Nat.lt_irrefl _ (hown2 _ _ hn).2
          exact ⟨m, hm.sameBut sb (Ne.symm this)⟩
      have oc₂ : ∀ n c, (n, c) ∈ own → ∃ ov, h₂.IsCell c ov := fun n c hm => by
        by_cases q : c = a
        · rcases ha with ⟨_, h, _⟩ | ⟨_, _, hc⟩
          · have hCa : a = C := h
            rw [q, hCa] at hm
            exact absurd (hown2 n C hm).2 (Nat.lt_irrefl _)
          · exact ⟨_, q ▸ hc⟩
        · obtain ⟨ov, hov⟩ := oc₁ n c hm
          exact ⟨ov, hov.sameBut sb q⟩
      have lo₂ : Loads env' h₂ x (some v) := by
        rcases ha with ⟨hk, h, m, _, hm⟩ | ⟨hk, h, hc⟩
        · exact .inl ⟨hk, _, hloc.symm ▸ hm, by simp⟩
        · exact .inr ⟨.inl hk, a, h, hc⟩
      have nk : ∀ b o, ¬ W' b → h'.get? b = some o → tabby o = false → h₂.get? b = some o := fun b o hb e zq =>
        sb.extBut b o (fun q => hb (q ▸ haW)) (kk₁ b o (fun q => hb ((eW b).mpr (.inr (.inl q)))) e)
      have rl₂ : RepL W' h₂ done vs := RepL.firm nk (fun zq zq w => w) _ _ fl rl
      obtain ⟨xi, hxi⟩ : ∃ xi, items[i]? = some xi := ⟨_, List.getElem?_eq_getElem hlt⟩
      have hxf : xi.firm = true := RepL.firmL_of_mem hf xi (List.mem_of_getElem? hxi)
      have rx : RepV W' h₂ xi v := RepV.firm (fun b o hb e hs => kk₂ b o (fun q => hb (.inr q)) e hs) hW2 _ _ hxf (hP i v xi hPv hxi)
      have hdrop : items.drop i = xi :: items.drop (i + 1) := by
        rw [List.drop_eq_getElem_cons hlt]
        rw [List.getElem?_eq_getElem hlt] at hxi
        cases hxi; rfl
      rw [hdrop] at hr
      obtain ⟨b, hb, hr⟩ := Option.bind_eq_some_iff.mp hr
      have kS₂ := kS h₂ kk₂
      refine noE (ct W' A _ _ _ ro ef' (rs' h₂ v xi kS₂ lo₂ rx hxf) (base' _ (i + 1) st₂ tb₂' nn₂ kk₂ ⟨_, pl₂⟩ ns₂ oc₂) b hb _ fun s₃ x₃ => ?_)
      obtain ⟨h₃, tk₃, rfl, k₃, n₃, t₃⟩ := x₃
      dsimp only at k₃ n₃ t₃
      have kk₃ : ∀ b o, b ∉ wr → s₂.heap.get? b = some o → tabby o = false → h₃.get? b = some o := fun b o hb e hs => k₃ b o (kk₂ b o hb e hs) hs
      have st₃ : St (i + 1) h₃ := Wk.frame _ _ _ st₂ fun b hb o e => k₃ b o e ((hws _ _ st₂).2 b hb o e)
      have nn₃ : ∀ b, h₃.get? b = none → s₂.heap.get? b = none := fun b e => nn₂ b (n₃ b e)
      cases b with
      | false =>
        rw [if_neg (by decide)] at hr
        exact hJ (items.length + 1 - (i + 1)) _ (by lia) (.mk h₃ tk₃ (i + 1) done vs hlt st₃ (PlainList.grow k₃ pl₂) (let ⟨m, hm⟩ := ns₂; ⟨m, Ns.keepsK hm k₃⟩) (fun n c hm => let ⟨ov, ho⟩ := oc₂ n c hm; ⟨ov, IsCell.keepsK ho k₃⟩)
          (rl₂.grow k₃) fl rest hr hro kk₃ nn₃ (t₃ _ tb₂') hfr (Nat.le_succ_of_le hle))
      | true =>
        rw [if_pos rfl] at hr
        show wpAny _ _ (eval elt env') _ _ _
        obtain ⟨y, hy, hr⟩ := Option.bind_eq_some_iff.mp hr
        split at hr
        · next hyf =>
          obtain ⟨rest', hr', hrr⟩ := Option.map_eq_some_iff.mp hr
          subst hrr
          refine noE (ce W' A _ _ _ ro ef' (rs' h₃ v xi (kS h₃ kk₃) (lo₂.grow k₃) (rx.grow k₃) hxf) (base' _ (i + 1) st₃ (t₃ _ tb₂') nn₃ kk₃ ⟨_, PlainList.grow k₃ pl₂⟩ (let ⟨m, hm⟩ := ns₂; ⟨m, Ns.keepsK hm k₃⟩) fun n c hm => let ⟨ov, ho⟩ := oc₂ n c hm; ⟨ov, IsCell.keepsK ho k₃⟩) y hy _ fun u s₄ x₄ r₄ f₄ => ?_)
          obtain ⟨h₄, tk₄, rfl, k₄, n₄, t₄⟩ := x₄
          dsimp only at k₄ r₄ f₄ n₄ t₄
          have k34 : Kept h₂ h₄ := fun b o e hs => k₄ b o (k₃ b o e hs) hs
          have hvl := rl.length
          show wpAny _ _ (call (.builtin "list.append") [.ref D, u]) _ _ _
          refine wpAny_list_append_plain (hsz := by rw [List.size_toArray, hvl, sizeLine_eq]; lia) (PlainList.grow k34 pl₂) fun h₅ pl₅ sb₅ => ?_
          dsimp only at sb₅
          have hDW : W' D := (eW D).mpr (.inr (.inr (.inl rfl)))
          have nk₅ : ∀ b o, ¬ W' b → h₄.get? b = some o → tabby o = false → h₅.get? b = some o := fun b o hb e zq => sb₅.extBut b o (fun q => hb (q ▸ hDW)) e
          refine hJ (items.length + 1 - (i + 1)) _ (by lia) (.mk h₅ tk₄ (i + 1) (done ++ [y]) (vs ++ [u]) hlt ?_ (by simpa using pl₅) ?_ ?_ ?_ (firmL_append fl (by simp [firmL, hyf])) rest' hr' (by rw [List.append_assoc]; exact hro) ?_ ?_ ?_ ?_ (by simp; lia))
          · exact Wk.frame _ _ _ st₃ fun b hb o e => sb₅.extBut b o (fun q => by have := ltN (hfp b hb); have q' := eqN q; lia) (k₄ b o e ((hws _ _ st₃).2 b hb o e))
          · obtain ⟨m, hm⟩ := ns₂
            exact ⟨m, (Ns.keepsK hm k34).sameBut sb₅ (neN (by lia))⟩
          · intro n c hm
            obtain ⟨ov, ho⟩ := oc₂ n c hm
            exact ⟨ov, (IsCell.keepsK ho k34).sameBut sb₅ (neN (by have := ltN (hown2 n c hm).2; lia))⟩
          · exact RepL.firm nk₅ (fun zq zq w => w) _ _ (firmL_append fl (by simp [firmL, hyf])) ((rl₂.grow k34).append (RepL.one r₄))
          · exact fun b o hb e hs => sb₅.extBut b o (fun q => by rw [q, ge D (Nat.le_refl _)] at e; cases e) (k₄ b o (kk₃ b o hb e hs) hs)
          · exact fun b e => nn₃ b (n₄ b (none_but (fun b o hb e => sb₅.extBut b o hb e) (by obtain ⟨_, e⟩ := pl₅; rw [e]; rfl) b e))
          · obtain ⟨o, e, c⟩ := codey_list (PlainList.grow k34 pl₂)
            exact (t₄ _ (t₃ _ tb₂')).change (fun b o hb e => sb₅.extBut b o hb e) (noM D (Nat.le_refl _)) e c
          · intro hfr1
            obtain ⟨ds, e1, e2, e3⟩ := hfr hfr1
            obtain ⟨d, e4, e5⟩ := f₄ hfr1
            refine ⟨ds ++ [d], by rw [e1, e4]; simp, ?_, ?_⟩
            · rw [List.nodup_append]
              refine ⟨e2, by simp, ?_⟩
              intro a1 h1 b1 h2 hab
              rw [List.mem_singleton.mp h2] at hab
              subst hab
              have := (rl₂.grow k₃).there (d := a1) (by rw [e1]; exact List.mem_map_of_mem h1)
              rw [e5] at this; cases this
            · intro d1 h1
              rcases List.mem_append.mp h1 with h1 | h1
              · exact e3 d1 h1
              · rw [List.mem_singleton.mp h1]
                exact nn₃ d e5
        · cases hr
    · have hin : i = items.length := by lia
      refine Wk.done _ _ _ (hin ▸ st) fun h₁ tk₁ kk₁ => ?_
      dsimp only at kk₁ ⊢
      rw [hin, List.drop_length] at hr
      cases hr
      rw [List.append_nil] at hro
      subst hro
      have kk1 : ∀ b o, b ∉ wr → s₂.heap.get? b = some o → tabby o = false → h₁.get? b = some o := fun b o hb e hs => kk₁ b o hb (kk b o hb e hs)
      have ex₁ : ∀ b, h₁.get? b = none → s.heap.get? b = none := fun b e => by
        by_cases m : b ∈ wr
        · exact hwr b m
        · refine x₂.gone (nn b ?_)
          cases q : h'.get? b with
          | none => rfl
          | some o => rw [kk₁ b o m q] at e; cases e
      have xx : Ext s { s₂ with heap := h₁, toks := tk₁ } := by
        obtain ⟨hh, tt, e, _⟩ := x₂
        exact ⟨h₁, tk₁, by rw [e], kS h₁ kk1, ex₁, fun H t => t.trans (tb'.wr kk₁ (hws _ _ (hin ▸ st)).1)⟩
      refine hQ' _ vs xx (x₂.gone (ge D (Nat.le_refl _))) (x₂.gone (ge C (leN (by lia)))) (by lia) ?_ ?_ ?_ fl ?_
      · obtain ⟨m, o, es, ep, e, r⟩ := ns; exact ⟨m, o, es, ep, kk₁ _ _ hwC e, r⟩
      · obtain ⟨n, e⟩ := pl; exact ⟨n, kk₁ _ _ hwD e⟩
      · refine RepL.weaken (fun b w => (eW b).mpr ?_) _ _ (RepL.firm (W' := W') (fun b o hb e zq => kk₁ b o (fun q => hb ((eW b).mpr (.inr (.inl q)))) e) (fun zq zq w => w) _ _ fl rl)
        rcases w with w | w | w
        · exact .inl w
        · exact .inr (.inr (.inl w))
        · exact .inr (.inr (.inr (.inl w)))
      · intro hfr1
        obtain ⟨ds, e1, e2, e3⟩ := hfr hfr1
        exact ⟨ds, e1, e2, fun d hd => x₂.gone (e3 d hd)⟩

noncomputable def compF (fi : List Slot → Option (List AV)) (ft : List Slot → Option Bool) (fe : List Slot → Option AV) (ix : List Nat) : List Slot → Option (List AV) := fun sl =>
  (fi sl).bind fun items => if firmL items = true ∧ items.length < 1000000 then compV ft fe (cslots sl ix) items else Option.none

theorem RepL.firm_but {D C : Addr} {W : Addr → Prop} {h h' : Heap} (sb : Heap.SameBut C h h') {xs : List AV} {vs : List Value} (f : firmL xs = true) (r : RepL (fun b => W b ∨ b = D ∨ b = C) h xs vs) : RepL (fun b => W b ∨ b = D ∨ b = C) h' xs vs :=
  RepL.firm (fun b o hb e zq => sb.extBut b o (fun q => hb (.inr (.inr q))) e) (fun zq zq w => w) xs vs f r

theorem comp_plain {fr : Bool} {x : Str} {px : Pos} {iter elt : Expr} {ifs : List Expr} {scope : Scope} {pos : Pos} {ix : List Nat} {fi : List Slot → Option (List AV)} {ft : List Slot → Option Bool} {fe : List Slot → Option AV}
    (chk : compChk sc scope.names names x ix = true) (hsk : scope.kind = .function)
    (ci : EvI G W k names sc iter fi) (ct : ∀ W, TestsS G W k (cvars names x ix) (relab sc scope.names) ifs ft) (ce : ∀ W, EvB fr G W k (cvars names x ix) (relab sc scope.names) elt fe)
    {env : Env} {sl : List Slot} (ro : Room A k) (ef : EnvF env sc) (rs : RS W env names sl s.heap) (ba : Base G W s) {out : List AV} (ho : compF fi ft fe ix sl = some out)
    {Q : Value → Shared → Prop}
    (hQ : ∀ D s' vs, Ext s s' → s.heap.get? D = Option.none → s'.heap.PlainList D (List.toArray vs) → RepL (fun b => W b ∨ b = D) s'.heap out vs → firmL out = true →
      (fr = true → ∃ ds : List Addr, vs = ds.map Value.ref ∧ ds.Nodup ∧ ∀ d ∈ ds, s.heap.get? d = Option.none) → Q (.ref D) s')
    (hs : ∀ x, foldedSetIterable iter env x = pure x) :
    wpAny G.M A (eval (.ListComp elt [⟨.Name x px, iter, ifs, 0⟩] scope pos) env) Q (fun zq zq => False) s := by
  obtain ⟨items, h1, h2⟩ := Option.bind_eq_some_iff.mp ho
  split at h2
  · next hc =>
    rw [eval_ListComp]
    refine comp_core (use := none) (fr := fr) chk hsk ci ct ce ro ef rs ba h1 hc.1 hc.2 h2 (fun D C s' vs xx hD hC hDC hns hpl hrl hfl hfr => ?_) hs
    obtain ⟨m, hm⟩ := hns
    refine ⟨m, hm, fun h' sb => ?_⟩
    have xx' : Ext s { s' with heap := h' } := by
      refine xx.but ba.tb hC hm sb
    refine hQ D _ vs xx' hD (let ⟨n, e⟩ := hpl; ⟨n, sb.extBut _ _ hDC e⟩) (RepL.weaken ?_ _ _ (RepL.firm_but sb hfl hrl)) hfl hfr
    intro b w
    rcases w with w | w
    · exact .inl w
    · exact .inr (.inl w)
  · cases h2

theorem EvB.comp {fr : Bool} {x : Str} {px : Pos} {iter elt : Expr} {ifs : List Expr} {scope : Scope} {pos : Pos} (ix : List Nat) {fi : List Slot → Option (List AV)} {ft : List Slot → Option Bool} {fe : List Slot → Option AV}
    (chk : compChk sc scope.names names x ix = true) (hsk : scope.kind = .function)
    (ci : EvI G W k names sc iter fi) (ct : ∀ W, TestsS G W k (cvars names x ix) (relab sc scope.names) ifs ft) (ce : ∀ W, EvB fr G W k (cvars names x ix) (relab sc scope.names) elt fe)
    (hs : ∀ env x, foldedSetIterable iter env x = pure x) :
    EvB true G W k names sc (.ListComp elt [⟨.Name x px, iter, ifs, 0⟩] scope pos) (fun sl => (compF fi ft fe ix sl).map .lst) := by
  intro A env s sl ro ef rs ba av hf Q hQ
  obtain ⟨out, h1, rfl⟩ := Option.map_eq_some_iff.mp hf
  refine comp_plain chk hsk ci ct ce ro ef rs ba h1 (fun D s' vs xx hD hpl hrl hfl zq => ?_) (hs env)
  exact hQ _ s' xx ⟨D, vs, rfl, ba.new hD, hpl, hrl.weaken (fun b w => .inl w)⟩ fun zq => ⟨D, rfl, hD⟩
end
end Mine
end

section
open PySem PySem.W PyProof.Rows
set_option Elab.async false
set_option tactic.hygienic false
set_option maxRecDepth 100000
set_option linter.unusedVariables false


namespace Mine

noncomputable def listOf : AV → Option (List AV)
  | .lst xs => some xs
  | _ => none
theorem listOf_some {a : AV} {xs : List AV} (h : listOf a = some xs) : a = .lst xs := by cases a <;> cases h; rfl
noncomputable def signs (x : Str) : List AV := x.cps.toList.map fun c => .str ⟨#[c]⟩
noncomputable def strOf : AV → Option (List AV)
  | .str x => some (signs x)
  | _ => none
noncomputable def countUp (a b : Int) : List AV := (List.range (b - a).toNat).map fun i => .int (a + (i : Nat))
noncomputable def rangeV : List AV → Option (List AV)
  | [.int n] => if -1000000 < n ∧ n < 1000000 then some (countUp 0 n) else none
  | [.int a, .int b] => if -1000000 < a ∧ a < 1000000 ∧ b < 1000000 ∧ -1000000 < b then some (countUp a b) else none
  | _ => none

section
variable {G : Gl} {W : Addr → Prop} {k : Nat} {names : List Str} {sc : List (Str × NameKind)} {A : Around} {s : Shared} {E : Value → Shared → Prop}

set_option tactic.hygienic true in
theorem EvI.list {ex f} (h : EvS G W k names sc ex f) : EvI G W k names sc ex (fun sl => (f sl).bind listOf) := by
  intro A env s sl ro ef rs ba avs hf Q hQ
  obtain ⟨av, h1, h2⟩ := Option.bind_eq_some_iff.mp hf
  refine h A env s sl ro ef rs ba av h1 _ fun v s₁ x₁ r₁ => ?_
  obtain rfl := listOf_some h2
  obtain ⟨a, vs, rfl, hw, ⟨n, hl⟩, rl⟩ := r₁
  have hil : s₁.heap.IsList a (List.toArray vs) := ⟨_, hl, rfl, n, rfl⟩
  have hlt : a < s₁.heap.objs.size := Heap.lt_size hl
  have hne : a ≠ s₁.heap.objs.size := Nat.ne_of_lt hlt
  refine wpAny_pyIter_list hil ?_
  have wk := Walks.list (prog := G.prog) (w := G.w) (A := A) ro.handled s₁.heap.objs.size a hne (List.toArray vs)
  have hsz : (List.toArray vs).size = avs.length := by rw [List.size_toArray, rl.length]
  rw [hsz] at wk
  have st0 : (s₁.heap.push { cls := .type "list_iterator", data := .fields #[.ref a, .int 0 0] }).IsListIter s₁.heap.objs.size a 0 ∧ (s₁.heap.push { cls := .type "list_iterator", data := .fields #[.ref a, .int 0 0] }).IsList a (List.toArray vs) :=
    ⟨⟨_, Heap.get?_push_size _ rfl, rfl, rfl⟩, IsList.grow (Ext.push (s := s₁)).kept hil⟩
  refine hQ _ _ _ _ _ _ (x₁.trans .push) wk st0 ?_ ?_ ?_ ?_ ?_
  · intro b hb
    have : (s₁.heap.push { cls := .type "list_iterator", data := .fields #[.ref a, .int 0 0] }).objs.size = s₁.heap.objs.size + 1 := Heap.size_push ..
    show b < (s₁.heap.push { cls := .type "list_iterator", data := .fields #[.ref a, .int 0 0] }).objs.size
    rw [this]
    simp at hb
    rcases hb with rfl | rfl
    · exact Nat.lt_succ_self _
    · exact Nat.lt_succ_of_lt hlt
  · intro b hb
    rw [List.mem_singleton.mp hb]
    exact x₁.gone (get_size _)
  · intro b hb hnb
    simp at hb hnb
    rcases hb with rfl | rfl
    · exact absurd rfl hnb
    · exact ⟨hw, by show ((s₁.heap.push _).get? _).isSome = true; rw [Heap.get?_push_of_some _ hl]; rfl⟩
  · intro i h hst
    obtain ⟨⟨o, ho, hc, hd⟩, ⟨o', ho', hc', _⟩⟩ := hst
    refine ⟨fun b hb => ?_, fun b hb o₂ e => ?_⟩
    · rw [List.mem_singleton.mp hb]
      exact ⟨o, ho, iterO_of hc hd (by decide)⟩
    · simp at hb
      rcases hb with rfl | rfl
      · rw [ho] at e; cases e; exact solid_cls hc
      · rw [ho'] at e; cases e; exact solid_cls hc'
  · intro i v x hp hx
    obtain ⟨u, hu, ru⟩ := rl.get hx
    have : v = u := by
      have hp : (List.toArray vs)[i]? = some v := hp
      rw [List.getElem?_toArray, hu] at hp
      exact (Option.some.inj hp).symm
    rw [this]
    refine RepV.mono (fun b o zq e zq => Heap.get?_push_of_some _ e) (fun b o zq e zq => Heap.get?_push_of_some _ e) (fun b hb w => ?_) _ _ ru
    rcases w with w | w
    · exact w
    · rw [List.mem_singleton.mp w, get_size] at hb; cases hb

set_option tactic.hygienic true in
theorem strOf_some {a : AV} {xs : List AV} (h : strOf a = some xs) : ∃ x, a = .str x ∧ xs = signs x := by cases a <;> cases h; exact ⟨_, rfl, rfl⟩
theorem EvI.str {ex f} (h : EvS G W k names sc ex f) : EvI G W k names sc ex (fun sl => (f sl).bind strOf) := by
  intro A env s sl ro ef rs ba avs hf Q hQ
  obtain ⟨av, h1, h2⟩ := Option.bind_eq_some_iff.mp hf
  refine h A env s sl ro ef rs ba av h1 _ fun v s₁ x₁ r₁ => ?_
  obtain ⟨x, rfl, rfl⟩ := strOf_some h2
  obtain ⟨t, rfl⟩ := r₁
  have fin : ∀ (o : Obj) (St : Nat → Heap → Prop), Walks G.prog G.w A s₁.heap.objs.size [s₁.heap.objs.size] [s₁.heap.objs.size] x.cps.size (SignAt x) St → St 0 (s₁.heap.push o) →
      (∀ i h, St i h → ∃ o, h.get? s₁.heap.objs.size = some o ∧ iterO o = true) → Q (.ref s₁.heap.objs.size) { s₁ with heap := s₁.heap.push o } := by
    intro o St wk st hs
    have hsz : x.cps.size = (signs x).length := by simp [signs]
    rw [hsz] at wk
    refine hQ _ _ _ _ _ _ (x₁.trans .push) wk st ?_ ?_ ?_ ?_ ?_
    · intro b hb
      rw [List.mem_singleton.mp hb]
      show _ < (s₁.heap.push o).objs.size
      rw [Heap.size_push]; exact Nat.lt_succ_self _
    · intro b hb
      rw [List.mem_singleton.mp hb]
      exact x₁.gone (get_size _)
    · intro b hb hnb; exact absurd hb hnb
    · intro i h hst
      obtain ⟨o, ho, hi⟩ := hs i h hst
      refine ⟨fun b hb => ?_, fun b hb o₂ e => ?_⟩
      · rw [List.mem_singleton.mp hb]; exact ⟨o, ho, hi⟩
      · rw [List.mem_singleton.mp hb, ho] at e; cases e; exact (iterO_spec hi).2.1
    · intro i v y hp hy
      obtain ⟨c, u, e1, rfl⟩ := hp
      simp only [signs, List.getElem?_map, Array.getElem?_toList, e1, Option.map_some, Option.some.injEq] at hy
      subst hy
      exact ⟨_, rfl⟩
  cases ha : x.cps.all (· < 128)
  · exact wpAny_pyIter_wide ha (fin _ _ (Walks.strWide ro.handled _ x t) ⟨_, Heap.get?_push_size _ rfl, rfl, rfl⟩ fun i h ⟨o, ho, hc, hd⟩ => ⟨o, ho, iterO_of hc hd (by decide)⟩)
  · exact wpAny_pyIter_ascii ha (fin _ _ (Walks.strAscii ro.handled _ x t) ⟨_, Heap.get?_push_size _ rfl, rfl, rfl⟩ fun i h ⟨o, ho, hc, hd⟩ => ⟨o, ho, iterO_of hc hd (by decide)⟩)

theorem builtin_call {g : Str} {v : Value} {p q : Pos} {e : Expr} {es : List Expr} {f : List Slot → Option (List AV)} {env : Env} {sl : List Slot} {avs : List AV} {Q : Value → Shared → Prop} (hg : sc.lookup g = some .globalImplicit)
    (hd : (g == ("__debug__" : Str)) = false) (hne : g ≠ "__name__") (hm : G.mg g = Option.none) (hb : bootBuiltins g = some v) (hv : (∃ id, v = .builtin id) ∨ ∃ T, v = .type T) (ha : EvL G W k names sc (e :: es) f) (hn : notStar e = true)
    (hr : ∀ env pos, ((backTo pos (starEach es env)).any (·.1)) = false) (ro : Room A k) (ef : EnvF env sc) (rs : RS W env names sl s.heap) (ba : Base G W s) (hf : f sl = some avs)
    (hc : ∀ vs s₁, Ext s s₁ → RepL W s₁.heap avs vs → wpAny G.M A (PySem.call v vs) Q (fun zq zq => False) s₁) :
    wpAny G.M A (eval (.Call (.Name g p) (e :: es) [] q) env) Q (fun zq zq => False) s := by
  refine Call_ (wpAny_Name (load_builtin ef ba hg hm hne hb ?_) hd)
  have h : wpAny G.M A (spliced (backTo q (starEach (e :: es) env))) (fun vs s₁ => wpAny G.M A (PySem.call v vs) Q (fun zq zq => False) s₁) (fun zq zq => False) s :=
    ha.2 A env s sl q ro ef rs ba avs hf _ hc
  rcases hv with ⟨id, rfl⟩ | ⟨T, rfl⟩
  · exact PyProof.Rows.callWith_builtin1 h (starEach_cons hn) (hr _ _)
  · exact PyProof.Rows.callWith_type1 h (starEach_cons hn) (hr _ _)

theorem iter_range {r : Addr} {a b : Int} {t u v : Tok} {s₁ : Shared} {Q : Value → Shared → Prop} (ro : Room A k) (x₁ : Ext s s₁) (hr : IsRange s₁.heap r a b 1 t u v) (ha : -1000000 < a) (ha' : a < 1000000) (hb : b < 1000000) (hb' : -10000000 < b)
    (hQ : ∀ I s' fp wr P St, Ext s s' → Walks G.prog G.w A I fp wr (countUp a b).length P St → St 0 s'.heap → (∀ b ∈ fp, b < s'.heap.objs.size) → (∀ b ∈ wr, s.heap.get? b = Option.none) →
      (∀ b ∈ fp, b ∉ wr → ¬ W b ∧ (s'.heap.get? b).isSome = true) → (∀ i h, St i h → (∀ b ∈ wr, ∃ o, h.get? b = some o ∧ iterO o = true) ∧ ∀ b ∈ fp, ∀ o, h.get? b = some o → tabby o = false) →
      (∀ i v x, P i v → (countUp a b)[i]? = some x → RepV (fun b => W b ∨ b ∈ wr) s'.heap x v) → Q (.ref I) s') : wpAny G.M A (pyIter (.ref r)) Q E s₁ := by
  refine wpAny_pyIter_range hr (small_one (by lia) (by lia) (by lia) (by lia)) ?_
  have wk := Walks.range (prog := G.prog) (w := G.w) (A := A) ro.handled s₁.heap.objs.size a 1 (b - a).toNat
  have hsz : (b - a).toNat = (countUp a b).length := by simp [countUp]
  have hrs : Builtin.Range.rangeSize a b 1 = ((b - a).toNat : Int) := by rw [rangeSize_one]; split <;> lia
  have st0 : IsRangeIter (s₁.heap.push { cls := .type "range_iterator", data := .fields #[rawInt a, rawInt (Builtin.Range.rangeSize a b 1), rawInt 1] }) s₁.heap.objs.size (a + ((0 : Nat) : Int) * 1) (((b - a).toNat : Int) - ((0 : Nat) : Int)) 1 := by
    rw [hrs]
    have e1 : a + ((0 : Nat) : Int) * 1 = a := by simp
    have e2 : ((b - a).toNat : Int) - ((0 : Nat) : Int) = ((b - a).toNat : Int) := by simp
    rw [e1, e2]
    exact Heap.get?_push_size _ rfl
  rw [hsz] at wk
  refine hQ _ _ _ _ _ _ (x₁.trans .push) wk (by rw [← hsz]; exact st0) ?_ ?_ ?_ ?_ ?_
  · intro b' hb
    rw [List.mem_singleton.mp hb]
    show _ < (s₁.heap.push _).objs.size
    rw [Heap.size_push]; exact Nat.lt_succ_self _
  · intro b hb
    rw [List.mem_singleton.mp hb]
    exact x₁.gone (get_size _)
  · intro b hb hnb; exact absurd hb hnb
  · intro i h hst
    refine ⟨fun b hb => ?_, fun b hb o₂ e => ?_⟩
    · rw [List.mem_singleton.mp hb]; exact ⟨_, hst, rfl⟩
    · have e2 : h.get? s₁.heap.objs.size = some o₂ := by rw [← List.mem_singleton.mp hb]; exact e
      rw [show h.get? s₁.heap.objs.size = some _ from hst] at e2
      cases e2; rfl
  · intro i v y hp hy
    obtain ⟨t, rfl⟩ := hp
    simp only [countUp, List.getElem?_map] at hy
    obtain ⟨j, hj, rfl⟩ := Option.map_eq_some_iff.mp hy
    have : j = i := by
      rw [List.getElem?_range] at hj
      · exact (Option.some.inj hj).symm
      · have := (List.getElem?_eq_some_iff.mp hj).1
        simpa using this
    subst this
    exact ⟨t, by simp⟩

set_option tactic.hygienic true in
theorem EvI.range {p q : Pos} {e : Expr} {es : List Expr} {f : List Slot → Option (List AV)} (hg : sc.lookup ("range" : Str) = some .globalImplicit) (hm : G.mg ("range" : Str) = Option.none) (ha : EvL G W k names sc (e :: es) f) (hn : notStar e = true)
    (hr : ∀ env pos, ((backTo pos (starEach es env)).any (·.1)) = false) : EvI G W k names sc (.Call (.Name ("range" : Str) p) (e :: es) [] q) (fun sl => (f sl).bind rangeV) := by
  intro A env s sl ro ef rs ba avs hf Q hQ
  obtain ⟨args, h1, h2⟩ := Option.bind_eq_some_iff.mp hf
  refine builtin_call (v := .type "range") hg (by decide +kernel) (by decide +kernel) hm (by kernel_rfl) (.inr ⟨_, rfl⟩) ha hn hr ro ef rs ba h1 fun vs s₁ x₁ r₁ => ?_
  unfold rangeV at h2
  split at h2
  · next n =>
    split at h2
    · next hn =>
      cases h2
      obtain ⟨v, q, rfl, ⟨t, rfl⟩, rfl⟩ := r₁
      exact call_range_1 (iter_range ro (x₁.trans (.of fun zq zq e => Heap.get?_push_of_some _ e)) (IsRange.new _ _ _ _ _ _ _) (by lia) (by lia) hn.2 (by lia) hQ)
    · cases h2
  · next a b =>
    split at h2
    · next hn =>
      cases h2
      obtain ⟨v, q, rfl, ⟨t, rfl⟩, ⟨v', q', rfl, ⟨t', rfl⟩, rfl⟩⟩ := r₁
      exact call_range_2 (iter_range ro (x₁.trans (.of fun zq zq e => Heap.get?_push_of_some _ e)) (IsRange.new _ _ _ _ _ _ _) hn.1 hn.2.1 hn.2.2.1 (by lia) hQ)
    · cases h2
  · cases h2
end
end Mine
end

section
open PySem PySem.W PyProof.Rows
set_option Elab.async false
set_option tactic.hygienic false
set_option maxRecDepth 100000
set_option linter.unusedVariables false


namespace Mine

section
variable {G : Gl} {W : Addr → Prop} {k : Nat} {names : List Str} {sc : List (Str × NameKind)} {A : Around} {s : Shared} {E : Value → Shared → Prop}

set_option tactic.hygienic true in
theorem EvI.rev {p q : Pos} {e : Expr} {f : List Slot → Option AV} (hg : sc.lookup ("reversed" : Str) = some .globalImplicit) (hm : G.mg ("reversed" : Str) = Option.none) (he : EvS G W k names sc e f) (hn : notStar e = true) :
    EvI G W k names sc (.Call (.Name ("reversed" : Str) p) [e] [] q) (fun sl => ((f sl).bind listOf).map List.reverse) := by
  intro A env s sl ro ef rs ba avs hf Q hQ
  obtain ⟨xs, h0, rfl⟩ := Option.map_eq_some_iff.mp hf
  obtain ⟨av, h1, h2⟩ := Option.bind_eq_some_iff.mp h0
  refine builtin_call (v := .type "reversed") hg (by decide +kernel) (by decide +kernel) hm (by kernel_rfl) (.inr ⟨_, rfl⟩) (EvL.cons he EvL.nil hn) hn (fun zq zq => rfl) ro ef rs ba (avs := [av]) (by simp [consV, h1]) fun vs0 s₁ x₁ r₁ => ?_
  obtain ⟨v, q, rfl, r₁, rfl⟩ := r₁
  obtain rfl := listOf_some h2
  obtain ⟨a, vs, rfl, hw, ⟨n, hl⟩, rl⟩ := r₁
  have hil : s₁.heap.IsList a (List.toArray vs) := ⟨_, hl, rfl, n, rfl⟩
  have hlt : a < s₁.heap.objs.size := Heap.lt_size hl
  have hne : a ≠ s₁.heap.objs.size := Nat.ne_of_lt hlt
  refine call_reversed_list hil ?_
  have wk := Walks.listRev (prog := G.prog) (w := G.w) (A := A) ro.handled s₁.heap.objs.size a hne (List.toArray vs)
  have hsz : (List.toArray vs).size = xs.reverse.length := by rw [List.size_toArray, rl.length, List.length_reverse]
  have hit : (s₁.heap.push (revObj a (((List.toArray vs).size : Int) - 1))).IsRevIter s₁.heap.objs.size a (((List.toArray vs).size : Int) - 1 - ((0 : Nat) : Int)) := ⟨_, Heap.get?_push_size _ rfl, rfl, by simp [revObj]⟩
  have st0 : 0 ≤ (List.toArray vs).size ∧ (s₁.heap.push (revObj a (((List.toArray vs).size : Int) - 1))).IsRevIter s₁.heap.objs.size a (((List.toArray vs).size : Int) - 1 - ((0 : Nat) : Int)) ∧ (s₁.heap.push (revObj a (((List.toArray vs).size : Int) - 1))).IsList a (List.toArray vs) :=
    ⟨Nat.zero_le _, hit, IsList.grow (Ext.push (s := s₁)).kept hil⟩
  rw [hsz] at wk
  rw [← hsz] at wk
  refine wpAny_pyIter_revIter (i := ((List.toArray vs).size : Int) - 1) (by simpa using hit) ?_
  refine hQ _ _ _ _ _ _ (x₁.trans .push) (by rw [← hsz]; exact wk) st0 ?_ ?_ ?_ ?_ ?_
  · intro b hb
    show b < (s₁.heap.push _).objs.size
    rw [Heap.size_push]
    simp at hb
    rcases hb with rfl | rfl
    · exact Nat.lt_succ_self _
    · exact Nat.lt_succ_of_lt hlt
  · intro b hb
    rw [List.mem_singleton.mp hb]
    exact x₁.gone (get_size _)
  · intro b hb hnb
    simp at hb hnb
    rcases hb with rfl | rfl
    · exact absurd rfl hnb
    · exact ⟨hw, by show ((s₁.heap.push _).get? _).isSome = true; rw [Heap.get?_push_of_some _ hl]; rfl⟩
  · intro i h hst
    obtain ⟨_, ⟨o, ho, hc, hd⟩, ⟨o', ho', hc', _⟩⟩ := hst
    refine ⟨fun b hb => ?_, fun b hb o₂ e => ?_⟩
    · rw [List.mem_singleton.mp hb]
      exact ⟨o, ho, iterO_of hc hd (by decide)⟩
    · simp at hb
      rcases hb with rfl | rfl
      · rw [ho] at e; cases e; exact solid_cls hc
      · rw [ho'] at e; cases e; exact solid_cls hc'
  · intro i v x hp hx
    have hi : i < xs.length := by have := (List.getElem?_eq_some_iff.mp hx).1; simpa using this
    rw [List.getElem?_reverse hi] at hx
    obtain ⟨u, hu, ru⟩ := rl.get hx
    have : v = u := by
      have hp : (List.toArray vs)[(List.toArray vs).size - 1 - i]? = some v := hp
      rw [List.getElem?_toArray, List.size_toArray, rl.length, hu] at hp
      exact (Option.some.inj hp).symm
    rw [this]
    refine RepV.mono (fun b o zq e zq => Heap.get?_push_of_some _ e) (fun b o zq e zq => Heap.get?_push_of_some _ e) (fun b hb w => ?_) _ _ ru
    rcases w with w | w
    · exact w
    · rw [List.mem_singleton.mp w, get_size] at hb; cases hb

theorem EvS.meth0 {o : Expr} {name : Str} {apos q : Pos} {f : List Slot → Option AV} {fn : AV → Option AV} (ho : EvS G W k names sc o f) (hb : ∀ env, attributeBase o name env (eval o env) = eval o env) (hl : (apos.endLine == q.line) = true)
    (hM : ∀ (A : Around) (s : Shared) (v : Value) (a r : AV), Room A k → Base G W s → RepV W s.heap a v → fn a = some r → ∀ Q : Value → Shared → Prop, (∀ v' s', Ext s s' → RepV W s'.heap r v' → Q v' s') →
      MethodOnS G.prog G.w A (fun zq zq => False) name v q [] Q s) :
    EvS G W k names sc (.Call (.Attribute o name apos) [] [] q) (fun sl => (f sl).bind fn) := by
  intro A env s sl ro ef rs ba av hf Q hQ
  obtain ⟨a, h1, h2⟩ := Option.bind_eq_some_iff.mp hf
  refine Call_method0 (hb env) hl (ho A env s sl ro ef rs ba a h1 _ fun v s₁ x₁ r₁ => ?_)
  exact hM A s₁ v a av ro (ba.ext x₁) r₁ h2 Q fun v' s' x r => hQ v' s' (x₁.trans x) r

theorem EvS.meth1 {o e : Expr} {name : Str} {apos q : Pos} {f g : List Slot → Option AV} {fn : AV → AV → Option AV} (ho : EvS G W k names sc o f) (he : EvS G W k names sc e g) (hn : notStar e = true)
    (hb : ∀ env, attributeBase o name env (eval o env) = eval o env) (hl : (apos.endLine == q.line) = true)
    (hM : ∀ (A : Around) (s : Shared) (v : Value) (a : AV) (x : Sem Value) (Q : Value → Shared → Prop), Room A k → Base G W s → RepV W s.heap a v →
      wpAny G.M A x (fun u s₁ => ∃ b r, Ext s s₁ ∧ RepV W s₁.heap b u ∧ fn a b = some r ∧ ∀ v' s', Ext s₁ s' → RepV W s'.heap r v' → Q v' s') (fun zq zq => False) s → (∃ b r, fn a b = some r) →
      MethodOnS G.prog G.w A (fun zq zq => False) name v q [(false, x)] Q s) :
    EvS G W k names sc (.Call (.Attribute o name apos) [e] [] q) (fun sl => (f sl).bind fun a => (g sl).bind fun b => fn a b) := by
  intro A env s sl ro ef rs ba av hf Q hQ
  obtain ⟨a, h1, hf⟩ := Option.bind_eq_some_iff.mp hf
  obtain ⟨b, h2, h3⟩ := Option.bind_eq_some_iff.mp hf
  refine Call_method1 (hb env) (starEach_cons hn) hl (ho A env s sl ro ef rs ba a h1 _ fun v s₁ x₁ r₁ => ?_)
  refine hM A s₁ v a _ Q ro (ba.ext x₁) r₁ (he A env s₁ sl ro ef (rs.grow x₁.kept) (ba.ext x₁) b h2 _ fun u s₂ x₂ r₂ => ?_) ⟨b, av, h3⟩
  exact ⟨b, av, x₂, r₂, h3, fun v' s' x r => hQ v' s' ((x₁.trans x₂).trans x) r⟩

noncomputable def lowerV : AV → Option AV
  | .str x => if x.length < 100000 then some (.str (Txt.lower x)) else none
  | _ => none
noncomputable def bitsV : AV → Option AV
  | .int i => some (.int (Builtin.Int.intBits i))
  | _ => none
noncomputable def countV (a b : AV) : Option AV := match a.seq?, b with
  | some xs, .int n => (asInts xs).map fun ns => .int (ns.count n : Nat)
  | _, _ => none
noncomputable def indexV (a b : AV) : Option AV := match a.seq?, b with
  | some xs, .int n => (asInts xs).bind fun ns => if ns.idxOf n < ns.length ∧ ns.length < 1000000 then some (.int (ns.idxOf n : Nat)) else none
  | _, _ => none
noncomputable def asStrs : List AV → Option (List Str)
  | [] => some []
  | .str x :: r => (asStrs r).map (x :: ·)
  | _ :: _ => none
noncomputable def joinV (a b : AV) : Option AV := match a, b.any? with
  | .str x, some xs => (asStrs xs).bind fun ys => if x.length ≤ 16 ∧ (ys.map (·.length)).sum + ys.length ≤ 1048576 then some (.str (Txt.join x ys)) else none
  | _, _ => none

set_option tactic.hygienic true in
theorem EvS.lower {o : Expr} {apos q : Pos} {f : List Slot → Option AV} (ho : EvS G W k names sc o f) (hb : ∀ env, attributeBase o ("lower" : Str) env (eval o env) = eval o env) (hl : (apos.endLine == q.line) = true) :
    EvS G W k names sc (.Call (.Attribute o ("lower" : Str) apos) [] [] q) (fun sl => (f sl).bind lowerV) := by
  refine ho.meth0 hb hl fun A s v a r ro ba ra e Q hQ => ?_
  cases a <;> first | (simp [lowerV] at e; done) | skip
  case str x =>
  obtain ⟨t, rfl⟩ := ra
  simp only [lowerV] at e
  split at e
  · next h => cases e; exact SB.lower (fit_lower (by lia)) (hQ _ _ .tok ⟨_, rfl⟩)
  · cases e
set_option tactic.hygienic true in
theorem EvS.bits {o : Expr} {apos q : Pos} {f : List Slot → Option AV} (ho : EvS G W k names sc o f) (hb : ∀ env, attributeBase o ("bit_length" : Str) env (eval o env) = eval o env) (hl : (apos.endLine == q.line) = true) :
    EvS G W k names sc (.Call (.Attribute o ("bit_length" : Str) apos) [] [] q) (fun sl => (f sl).bind bitsV) := by
  refine ho.meth0 hb hl fun A s v a r ro ba ra e Q hQ => ?_
  cases a <;> first | (simp [bitsV] at e; done) | skip
  case int i =>
  obtain ⟨t, rfl⟩ := ra
  cases e
  refine ⟨"int", "int.bit_length", F.plainAttrs_int, F.slot_int_bit_length, F.type_int_bit_length, typeIs_int _ _ _, (fun zq e => by cases e), ?_⟩
  exact method0_gives F.slot_int_bit_length F.entry_int_bit_length (typeIs_int _ _ _) (F.args_int_bit_length_1 _) (AutoIntG2.int_bit_length_int_0 i t) (hQ _ _ .tok ⟨_, rfl⟩)

noncomputable def isN (n : Int) (v : Value) : Bool := match v with
  | .int m _ => m == n
  | _ => false
theorem isN_gives {vs : List Value} {ns : List Int} (h : IntsAre vs ns) (n : Int) (t : Tok) : ∀ y, y ∈ List.toArray vs → MeetsSeq.EqGives y (.int n t) (isN n y) := by
  have key : ∀ y ∈ vs, MeetsSeq.EqGives y (.int n t) (isN n y) := by
    induction h with
    | nil => intro y hy; cases hy
    | cons m u _ ih =>
      intro y hy
      rcases List.mem_cons.mp hy with rfl | hy
      · exact MeetsSeq.EqGives.int m n u t
      · exact ih y hy
  intro y hy
  exact key y (by simpa using hy)
theorem countP_isN {vs : List Value} {ns : List Int} (h : IntsAre vs ns) (n : Int) : vs.countP (isN n) = ns.count n := by
  induction h with
  | nil => rfl
  | cons m u _ ih => rw [List.countP_cons, List.count_cons, ih]; rfl
set_option tactic.hygienic true in
theorem EvS.count {o e : Expr} {apos q : Pos} {f g : List Slot → Option AV} (ho : EvS G W k names sc o f) (he : EvS G W k names sc e g) (hn : notStar e = true) (hb : ∀ env, attributeBase o ("count" : Str) env (eval o env) = eval o env) (hl : (apos.endLine == q.line) = true) :
    EvS G W k names sc (.Call (.Attribute o ("count" : Str) apos) [e] [] q) (fun sl => (f sl).bind fun a => (g sl).bind fun b => countV a b) := by
  refine ho.meth1 he hn hb hl fun A s v a x Q ro ba ra hx hsome => ?_
  obtain ⟨b, r, hbr⟩ := hsome
  unfold countV at hbr
  split at hbr
  · next xs n0 hxs =>
    obtain ⟨l, vs, rfl, ⟨cp, hl⟩, rl⟩ := ra.seq hxs
    refine ⟨"list", "list.count", F.plainAttrs_list, F.slot_list_count, F.type_list_count, ⟨_, hl, rfl⟩, (fun c e => by cases e; exact ⟨_, hl, rfl⟩), ?_⟩
    refine P.count_list (wpAny_mono hx (fun u s₁ h₁ => ?_) fun zq zq f => f.elim)
    obtain ⟨b, r, x₁, rb, e1, hq⟩ := h₁
    unfold countV at e1
    rw [hxs] at e1
    split at e1
    · next xs' n hh =>
      cases hh
      obtain ⟨ns, e2, rfl⟩ := Option.map_eq_some_iff.mp e1
      obtain ⟨t, rfl⟩ := rb
      have hi := (rl.grow x₁.kept).ints _ _ _ e2
      refine ⟨_, cp, isN n, x₁.kept _ _ hl rfl, isN_gives hi n t, ?_⟩
      have : ((List.toArray vs).toList.countP (isN n)) = ns.count n := countP_isN hi n
      rw [this]
      exact hq _ _ .tok ⟨_, rfl⟩
    · cases e1
  · cases hbr
set_option tactic.hygienic true in
theorem RepL.strs {h : Heap} : ∀ {xs : List AV} {vs : List Value} {ys : List Str}, RepL W h xs vs → asStrs xs = some ys → StrsAre vs ys
  | [], _, _, r, e => by rw [show _ = [] from r]; cases e; exact .nil
  | x :: xs, _, _, ⟨v, q, e', a, b⟩, e => by
    cases x <;> first | (simp [asStrs] at e; done) | skip
    case str y =>
    obtain ⟨t, a⟩ := a
    obtain ⟨ms, h1, h2⟩ := Option.map_eq_some_iff.mp e
    subst h2
    rw [e', a]
    exact .cons y t (RepL.strs b h1)

set_option tactic.hygienic true in
theorem EvS.join {o e : Expr} {apos q : Pos} {f g : List Slot → Option AV} (ho : EvS G W k names sc o f) (he : EvS G W k names sc e g) (hn : notStar e = true) (hb : ∀ env, attributeBase o ("join" : Str) env (eval o env) = eval o env) (hl : (apos.endLine == q.line) = true) :
    EvS G W k names sc (.Call (.Attribute o ("join" : Str) apos) [e] [] q) (fun sl => (f sl).bind fun a => (g sl).bind fun b => joinV a b) := by
  refine ho.meth1 he hn hb hl fun A s v a x Q ro ba ra hx hsome => ?_
  obtain ⟨b, r, hbr⟩ := hsome
  unfold joinV at hbr
  split at hbr
  · next sep xs hxs =>
    obtain ⟨t, rfl⟩ := ra
    refine ⟨"str", "str.join", F.plainAttrs_str, F.slot_str_join, F.type_str_join, typeIs_str _ _ _, (fun c e => by cases e), ?_⟩
    refine Calls.callWith_builtin (by rfl) (Calls.evalArgs_plain (Calls.spliced_cons (wpAny_mono hx (fun u s₁ h₁ => Calls.spliced_nil ?_) fun zq zq f => f.elim)))
    obtain ⟨b, r, x₁, rb, e1, hq⟩ := h₁
    unfold joinV at e1
    split at e1
    · next sep' xs' h1 h2 =>
      cases h1
      obtain ⟨ys, e2, e3⟩ := Option.bind_eq_some_iff.mp e1
      split at e3
      · next hc =>
        cases e3
        obtain ⟨l, vs, rfl, hl, rl⟩ := rb.anyList h2
        exact join_listW hl (rl.strs e2) hc.1 hc.2 fun t' k => hq _ _ .tok ⟨_, rfl⟩
      · cases e3
    · cases e1
  · cases hbr
end
end Mine
end

section
open PySem PySem.W PyProof.Rows
set_option Elab.async false
set_option tactic.hygienic false
set_option maxRecDepth 100000
set_option linter.unusedVariables false


namespace Mine

noncomputable def entOf (e : DictEntry) : Option (Int × Str) := match e.key, e.val with
  | .int k _, .str v _ => if e.hash == hashInt k then some (k, v) else none
  | _, _ => none

set_option tactic.hygienic true in
theorem entOf_some {e : DictEntry} {k : Int} {v : Str} (h : entOf e = some (k, v)) : (∃ t, e.key = .int k t) ∧ (∃ t, e.val = .str v t) ∧ e.hash = hashInt k := by
  unfold entOf at h
  split at h
  · next a t b u ha hb =>
    split at h
    · next hc =>
      cases h
      exact ⟨⟨t, ha⟩, ⟨u, hb⟩, by simpa using hc⟩
    · cases h
  · cases h

theorem find_ent (k : Int) : ∀ (l : List DictEntry) (dd : List (Int × Str)), l.map entOf = dd.map some →
    match dd.lookup k with
    | some v => ∃ t, (l.find? fun e => Value.isInt k e.key).map (·.val) = some (.str v t)
    | none => (l.find? fun e => Value.isInt k e.key).map (·.val) = none
  | [], [], _ => rfl
  | [], _ :: _, h => by cases h
  | _ :: _, [], h => by cases h
  | e :: l, (a, b) :: dd, h => by
    simp only [List.map_cons, List.cons.injEq] at h
    obtain ⟨⟨t, hk⟩, ⟨u, hv⟩, _⟩ := entOf_some h.1
    rw [List.lookup_cons, List.find?_cons, hk]
    by_cases hka : k = a
    · subst hka
      have e1 : (k == k) = true := by simp
      have e2 : Value.isInt k (.int k t) = true := by simp [Value.isInt]
      rw [e1, e2]
      exact ⟨u, by simp [hv]⟩
    · have e1 : (k == a) = false := by simpa using hka
      have e2 : Value.isInt k (.int a t) = false := by simp [Value.isInt]; exact fun q => hka q.symm
      rw [e1, e2]
      exact find_ent k l dd h.2

section
variable {G : Gl} {W : Addr → Prop} {k : Nat} {names : List Str} {sc : List (Str × NameKind)} {A : Around} {s : Shared} {E : Value → Shared → Prop}

noncomputable def getV (dd : List (Int × Str)) : AV → Option AV
  | .int i => some (match dd.lookup i with | some v => .str v | Option.none => .none)
  | _ => none

set_option tactic.hygienic true in
theorem EvS.b3get {e : Expr} {p apos q : Pos} {f : List Slot → Option AV} (hg : sc.lookup ("b3_exceptions" : Str) = some .globalImplicit) (he : EvS G W k names sc e f) (hn : notStar e = true) (hl : (apos.endLine == q.line) = true) :
    EvS G W k names sc (.Call (.Attribute (.Name ("b3_exceptions" : Str) p) ("get" : Str) apos) [e] [] q) (fun sl => (f sl).bind (getV G.dd)) := by
  intro A env s sl ro ef rs ba av hf Q hQ
  obtain ⟨a, h1, h2⟩ := Option.bind_eq_some_iff.mp hf
  obtain ⟨d, o, es, ep, hm, ho, hex, hsys, hdat, hes⟩ := G.b3
  refine Call_method1 (by rfl) (starEach_cons hn) hl (wpAny_Name (load_global ef ba hg hm ?_) (by decide +kernel))
  have hes : es.toList.map entOf = G.dd.map some := hes
  have hkeys : KeysOf (intKind G.prog G.w) es := by
    intro e he
    have : entOf e ∈ es.toList.map entOf := List.mem_map_of_mem (by simpa using he)
    rw [hes] at this
    obtain ⟨⟨k, v⟩, _, e1⟩ := List.mem_map.mp this
    obtain ⟨⟨t, hk⟩, _, hh⟩ := entOf_some e1.symm
    exact ⟨k, by rw [hk]; simp [intKind, Value.isInt], hh⟩
  have hmo : ∀ s' : Shared, Kept G.h₀ s'.heap → s'.heap.MapOf (intKind G.prog G.w) d (fun k => findBy (intKind G.prog G.w).is es k) := fun s' kk => ⟨o, es, ep, kk _ _ ho (solid_dict hdat), hex, hdat, hkeys, fun zq => rfl⟩
  refine ⟨"dict", "dict.get", F.plainAttrs_dict, F.slot_dict_get, F.type_dict_get, ⟨o, ba.keep _ _ ho (solid_dict hdat), hex.1⟩, (fun c e => by cases e; exact ⟨o, ba.keep _ _ ho (solid_dict hdat), hex.2.1⟩), ?_⟩
  refine wpAny_dict_get1 (knd := intKind G.prog G.w) hsys (he A env s sl ro ef rs ba a h1 _ fun v s₁ x₁ r₁ => ?_)
  unfold getV at h2
  split at h2
  · next i =>
    cases h2
    obtain ⟨t, rfl⟩ := r₁
    refine ⟨i, _, by simp [intKind, Value.isInt], hmo s₁ (ba.ext x₁).keep, ?_⟩
    have key := find_ent i es.toList G.dd hes
    have hfb : findBy (intKind G.prog G.w).is es i = (es.toList.find? fun e => Value.isInt i e.key).map (·.val) := by
      unfold findBy
      rw [Array.find?_toList]; rfl
    rw [hfb]
    cases hd : G.dd.lookup i with
    | none =>
      rw [hd] at key
      rw [key]
      exact hQ _ _ (x₁.trans .tok) (by rw [hd]; rfl)
    | some v =>
      rw [hd] at key
      obtain ⟨u, key⟩ := key
      rw [key]
      exact hQ _ _ (x₁.trans .tok) (by rw [hd]; exact ⟨u, rfl⟩)
  · cases h2

theorem EvB.list {es : List Expr} {p : Pos} {g : List Slot → Option (List AV)} (hr : EvL G W k names sc es g) :
    EvB true G W k names sc (.List es p) (fun sl => (g sl).bind fun xs => if xs.length < 1000000 then some (.lst xs) else Option.none) := by
  intro A env s sl ro ef rs ba av hf Q hQ
  obtain ⟨xs, h1, hf⟩ := Option.bind_eq_some_iff.mp hf
  split at hf
  · next q =>
    cases hf
    refine List_ (hr.2 A env s sl p ro ef rs ba xs h1 _ fun vs s₁ x₁ r₁ => ?_)
    refine wpAny_newObj_type (hQ _ _ (x₁.trans .push) ⟨_, vs, rfl, (ba.ext x₁).fresh (Nat.le_refl _), ⟨0, Heap.get?_push_size _ rfl⟩, r₁.grow (Ext.push (s := s₁)).kept⟩ fun zq => ⟨_, rfl, x₁.gone (get_size _)⟩) ?_
    show vs.toArray.size ≤ sizeLine
    rw [List.size_toArray, r₁.length, sizeLine_eq]; lia
  · cases hf

noncomputable def repV (a n : AV) : Option AV := match a.seq?, n with
  | some xs, .int n => if xs.length * n.toNat < 1000000 ∧ n < 1000000 ∧ -1000000 < n then some (.lst (List.replicate n.toNat xs).flatten) else none
  | _, _ => none
set_option tactic.hygienic true in
theorem EvB.rep {l r : Expr} {p : Pos} {f g : List Slot → Option AV} (hl : EvS G W k names sc l f) (hr : EvS G W k names sc r g) :
    EvB true G W k names sc (.BinOp l .Mult r p) (fun sl => (f sl).bind fun a => (g sl).bind fun b => repV a b) := by
  intro A env s sl ro ef rs ba av hf Q hQ
  obtain ⟨a, h1, hf⟩ := Option.bind_eq_some_iff.mp hf
  obtain ⟨b, h2, h3⟩ := Option.bind_eq_some_iff.mp hf
  refine wpAny_BinOp (hl A env s sl ro ef rs ba a h1 _ fun va s₁ x₁ r₁ => ?_)
  refine hr A env s₁ sl ro ef (rs.grow x₁.kept) (ba.ext x₁) b h2 _ fun vb s₂ x₂ r₂ => ?_
  unfold repV at h3
  split at h3
  · next xs n hx =>
    split at h3
    · next q =>
      cases h3
      obtain ⟨u, rfl⟩ := r₂
      obtain ⟨l, vs, rfl, ⟨kk, hl⟩, r⟩ := (r₁.grow x₂.kept).seq hx
      have hlen := r.length
      have ba₂ := ba.ext (x₁.trans x₂)
      refine mul_list0 hl (by lia) (by lia) (by rw [List.size_toArray, hlen]; lia) (hQ _ _ ((x₁.trans x₂).trans .push) ?_ fun zq => ⟨_, rfl, (x₁.trans x₂).gone (get_size _)⟩)
      refine ⟨_, (List.replicate n.toNat vs).flatten, rfl, ba₂.fresh (Nat.le_refl _), ⟨0, ?_⟩, (r.grow (Ext.push (s := s₂)).kept).replicate _⟩
      rw [Heap.get?_push_size _ rfl]
      congr 3
      by_cases hv : vs = []
      · subst hv; simp
      · rw [if_neg (by simpa using hv), foldl_replicate_toArray]
    · cases h3
  · cases h3

theorem RepL.of_get {h : Heap} : ∀ {xs : List AV} {vs : List Value}, vs.length = xs.length → (∀ (j : Nat) v x, vs[j]? = some v → xs[j]? = some x → RepV W h x v) → RepL W h xs vs
  | [], [], _, _ => rfl
  | [], _ :: _, e, _ => by cases e
  | _ :: _, [], e, _ => by cases e
  | x :: xs, v :: vs, e, f => ⟨v, vs, rfl, f 0 v x rfl rfl, RepL.of_get (by simpa using e) fun j u y a b => f (j + 1) u y (by simpa using a) (by simpa using b)⟩

noncomputable def stepUp (a b c : Int) : List AV := (List.range ((b - a - 1) / c + 1).toNat).map fun i => .int (a + (i : Nat) * c)
noncomputable def listRangeV (xs : List AV) : Option AV := (asInts xs).bind fun ws => match ws with
  | [a, b, c] => if -1000000 < a ∧ a < b ∧ b < 1000000 ∧ 0 < c ∧ c < 1000000 then some (.lst (stepUp a b c)) else none
  | _ => none
theorem asInts_ex {xs : List AV} : ∀ {ws : List Int}, asInts xs = some ws → xs = ws.map .int := by
  induction xs with
  | nil => intro ws h; cases h; rfl
  | cons x r ih =>
    intro ws h
    cases x <;> first | (cases h; done) | skip
    obtain ⟨w, h1, rfl⟩ := Option.map_eq_some_iff.mp (show (asInts r).map _ = some ws from h)
    rw [ih h1]; rfl
theorem listRangeV_some {args : List AV} {r : AV} (h : listRangeV args = some r) : ∃ a b c, args = [.int a, .int b, .int c] ∧ (-1000000 < a ∧ a < b ∧ b < 1000000 ∧ 0 < c ∧ c < 1000000) ∧ r = .lst (stepUp a b c) := by
  obtain ⟨ws, h1, h2⟩ := Option.bind_eq_some_iff.mp h
  split at h2
  · split at h2
    · next hc => cases h2; exact ⟨_, _, _, asInts_ex h1, hc, rfl⟩
    · cases h2
  · cases h2
theorem small_i' {c : Int} (h3 : 0 < c) (h4 : c < 1000000) : small c = true := by
  have h1 : c.natAbs < 1000000 := by lia
  exact decide_eq_true (Nat.lt_of_lt_of_le h1 (by decide +kernel))
theorem fit {x : Int} (h : -10000000 < x) (h' : x < 10000000) : Builtin.Range.rangeFitsLong x = true := by
  unfold Builtin.Range.rangeFitsLong
  rw [decide_eq_true (Int.le_of_lt (Int.lt_of_le_of_lt (by decide +kernel) h)), decide_eq_true (Int.lt_of_lt_of_le h' (by decide +kernel))]; rfl
theorem range_nums {a b c : Int} (h0 : -1000000 < a) (h1 : a < b) (h2 : b < 1000000) (h3 : 0 < c) (h4 : c < 1000000) : small c = true ∧ Builtin.Range.rangeSize a b c = (((b - a - 1) / c + 1).toNat : Int) ∧ Builtin.Range.small a b c = true ∧ ((b - a - 1) / c + 1).toNat ≤ 2 ^ 24 := by
  have hdiv : 0 ≤ (b - a - 1) / c := Int.ediv_nonneg (by lia) (Int.le_of_lt h3)
  have hdle : (b - a - 1) / c ≤ b - a - 1 := Int.ediv_le_self _ (by lia)
  have hrs : Builtin.Range.rangeSize a b c = (b - a - 1) / c + 1 := by
    unfold Builtin.Range.rangeSize
    rw [if_pos h3, if_pos h1, Int.add_comm]
  have hnn : (((b - a - 1) / c + 1).toNat : Int) = (b - a - 1) / c + 1 := Int.toNat_of_nonneg (by lia)
  refine ⟨small_i' h3 h4, by rw [hrs, hnn], ?_, by lia⟩
  unfold Builtin.Range.small
  have c5 : b + (c - 1) < 10000000 := by lia
  have c6 : -10000000 < b + (c - 1) := by lia
  rw [hrs, if_pos h3, fit (by lia) (by lia), fit (by lia) (by lia), fit (by lia) (by lia), fit (by lia) (by lia), fit c6 c5, Bool.or_true]; rfl
theorem stepUp_at {a b c : Int} {j : Nat} {x : AV} (hx : (stepUp a b c)[j]? = some x) : x = .int (a + (j : Nat) * c) := by
  unfold stepUp at hx
  rw [List.getElem?_map] at hx
  obtain ⟨i, hi, rfl⟩ := Option.map_eq_some_iff.mp hx
  have hlt := (List.getElem?_eq_some_iff.mp hi).1
  rw [List.length_range] at hlt
  rw [List.getElem?_range hlt] at hi
  cases hi; rfl
theorem EvB.listRange {p p' q q' : Pos} {e : Expr} {es : List Expr} {f : List Slot → Option (List AV)} (hg : sc.lookup ("range" : Str) = some .globalImplicit) (hm : G.mg ("range" : Str) = Option.none) (hg' : sc.lookup ("list" : Str) = some .globalImplicit) (hm' : G.mg ("list" : Str) = Option.none)
    (ha : EvL G W k names sc (e :: es) f) (hn : notStar e = true) (hr : ∀ env pos, ((backTo pos (starEach es env)).any (·.1)) = false) :
    EvB true G W k names sc (.Call (.Name ("list" : Str) p') [.Call (.Name ("range" : Str) p) (e :: es) [] q] [] q') (fun sl => (f sl).bind listRangeV) := by
  intro A env s sl ro ef rs ba av hf Q hQ
  obtain ⟨args, h1, h2⟩ := Option.bind_eq_some_iff.mp hf
  refine Call_ (wpAny_Name (load_builtin (v := .type "list") ef ba hg' hm' (by decide +kernel) (by kernel_rfl) ?_) (by decide +kernel))
  refine PyProof.Rows.callWith_type1 ?_ rfl rfl
  refine Calls.spliced_cons ?_
  refine builtin_call (v := .type "range") hg (by decide +kernel) (by decide +kernel) hm (by kernel_rfl) (.inr ⟨_, rfl⟩) ha hn hr ro ef rs ba h1 fun vs s₁ x₁ r₁ => ?_
  obtain ⟨a, b, c, rfl, ⟨c0, c1, c2, c3, c4⟩, rfl⟩ := listRangeV_some h2
  obtain ⟨v, q, rfl, ⟨t, rfl⟩, ⟨v', q', rfl, ⟨t', rfl⟩, ⟨v'', q'', rfl, ⟨t'', rfl⟩, rfl⟩⟩⟩ := r₁
  obtain ⟨hsm, hrs, hsml, hle⟩ := range_nums c0 c1 c2 c3 c4
  refine call_range_3 (by lia) ?_ (Or.inl (small_pylong hsm))
  refine Calls.spliced_nil ?_
  have hge : ∀ d, s₁.heap.objs.size ≤ d → s₁.heap.get? d = Option.none := fun d q => by
    cases e : s₁.heap.get? d with
    | none => rfl
    | some o => exact absurd (Heap.lt_size e) (Nat.not_lt.mpr q)
  clear h1 h2 hf ha
  refine call_list_range ro.handled (IsRange.new _ _ _ _ _ _ _) hsml hrs hle fun h' tk acc cp hk hl hit => ?_
  obtain ⟨d, hd⟩ : ∃ d, (s₁.heap.push { cls := .type "range", data := .fields #[.int a t, .int b t', .int c t''] }).objs.size = d := ⟨_, rfl⟩
  have hnew : s₁.heap.get? d = Option.none := hge _ (by rw [← hd, Heap.size_push]; exact Nat.le_succ _)
  have x₂ : Ext s₁ { s₁ with heap := h', toks := tk } := .of fun b o e => hk b o (Heap.get?_push_of_some _ e)
  clear hk
  replace hl : h'.get? d = _ := hd ▸ hl
  refine (fun z : Q (.ref d) { s₁ with heap := h', toks := tk } => hd.symm ▸ z) ?_
  refine hQ _ _ (x₁.trans x₂) ⟨_, acc.toList, rfl, (ba.ext x₁).new hnew, ⟨cp, by simpa using hl⟩, RepL.of_get ?_ ?_⟩ fun zq => ⟨_, rfl, x₁.gone hnew⟩
  · rw [Array.length_toList, hit.1]; simp [stepUp]
  · intro j v x hv hx
    obtain ⟨u, rfl⟩ := hit.2 j v (by simpa using hv)
    rw [stepUp_at hx]
    exact ⟨u, rfl⟩
end
end Mine
end

section
open PySem PySem.W PyProof.Rows
set_option Elab.async false
set_option tactic.hygienic false
set_option maxRecDepth 100000
set_option linter.unusedVariables false


namespace Mine

structure EnvOk (env : Env) (names : List Str) : Prop where
  nodup : names.Nodup
  inj : ∀ x y c, env.cells.lookup x = some c → env.cells.lookup y = some c → x = y

noncomputable def Ld (env : Env) (h : Heap) (m : Str → Option Value) (x : Str) (ov : Option Value) : Prop :=
  (env.kindOf x = some .local ∧ m x = ov) ∨ (env.kindOf x = some .cell ∧ ∃ c, env.cells.lookup x = some c ∧ h.IsCell c ov)

noncomputable def SlotOwn (W : Addr → Prop) (h : Heap) : Slot → List Addr → Option Value → Prop
  | .unset, o, _ => o = []
  | .val x, o, ov => o = [] ∧ ∃ v, ov = some v ∧ RepV W h x v ∧ x.firm = true
  | .mls xs, o, ov => ∃ d vs, o = [d] ∧ W d ∧ ov = some (.ref d) ∧ h.PlainList d (List.toArray vs) ∧ RepL W h xs vs ∧ firmL xs = true
  | .mgr rows, o, ov => ∃ d ds, o = d :: ds ∧ (∀ a ∈ o, W a) ∧ ov = some (.ref d) ∧ h.PlainList d (List.toArray (ds.map Value.ref)) ∧ RepRows W h rows ds ∧ rows.all firmL = true
  | .scr xs, o, ov => o = [] ∧ ∃ d vs, ov = some (.ref d) ∧ ¬ W d ∧ h.IsList d (List.toArray vs) ∧ RepL W h xs vs ∧ firmL xs = true

theorem SlotOwn.rep {W : Addr → Prop} {h : Heap} {sv : Slot} {o : List Addr} {ov : Option Value} (r : SlotOwn W h sv o ov) : SlotRep W h sv ov := by
  cases sv with
  | unset => trivial
  | val x => exact r.2
  | mls xs => obtain ⟨d, vs, _, _, a, b, c, e⟩ := r; exact ⟨d, vs, a, b, c, e⟩
  | mgr rows => obtain ⟨d, ds, _, _, a, b, c, e⟩ := r; exact ⟨d, ds, a, b, c, e⟩
  | scr xs => exact r.2

structure StX (G : Gl) (W : Addr → Prop) (env : Env) (names : List Str) (sl : List Slot) (s : Shared) (m : Str → Option Value) (os : Nat → List Addr) (va : Nat → Option Value) : Prop where
  base : Base G W s
  wl : W env.locals
  wc : ∀ x c, env.cells.lookup x = some c → W c
  ns : s.heap.Ns env.locals m
  slots : ∀ i x sv, names[i]? = some x → sl[i]? = some sv → Ld env s.heap m x (va i) ∧ SlotOwn W s.heap sv (os i) (va i)
  nodup : ∀ i, (os i).Nodup
  apart : ∀ i j a, a ∈ os i → a ∈ os j → i = j
  isls : ∀ i a, a ∈ os i → W a ∧ ∃ us, s.heap.PlainList a us

section
variable {G : Gl} {W : Addr → Prop} {k : Nat} {names : List Str} {sc : List (Str × NameKind)} {A : Around} {s : Shared} {E : Value → Shared → Prop} {env : Env} {sl : List Slot} {m : Str → Option Value} {os : Nat → List Addr} {va : Nat → Option Value}

theorem Ld.loads {h : Heap} {x : Str} {ov : Option Value} (l : Ld env h m x ov) (n : h.Ns env.locals m) : Loads env h x ov := by
  rcases l with ⟨a, e⟩ | ⟨a, c, b, e⟩
  · exact .inl ⟨a, m, n, e⟩
  · exact .inr ⟨.inl a, c, b, e⟩

theorem StX.rs (st : StX G W env names sl s m os va) : RS W env names sl s.heap := fun i x sv a b zq =>
  ⟨va i, (st.slots i x sv a b).1.loads st.ns, (st.slots i x sv a b).2.rep⟩

theorem RepRows.own {W : Addr → Prop} {h : Heap} : ∀ {rs : List (List AV)} {ds : List Addr}, RepRows W h rs ds → ∀ a ∈ ds, ∃ us, h.PlainList a us
  | [], _, r, a, ha => by rw [show _ = [] from r] at ha; cases ha
  | _ :: _, _, ⟨d, q, vs, e, l, _, rr⟩, a, ha => by
    rw [e] at ha
    rcases List.mem_cons.mp ha with rfl | ha
    · exact ⟨_, l⟩
    · exact RepRows.own rr a ha
theorem SlotOwn.isl {h : Heap} {sv : Slot} {o : List Addr} {ov : Option Value} (r : SlotOwn W h sv o ov) : ∀ a ∈ o, W a ∧ ∃ us, h.PlainList a us := by
  intro a ha
  cases sv with
  | unset => rw [show o = [] from r] at ha; cases ha
  | val x => rw [r.1] at ha; cases ha
  | mls xs => obtain ⟨d, vs, e, w, _, b, _⟩ := r; rw [e] at ha; rw [List.mem_singleton.mp ha]; exact ⟨w, _, b⟩
  | mgr rows =>
    obtain ⟨d, ds, e, w, _, b, c, _⟩ := r
    refine ⟨w a ha, ?_⟩
    rw [e] at ha
    rcases List.mem_cons.mp ha with rfl | ha
    · exact ⟨_, b⟩
    · exact c.own a ha
  | scr xs => rw [r.1] at ha; cases ha

theorem RepRows.move {W W' : Addr → Prop} {h h' : Heap} {a : Addr} (hk : ∀ b o, b ≠ a → h.get? b = some o → tabby o = false → h'.get? b = some o) (hW : ∀ b, (h.get? b).isSome = true → W' b → W b) (ha : W a) :
    ∀ {rs : List (List AV)} {ds : List Addr}, a ∉ ds → rs.all firmL = true → RepRows W h rs ds → RepRows W' h' rs ds
  | [], _, _, _, r => r
  | r0 :: rs, _, hn, hf, ⟨d, q, vs, e, ⟨n, l⟩, r, rr⟩ => by
    rw [e] at hn
    simp only [List.all_cons, Bool.and_eq_true] at hf
    exact ⟨d, q, vs, e, ⟨n, hk _ _ (fun e => hn (by rw [e]; exact List.mem_cons_self)) l rfl⟩, RepL.firm (fun b o w e s => hk b o (fun e => w (e ▸ ha)) e s) hW _ _ hf.1 r, RepRows.move hk hW ha (fun q => hn (List.mem_cons_of_mem _ q)) hf.2 rr⟩
theorem SlotOwn.move {W W' : Addr → Prop} {h h' : Heap} {a : Addr} (hk : ∀ b o, b ≠ a → h.get? b = some o → tabby o = false → h'.get? b = some o) (hW : ∀ b, (h.get? b).isSome = true → W' b → W b) (hWW : ∀ b, W b → W' b) (ha : W a)
    {sv : Slot} {o : List Addr} {ov : Option Value} (hn : a ∉ o) (r : SlotOwn W h sv o ov) : SlotOwn W' h' sv o ov := by
  have hk' : ∀ b o, ¬ W b → h.get? b = some o → tabby o = false → h'.get? b = some o := fun b o w e s => hk b o (fun e => w (e ▸ ha)) e s
  cases sv with
  | unset => exact r
  | val x => obtain ⟨e, v, q, rv, f⟩ := r; exact ⟨e, v, q, RepV.firm hk' hW _ _ f rv, f⟩
  | mls xs =>
    obtain ⟨d, vs, e, w, q, ⟨n, l⟩, rl, f⟩ := r
    exact ⟨d, vs, e, hWW _ w, q, ⟨n, hk _ _ (fun e' => hn (by rw [e, e']; exact List.mem_cons_self)) l rfl⟩, RepL.firm hk' hW _ _ f rl, f⟩
  | mgr rows =>
    obtain ⟨d, ds, e, w, q, ⟨n, l⟩, rl, f⟩ := r
    exact ⟨d, ds, e, fun b hb => hWW _ (w b hb), q, ⟨n, hk _ _ (fun e' => hn (by rw [e, e']; exact List.mem_cons_self)) l rfl⟩, rl.move hk hW ha (fun q => hn (by rw [e]; exact List.mem_cons_of_mem _ q)) f, f⟩
  | scr xs =>
    obtain ⟨e, d, vs, q, nw, ⟨ob, ho, l⟩, rl, f⟩ := r
    exact ⟨e, d, vs, q, fun w => nw (hW d (by rw [ho]; rfl) w), ⟨ob, hk _ _ (fun e => nw (e ▸ ha)) ho (solid_cls l.1), l⟩, RepL.firm hk' hW _ _ f rl, f⟩

theorem RepRows.grow' {W : Addr → Prop} {h h' : Heap} (hk : Kept h h') {rs : List (List AV)} {ds : List Addr} (r : RepRows W h rs ds) : RepRows W h' rs ds := RepRows.grow hk r
theorem SlotOwn.grow {h h' : Heap} (hk : Kept h h') {sv : Slot} {o : List Addr} {ov : Option Value} (r : SlotOwn W h sv o ov) : SlotOwn W h' sv o ov := by
  cases sv with
  | unset => exact r
  | val x => obtain ⟨e, v, q, rv, f⟩ := r; exact ⟨e, v, q, rv.grow hk, f⟩
  | mls xs => obtain ⟨d, vs, e, w, q, l, rl, f⟩ := r; exact ⟨d, vs, e, w, q, PlainList.grow hk l, rl.grow hk, f⟩
  | mgr rows => obtain ⟨d, ds, e, w, q, l, rl, f⟩ := r; exact ⟨d, ds, e, w, q, PlainList.grow hk l, rl.grow hk, f⟩
  | scr xs => obtain ⟨e, d, vs, q, nw, l, rl, f⟩ := r; exact ⟨e, d, vs, q, nw, IsList.grow hk l, rl.grow hk, f⟩
theorem Ld.grow {h h' : Heap} (hk : Kept h h') {x : Str} {ov : Option Value} (l : Ld env h m x ov) : Ld env h' m x ov := by
  rcases l with q | ⟨a, c, b, e⟩
  · exact .inl q
  · exact .inr ⟨a, c, b, IsCell.keepsK e hk⟩

theorem StX.ext (st : StX G W env names sl s m os va) {s₁ : Shared} (x : Ext s s₁) : StX G W env names sl s₁ m os va where
  base := st.base.ext x
  wl := st.wl
  wc := st.wc
  ns := Ns.keepsK st.ns x.kept
  slots := fun i y sv a b => ⟨(st.slots i y sv a b).1.grow x.kept, (st.slots i y sv a b).2.grow x.kept⟩
  nodup := st.nodup
  apart := st.apart
  isls := fun i a h => ⟨(st.isls i a h).1, let ⟨us, l⟩ := (st.isls i a h).2; ⟨us, PlainList.grow x.kept l⟩⟩

theorem StX.load (st : StX G W env names sl s m os va) (ef : EnvF env sc) {i : Nat} {x : Str} {sv : Slot} {v : Value} {p : Pos} {Q : Value → Shared → Prop} (hx : names[i]? = some x) (hs : sl[i]? = some sv) (hv : va i = some v) (hd : (x == ("__debug__" : Str)) = false) (h : Q v s) :
    wpAny G.M A (eval (.Name x p) env) Q E s := by
  obtain ⟨l, _⟩ := st.slots i x sv hx hs
  rw [hv] at l
  refine wpAny_Name ?_ hd
  rcases l with ⟨a, e⟩ | ⟨a, c, b, e⟩
  · exact wpAny_loadName_local ef.kind a st.ns e h
  · exact wpAny_loadName_cell ef.kind a b e h

structure Mov (W W' : Addr → Prop) (s s' : Shared) : Prop where
  same : ∃ h tk, s' = { s with heap := h, toks := tk }
  kept : ∀ b o, ¬ W b → s.heap.get? b = some o → tabby o = false → s'.heap.get? b = some o
  gone : ∀ b, s'.heap.get? b = none → s.heap.get? b = none
  more : ∀ b, W b → W' b
  new : ∀ b, W' b → (s.heap.get? b).isSome = true → W b
theorem Mov.refl (W : Addr → Prop) (s : Shared) : Mov W W s s := ⟨⟨s.heap, s.toks, rfl⟩, fun zq zq zq e zq => e, fun zq e => e, fun zq w => w, fun zq w zq => w⟩
theorem Mov.trans {W W' W'' : Addr → Prop} {a b c : Shared} (x : Mov W W' a b) (y : Mov W' W'' b c) : Mov W W'' a c where
  same := by obtain ⟨h, t, rfl⟩ := x.same; obtain ⟨h', t', rfl⟩ := y.same; exact ⟨h', t', rfl⟩
  kept := fun d o w e hs => y.kept d o (fun w' => w (x.new d w' (by rw [e]; rfl))) (x.kept d o w e hs) hs
  gone := fun d e => x.gone d (y.gone d e)
  more := fun d w => y.more d (x.more d w)
  new := fun d w e => x.new d (y.new d w (by
    cases q : b.heap.get? d with
    | none => rw [x.gone d q] at e; cases e
    | some o => rfl)) e
theorem Mov.ext {W : Addr → Prop} {s s' : Shared} (x : Ext s s') : Mov W W s s' := by
  obtain ⟨h, t, rfl, kk, nn, _⟩ := x
  exact ⟨⟨h, t, rfl⟩, fun b o zq e => kk b o e, nn, fun zq w => w, fun zq w zq => w⟩

theorem set_get {α : Type} {l : List α} {i j : Nat} {a : α} {b : α} (h : (l.set i a)[j]? = some b) : (i = j ∧ b = a) ∨ (i ≠ j ∧ l[j]? = some b) := by
  rw [List.getElem?_set] at h
  by_cases e : i = j
  · rw [if_pos e] at h
    split at h
    · cases h; exact .inl ⟨e, rfl⟩
    · cases h
  · rw [if_neg e] at h; exact .inr ⟨e, h⟩

theorem Ns.ne_list {h : Heap} {a d : Addr} {us : Array Value} (n : h.Ns a m) (l : h.PlainList d us) : a ≠ d := by
  rintro rfl
  obtain ⟨o, es, ep, ho, h1⟩ := n
  obtain ⟨cp, hl⟩ := l
  rw [ho] at hl; cases hl
  obtain ⟨h2, _⟩ := h1
  cases h2
theorem IsCell.ne_list {h : Heap} {a d : Addr} {us : Array Value} {ov : Option Value} (n : h.IsCell a ov) (l : h.PlainList d us) : a ≠ d := by
  rintro rfl
  obtain ⟨o, ho, h1⟩ := n
  obtain ⟨cp, hl⟩ := l
  rw [ho] at hl; cases hl
  cases h1
theorem IsCell.ne_ns {h : Heap} {a d : Addr} {ov : Option Value} (n : h.IsCell a ov) (l : h.Ns d m) : a ≠ d := by
  rintro rfl
  obtain ⟨o, ho, h1⟩ := n
  obtain ⟨o', es, ep, ho', h2⟩ := l
  rw [ho] at ho'; cases ho'
  obtain ⟨h2, _⟩ := h2
  rw [h1] at h2; cases h2
end
end Mine
end

section
open PySem PySem.W PyProof.Rows
set_option Elab.async false
set_option tactic.hygienic false
set_option maxRecDepth 100000
set_option linter.unusedVariables false


namespace Mine
section
variable {G : Gl} {W : Addr → Prop} {k : Nat} {names : List Str} {sc : List (Str × NameKind)} {A : Around} {s : Shared} {E : Value → Shared → Prop} {env : Env} {sl : List Slot} {m : Str → Option Value} {os : Nat → List Addr} {va : Nat → Option Value}

theorem nodup_idx {α : Type} : ∀ {l : List α} {i j : Nat} {x : α}, l.Nodup → l[i]? = some x → l[j]? = some x → i = j
  | [], i, _, _, _, h, _ => by simp at h
  | y :: l, 0, 0, _, _, _, _ => rfl
  | y :: l, 0, j + 1, x, n, h, h' => by
    simp at h h'
    rw [h] at n
    exact absurd (List.mem_of_getElem? h') (List.nodup_cons.mp n).1
  | y :: l, i + 1, 0, x, n, h, h' => by
    simp at h h'
    rw [h'] at n
    exact absurd (List.mem_of_getElem? h) (List.nodup_cons.mp n).1
  | y :: l, i + 1, j + 1, x, n, h, h' => by
    simp at h h'
    rw [nodup_idx (List.nodup_cons.mp n).2 h h']
theorem StX.store {s₀ : Shared} (st : StX G W env names sl s₀ m os va) (xx : Ext s₀ s) (eo : EnvOk env names) (hk : env.scope.kind = .function) {i : Nat} {x : Str} {v : Value} {sv old : Slot} {o : List Addr} {W' : Addr → Prop}
    (hx : names[i]? = some x) (hsl : sl[i]? = some old) (hW' : ∀ b, W' b ↔ W b ∨ b ∈ o) (ho : ∀ a ∈ o, s₀.heap.get? a = none) (hnd : o.Nodup) (hsv : SlotOwn W' s.heap sv o (some v)) {Q : Unit → Shared → Prop}
    (hQ : ∀ s' m', Mov W W' s₀ s' → (∀ b ob, ¬ W b → s.heap.get? b = some ob → tabby ob = false → s'.heap.get? b = some ob) → StX G W' env names (sl.set i sv) s' m' (fun j => if j = i then o else os j) (fun j => if j = i then some v else va j) → Q () s') :
    wpAny G.M A (storeName env x v) Q E s := by
  have st' := st.ext xx
  have hisl := hsv.isl
  have hsame : ∀ h' tk, ∃ h₁ tk₁, ({ s with heap := h', toks := tk } : Shared) = { s₀ with heap := h₁, toks := tk₁ } := by
    obtain ⟨h, t, rfl, _⟩ := xx
    exact fun h' tk => ⟨h', tk, rfl⟩
  have fin : ∀ (a : Addr) (h' : Heap) (tk : Nat) (m' : Str → Option Value), W a → (∃ oa, s.heap.get? a = some oa ∧ codey oa = false) → (∀ us, ¬ s.heap.PlainList a us) → Heap.SameBut a s.heap h' → (h'.get? a).isSome = true → h'.Ns env.locals m' →
      (∀ j y ov, names[j]? = some y → j ≠ i → Ld env s.heap m y ov → Ld env h' m' y ov) → Ld env h' m' x (some v) → Q () { s with heap := h', toks := tk } := by
    intro a h' tk m' wa ca nl sb ha ns' hold hnew
    have nao : a ∉ o := fun q => by obtain ⟨_, us, l⟩ := hisl a q; exact nl us l
    have k0 : ∀ b ob, b ≠ a → s₀.heap.get? b = some ob → tabby ob = false → h'.get? b = some ob := fun b ob hb e hs => sb.extBut b ob hb (xx.kept b ob e hs)
    have nn : ∀ b, h'.get? b = none → s₀.heap.get? b = none := fun b e => xx.gone (none_but (fun b o hb e => sb.extBut b o hb e) ha b e)
    have w0 : ∀ b, (s₀.heap.get? b).isSome = true → W' b → W b := fun b hb w => by
      rcases (hW' b).mp w with w | w
      · exact w
      · rw [ho b w] at hb; cases hb
    have h0a : G.h₀.get? a = none := (st.base.above a wa).2
    refine hQ _ m' ⟨hsame h' tk, fun b ob w e hs => k0 b ob (fun q => w (q ▸ wa)) e hs, nn, fun b w => (hW' b).mpr (.inl w), fun b w e => w0 b e w⟩ (fun b ob w e zq => sb.extBut b ob (fun q => w (q ▸ wa)) e) ?_
    refine ⟨⟨fun b ob e hs => ?_, fun b e => st.base.gone b (nn b e), ?_, fun b w => ?_⟩, (hW' _).mpr (.inl st.wl), fun y c e => (hW' _).mpr (.inl (st.wc y c e)), ns', ?_, ?_, ?_, ?_⟩
    · exact k0 b ob (fun q => by rw [q, h0a] at e; cases e) (st.base.keep b ob e hs) hs
    · obtain ⟨oa, e, c⟩ := ca
      exact st'.base.tb.change (fun b o hb e => sb.extBut b o hb e) (st.base.notMain wa) e c
    · show (h'.get? b).isSome = true ∧ _
      by_cases hba : b = a
      · subst hba; exact ⟨ha, h0a⟩
      · rcases (hW' b).mp w with w | w
        · refine ⟨?_, (st.base.above b w).2⟩
          cases q : h'.get? b with
          | none => have := (st.base.above b w).1; rw [nn b q] at this; cases this
          | some o => rfl
        · obtain ⟨_, us, n, l⟩ := hisl b w
          exact ⟨by rw [sb.extBut b _ hba l]; rfl, st.base.gone b (ho b w)⟩
    · intro j y sv' hy hs'
      rcases set_get hs' with ⟨rfl, rfl⟩ | ⟨hne, hs'⟩
      · rw [hx] at hy; cases hy
        simp only [if_pos]
        exact ⟨hnew, hsv.move (fun b ob hb e zq => sb.extBut b ob hb e) (fun zq zq w => w) (fun zq w => w) ((hW' a).mpr (.inl wa)) nao⟩
      · have hji : j ≠ i := fun q => hne q.symm
        simp only [if_neg hji]
        refine ⟨hold j y _ hy hji (st'.slots j y sv' hy hs').1, (st.slots j y sv' hy hs').2.move k0 w0 (fun b w => (hW' b).mpr (.inl w)) wa fun q => ?_⟩
        obtain ⟨_, us, l⟩ := st'.isls j a q
        exact nl us l
    · intro j
      split
      · exact hnd
      · exact st.nodup j
    · have cross : ∀ j b, b ∈ os j → b ∈ o → False := fun j b h1 h2 => by
        have := (st.base.above b (st.isls j b h1).1).1
        rw [ho b h2] at this; cases this
      intro j j' b h1 h2
      split at h1 <;> split at h2
      · next e1 e2 => exact e1.trans e2.symm
      · next e1 e2 => exact (cross _ _ h2 h1).elim
      · next e1 e2 => exact (cross _ _ h1 h2).elim
      · exact st.apart j j' b h1 h2
    · intro j b h1
      split at h1
      · obtain ⟨w, us, n, l⟩ := hisl b h1
        exact ⟨w, us, n, sb.extBut b _ (fun q => nl us (q ▸ ⟨n, l⟩)) l⟩
      · obtain ⟨w, us, n, l⟩ := st'.isls j b h1
        exact ⟨(hW' b).mpr (.inl w), us, n, sb.extBut b _ (fun q => nl us (q ▸ ⟨n, l⟩)) l⟩
  have dist : ∀ j y, names[j]? = some y → j ≠ i → y ≠ x := fun j y hy hj q => by
    rw [q] at hy
    exact hj (nodup_idx eo.nodup hy hx)
  obtain ⟨l, _⟩ := st'.slots i x old hx hsl
  rcases l with ⟨a, e⟩ | ⟨a, c, b, e⟩
  · refine wpAny_storeName_local a st'.ns (fun h' n' sb => fin env.locals h' _ _ st.wl (codey_ns st'.ns) (fun us l => Ns.ne_list st'.ns l rfl) sb ?_ n' ?_ (.inl ⟨a, by simp⟩)) (by rw [hk]; rfl)
    · obtain ⟨ob, _, _, e, _⟩ := n'; rw [e]; rfl
    · intro j y ov hy hj l
      rcases l with ⟨a', e'⟩ | ⟨a', c, b, e'⟩
      · exact .inl ⟨a', by simp [dist j y hy hj]; exact e'⟩
      · exact .inr ⟨a', c, b, e'.sameBut sb (IsCell.ne_ns e' st'.ns)⟩
  · refine wpAny_storeName_cell hk a b e fun h' n' sb => fin c h' _ m (st.wc x c b) (codey_cell e) (fun us l => IsCell.ne_list e l rfl) sb ?_ (st'.ns.sameBut sb (Ne.symm (IsCell.ne_ns e st'.ns))) ?_ (.inr ⟨a, c, b, n'⟩)
    · obtain ⟨ob, e, _⟩ := n'; rw [e]; rfl
    · intro j y ov hy hj l
      rcases l with ⟨a', e'⟩ | ⟨a', c', b', e'⟩
      · exact .inl ⟨a', e'⟩
      · refine .inr ⟨a', c', b', e'.sameBut sb fun q => ?_⟩
        exact dist j y hy hj (eo.inj y x c' b' (q ▸ b))

theorem StX.setList (st : StX G W env names sl s m os va) {i : Nat} {x : Str} {xs xs' : List AV} {vs' : List Value} {d : Addr} {h' : Heap} {tk : Nat} (hx : names[i]? = some x) (hsl : sl[i]? = some (.mls xs)) (hd : va i = some (.ref d))
    (sb : Heap.SameBut d s.heap h') (hl : h'.PlainList d (List.toArray vs')) (hr : RepL W s.heap xs' vs') (hf : firmL xs' = true) :
    Mov W W s { s with heap := h', toks := tk } ∧ StX G W env names (sl.set i (.mls xs')) { s with heap := h', toks := tk } m os va := by
  obtain ⟨_, d', vs, e1, wd, e2, ld, _⟩ := st.slots i x _ hx hsl
  rw [hd] at e2; cases e2
  have k0 : ∀ b ob, b ≠ d → s.heap.get? b = some ob → h'.get? b = some ob := fun b ob hb e => sb.extBut b ob hb e
  have h0a : G.h₀.get? d = none := (st.base.above d wd).2
  have nn : ∀ b, h'.get? b = none → s.heap.get? b = none := none_but k0 (by obtain ⟨n, l⟩ := hl; rw [l]; rfl)
  refine ⟨⟨⟨h', tk, rfl⟩, fun b ob w e zq => k0 b ob (fun q => w (q ▸ wd)) e, nn, fun zq w => w, fun zq w zq => w⟩, ⟨⟨fun b ob e hs => ?_, fun b e => st.base.gone b (nn b e), ?_, fun b w => ?_⟩, st.wl, st.wc, ?_, ?_, st.nodup, st.apart, ?_⟩⟩
  · exact k0 b ob (fun q => by rw [q, h0a] at e; cases e) (st.base.keep b ob e hs)
  · obtain ⟨oa, e, c⟩ := codey_list ld
    exact st.base.tb.change k0 (st.base.notMain wd) e c
  · show (h'.get? b).isSome = true ∧ _
    by_cases hba : b = d
    · subst hba; obtain ⟨n, l⟩ := hl; exact ⟨by rw [l]; rfl, h0a⟩
    · obtain ⟨ob, e⟩ := Option.isSome_iff_exists.mp (st.base.above b w).1
      exact ⟨by rw [k0 b ob hba e]; rfl, (st.base.above b w).2⟩
  · exact st.ns.sameBut sb (Ns.ne_list st.ns ld)
  · intro j y sv hy hs
    have hLd : ∀ ov, Ld env s.heap m y ov → Ld env h' m y ov := fun ov l => by
      rcases l with q | ⟨a, c, b, e⟩
      · exact .inl q
      · exact .inr ⟨a, c, b, e.sameBut sb (IsCell.ne_list e ld)⟩
    rcases set_get hs with ⟨rfl, rfl⟩ | ⟨hne, hs⟩
    · rw [hx] at hy; cases hy
      exact ⟨hLd _ (st.slots i x _ hx hsl).1, d, vs', e1, wd, hd, hl, RepL.firm (fun b ob w e zq => k0 b ob (fun q => w (q ▸ wd)) e) (fun zq zq w => w) _ _ hf hr, hf⟩
    · refine ⟨hLd _ (st.slots j y sv hy hs).1, (st.slots j y sv hy hs).2.move (fun b o hb e zq => k0 b o hb e) (fun zq zq w => w) (fun zq w => w) wd fun q => ?_⟩
      exact hne (st.apart i j d (by rw [e1]; exact List.mem_singleton.mpr rfl) q)
  · intro j b h1
    obtain ⟨w, us, n, l⟩ := st.isls j b h1
    by_cases hba : b = d
    · subst hba; exact ⟨w, _, hl⟩
    · exact ⟨w, us, n, k0 b _ hba l⟩

inductive Fl where
  | next | brk | cont | ret (v : AV)
noncomputable def FlRep (G : Gl) (h : Heap) : Fl → Flow → Prop
  | .next, f => f = .next
  | .brk, f => f = .brk
  | .cont, f => f = .cont
  | .ret a, f => ∃ v, f = .ret v ∧ RepV (fun b => (G.h₀.get? b).isSome = true) h a v
end
end Mine
end

section
open PySem PySem.W PyProof.Rows
set_option Elab.async false
set_option tactic.hygienic false
set_option maxRecDepth 100000
set_option linter.unusedVariables false


namespace Mine

noncomputable def StS (G : Gl) (k : Nat) (names : List Str) (sc : List (Str × NameKind)) (st : Stmt) (f : List Slot → Option (Fl × List Slot)) : Prop :=
  ∀ (A : Around) (W : Addr → Prop) (env : Env) (s : Shared) (sl : List Slot) (m : Str → Option Value) (os : Nat → List Addr) (va : Nat → Option Value), Room A k → EnvF env sc → EnvOk env names → StX G W env names sl s m os va →
    ∀ fl sl', f sl = some (fl, sl') → ∀ Q : Flow → Shared → Prop, (∀ W' s' m' os' va' flow, Mov W W' s s' → StX G W' env names sl' s' m' os' va' → FlRep G s'.heap fl flow → Q flow s') →
      wpAny G.M A (exec st env) Q (fun zq zq => False) s
noncomputable def SsS (G : Gl) (k : Nat) (names : List Str) (sc : List (Str × NameKind)) (st : List Stmt) (f : List Slot → Option (Fl × List Slot)) : Prop :=
  ∀ (A : Around) (W : Addr → Prop) (env : Env) (s : Shared) (sl : List Slot) (m : Str → Option Value) (os : Nat → List Addr) (va : Nat → Option Value), Room A k → EnvF env sc → EnvOk env names → StX G W env names sl s m os va →
    ∀ fl sl', f sl = some (fl, sl') → ∀ Q : Flow → Shared → Prop, (∀ W' s' m' os' va' flow, Mov W W' s s' → StX G W' env names sl' s' m' os' va' → FlRep G s'.heap fl flow → Q flow s') →
      wpAny G.M A (execs st env) Q (fun zq zq => False) s

noncomputable def putS (sl : List Slot) (i : Nat) (sv : Slot) : Option (List Slot) := if i < sl.length then some (sl.set i sv) else none

section
variable {G : Gl} {W : Addr → Prop} {k : Nat} {names : List Str} {sc : List (Str × NameKind)} {A : Around} {s : Shared} {E : Value → Shared → Prop} {env : Env} {sl : List Slot} {m : Str → Option Value} {os : Nat → List Addr} {va : Nat → Option Value}

theorem SsS.nil : SsS G k names sc [] (fun sl => some (.next, sl)) := fun A W env s sl m os va ro ef eo st fl sl' hf Q hQ => by
  cases hf
  exact wpAny_execs_nil (hQ W s m os va .next (.refl W s) st rfl)
noncomputable def seqF (f g : List Slot → Option (Fl × List Slot)) : List Slot → Option (Fl × List Slot) := fun sl => (f sl).bind fun r => match r.1 with
  | .next => g r.2
  | _ => some r
theorem SsS.cons {st : Stmt} {r : List Stmt} {f g : List Slot → Option (Fl × List Slot)} (h : StS G k names sc st f) (hr : SsS G k names sc r g) : SsS G k names sc (st :: r) (seqF f g) := by
  intro A W env s sl m os va ro ef eo stx fl sl' hf Q hQ
  obtain ⟨⟨fl1, sl1⟩, h1, h2⟩ := Option.bind_eq_some_iff.mp hf
  refine wpAny_execs_cons (h A W env s sl m os va ro ef eo stx fl1 sl1 h1 _ fun W₁ s₁ m₁ os₁ va₁ flow₁ mv₁ st₁ fr₁ => ?_)
  cases fl1 with
  | next =>
    cases (show flow₁ = .next from fr₁)
    exact hr A W₁ env s₁ sl1 m₁ os₁ va₁ ro ef eo st₁ fl sl' h2 Q fun W₂ s₂ m₂ os₂ va₂ flow₂ mv₂ st₂ fr₂ => hQ W₂ s₂ m₂ os₂ va₂ flow₂ (mv₁.trans mv₂) st₂ fr₂
  | brk => cases h2; cases (show flow₁ = .brk from fr₁); exact hQ W₁ s₁ m₁ os₁ va₁ _ mv₁ st₁ rfl
  | cont => cases h2; cases (show flow₁ = .cont from fr₁); exact hQ W₁ s₁ m₁ os₁ va₁ _ mv₁ st₁ rfl
  | ret a => cases h2; obtain ⟨v, e, r⟩ := fr₁; cases e; exact hQ W₁ s₁ m₁ os₁ va₁ _ mv₁ st₁ ⟨v, rfl, r⟩

theorem putS_some {sl sl' : List Slot} {i : Nat} {sv : Slot} (h : putS sl i sv = some sl') : sl' = sl.set i sv ∧ ∃ old, sl[i]? = some old := by
  unfold putS at h
  split at h
  · next hi => cases h; exact ⟨rfl, _, List.getElem?_eq_getElem hi⟩
  · cases h

noncomputable def setF (i : Nat) (f : List Slot → Option AV) : List Slot → Option (Fl × List Slot) := fun sl => (f sl).bind fun av => if av.firm = true then (putS sl i (.val av)).map fun sl' => (.next, sl') else none

theorem store_val {s₀ : Shared} (st : StX G W env names sl s₀ m os va) (xx : Ext s₀ s) (eo : EnvOk env names) (hk : env.scope.kind = .function) {i : Nat} {x : Str} {v : Value} {a : AV} {old : Slot}
    (hx : names[i]? = some x) (hsl : sl[i]? = some old) (hr : RepV W s.heap a v) (hf : a.firm = true) {Q : Unit → Shared → Prop}
    (hQ : ∀ s' m' os' va', Mov W W s₀ s' → (∀ b ob, ¬ W b → s.heap.get? b = some ob → tabby ob = false → s'.heap.get? b = some ob) → StX G W env names (sl.set i (.val a)) s' m' os' va' → Q () s') : wpAny G.M A (storeName env x v) Q E s :=
  st.store xx eo hk (sv := .val a) (o := []) (W' := W) hx hsl (fun b => by simp) (fun a h => by cases h) List.nodup_nil ⟨rfl, v, rfl, hr, hf⟩ fun s' m' mv kk st' => hQ s' m' _ _ mv kk st'

theorem StS.assign {i : Nat} {x : Str} {p q : Pos} {e : Expr} {f : List Slot → Option AV} (hx : names[i]? = some x) (he : ∀ W, EvS G W k names sc e f) (hs : ∀ env, swapsWith e (some (.Name x p)) q.line env = pure false) :
    StS G k names sc (.Assign [.Name x p] e q) (setF i f) := by
  intro A W env s sl m os va ro ef eo st fl sl' hf Q hQ
  obtain ⟨av, h1, h2⟩ := Option.bind_eq_some_iff.mp hf
  split at h2
  · next hfirm =>
    obtain ⟨sl1, h3, h4⟩ := Option.map_eq_some_iff.mp h2
    cases h4
    obtain ⟨rfl, old, hold⟩ := putS_some h3
    refine wpAny_Assign_Name (he W A env s sl ro ef st.rs st.base av h1 _ fun v s₁ x₁ r₁ => ?_) (hs env)
    exact store_val st x₁ eo ef.kind hx hold r₁ hfirm fun s' m' os' va' mv zq st' => hQ W s' m' os' va' .next mv st' rfl
  · cases h2

noncomputable def rowsOf : List AV → Option (List (List AV))
  | [] => some []
  | .lst r :: xs => (rowsOf xs).map (r :: ·)
  | _ :: _ => none
noncomputable def newSlot : Nat → List AV → Option Slot
  | 0, xs => some (.val (.lst xs))
  | 1, xs => some (.mls xs)
  | _, xs => (rowsOf xs).bind fun rows => if rows.all (fun r => (asInts r).isSome) = true then some (.mgr rows) else none

set_option tactic.hygienic true in
theorem rows_of : ∀ {W : Addr → Prop} {h : Heap} {xs : List AV} {rows : List (List AV)} {vs : List Value} {ds : List Addr}, rowsOf xs = some rows → vs = ds.map Value.ref → RepL W h xs vs → RepRows W h rows ds ∧ (∀ d ∈ ds, ¬ W d) ∧ rows.all firmL = firmL xs
  | W, h, [], rows, vs, ds, e, hv, r => by
    cases e
    rw [show vs = [] from r] at hv
    have : ds = [] := by simpa using hv.symm
    subst this
    exact ⟨rfl, (fun d hd => by cases hd), rfl⟩
  | W, h, x :: xs, rows, vs, ds, e, hv, ⟨v, q, hvq, rx, rq⟩ => by
    cases x <;> first | (simp [rowsOf] at e; done) | skip
    case lst xs' =>
    obtain ⟨rest, e2, e3⟩ := Option.map_eq_some_iff.mp e
    subst e3
    cases ds with
    | nil => rw [hvq] at hv; cases hv
    | cons d ds =>
      rw [hvq] at hv
      simp only [List.map_cons, List.cons.injEq] at hv
      obtain ⟨hv1, hv2⟩ := hv
      obtain ⟨a, us, ea, nw, pl, rl⟩ := rx
      rw [hv1] at ea; cases ea
      obtain ⟨h1, h2, h3⟩ := rows_of e2 hv2 rq
      refine ⟨⟨d, ds, us, rfl, pl, rl, h1⟩, (fun b hb => ?_), ?_⟩
      · rcases List.mem_cons.mp hb with rfl | hb
        · exact nw
        · exact h2 b hb
      · simp only [List.all_cons, firmL, AV.firm, h3]

theorem RepL.nums {W W' : Addr → Prop} {h : Heap} : ∀ {xs : List AV} {vs : List Value}, (asInts xs).isSome = true → RepL W h xs vs → RepL W' h xs vs
  | [], _, _, r => r
  | x :: xs, _, f, ⟨v, q, e, a, b⟩ => by
    cases x <;> first | (simp [asInts] at f; done) | skip
    case int i =>
    simp only [asInts, Option.isSome_map] at f
    exact ⟨v, q, e, a, RepL.nums f b⟩
theorem RepRows.nums {W W' : Addr → Prop} {h : Heap} : ∀ {rs : List (List AV)} {ds : List Addr}, rs.all (fun r => (asInts r).isSome) = true → RepRows W h rs ds → RepRows W' h rs ds
  | [], _, _, r => r
  | _ :: _, _, f, ⟨d, q, vs, e, l, r, rr⟩ => by
    simp only [List.all_cons, Bool.and_eq_true] at f
    exact ⟨d, q, vs, e, l, r.nums f.1, RepRows.nums f.2 rr⟩

theorem store_new {s₀ : Shared} (st : StX G W env names sl s₀ m os va) (xx : Ext s₀ s) (eo : EnvOk env names) (hk : env.scope.kind = .function) {i : Nat} {x : Str} {D : Addr} {vs : List Value} {xs : List AV} {md : Nat} {sv old : Slot}
    (hx : names[i]? = some x) (hsl : sl[i]? = some old) (hD : s₀.heap.get? D = none) (hpl : s.heap.PlainList D (List.toArray vs)) (hr : RepL (fun b => W b ∨ b = D) s.heap xs vs) (hf : firmL xs = true) (hmd : newSlot md xs = some sv)
    (hrows : 2 ≤ md → ∃ ds : List Addr, vs = ds.map Value.ref ∧ ds.Nodup ∧ ∀ d ∈ ds, s₀.heap.get? d = none) {Q : Unit → Shared → Prop}
    (hQ : ∀ W' s' m' os' va', Mov W W' s₀ s' → (∀ b ob, ¬ W b → s.heap.get? b = some ob → tabby ob = false → s'.heap.get? b = some ob) → (∀ b, W' b → W b ∨ ∃ us, s.heap.PlainList b us) → StX G W' env names (sl.set i sv) s' m' os' va' → Q () s') : wpAny G.M A (storeName env x (.ref D)) Q E s := by
  have nW : ¬ W D := st.base.new hD
  match md, hmd with
  | 0, hmd =>
    cases hmd
    refine store_val st xx eo hk hx hsl (a := .lst xs) ⟨D, vs, rfl, nW, hpl, hr.weaken fun b w => .inl w⟩ hf fun s' m' os' va' mv kk st' => hQ W s' m' os' va' mv kk (fun b w => .inl w) st'
  | 1, hmd =>
    cases hmd
    refine st.store xx eo hk (sv := .mls xs) (o := [D]) (W' := fun b => W b ∨ b = D) hx hsl (fun b => by simp) (fun a h => by rw [List.mem_singleton.mp h]; exact hD) (by simp) ⟨D, vs, rfl, .inr rfl, rfl, hpl, hr, hf⟩ fun s' m' mv kk st' => hQ _ s' m' _ _ mv kk (fun b w => w.elim .inl fun e => .inr ⟨_, e ▸ hpl⟩) st'
  | md + 2, hmd =>
    obtain ⟨rows, e1, e2⟩ := Option.bind_eq_some_iff.mp hmd
    split at e2
    · next hnum =>
      cases e2
      obtain ⟨ds, hv, hnd, hds⟩ := hrows (by lia)
      obtain ⟨h1, h2, h3⟩ := rows_of e1 hv hr
      refine st.store xx eo hk (sv := .mgr rows) (o := D :: ds) (W' := fun b => W b ∨ b ∈ D :: ds) hx hsl (fun b => Iff.rfl) (fun a h => ?_) (List.nodup_cons.mpr ⟨fun q => h2 D q (.inr rfl), hnd⟩) ⟨D, ds, rfl, fun a h => .inr h, rfl, by rw [← hv]; exact hpl, h1.nums hnum, by rw [h3]; exact hf⟩ fun s' m' mv kk st' => hQ _ s' m' _ _ mv kk (fun b w => w.elim .inl fun e => .inr ((List.mem_cons.mp e).elim (fun e => ⟨_, e ▸ hpl⟩) fun e => h1.own b e)) st'
      rcases List.mem_cons.mp h with rfl | h
      · exact hD
      · exact hds a h
    · cases e2
end
end Mine
end

section
open PySem PySem.W PyProof.Rows
set_option Elab.async false
set_option tactic.hygienic false
set_option maxRecDepth 100000
set_option linter.unusedVariables false


namespace Mine
section
variable {G : Gl} {W : Addr → Prop} {k : Nat} {names : List Str} {sc : List (Str × NameKind)} {A : Around} {s : Shared} {E : Value → Shared → Prop} {env : Env} {sl : List Slot} {m : Str → Option Value} {os : Nat → List Addr} {va : Nat → Option Value}

noncomputable def newF (md i : Nat) (f : List Slot → Option (List AV)) : List Slot → Option (Fl × List Slot) := fun sl => (f sl).bind fun xs => if firmL xs = true then (newSlot md xs).bind fun sv => (putS sl i sv).map fun sl' => (.next, sl') else none

theorem newF_some {md i : Nat} {f : List Slot → Option (List AV)} {fl : Fl} {sl' : List Slot} (h : newF md i f sl = some (fl, sl')) : ∃ xs sv old, f sl = some xs ∧ firmL xs = true ∧ newSlot md xs = some sv ∧ sl[i]? = some old ∧ fl = .next ∧ sl' = sl.set i sv := by
  obtain ⟨xs, h1, h2⟩ := Option.bind_eq_some_iff.mp h
  split at h2
  · next hf =>
    obtain ⟨sv, h3, h4⟩ := Option.bind_eq_some_iff.mp h2
    obtain ⟨sl1, h5, h6⟩ := Option.map_eq_some_iff.mp h4
    cases h6
    obtain ⟨rfl, old, ho⟩ := putS_some h5
    exact ⟨xs, sv, old, h1, hf, h3, ho, rfl, rfl⟩
  · cases h2

noncomputable def numsOnly : AV → Option (List AV)
  | .lst xs => if (asInts xs).isSome = true then some xs else none
  | _ => none
theorem numsOnly_some {a : AV} {xs : List AV} (h : numsOnly a = some xs) : a = .lst xs ∧ (asInts xs).isSome = true := by
  cases a <;> first | (cases h; done) | skip
  simp only [numsOnly] at h
  split at h
  case isFalse => cases h
  case isTrue hn => cases h; exact ⟨rfl, hn⟩
theorem StS.assignNew {i md : Nat} {x : Str} {p q : Pos} {e : Expr} {f : List Slot → Option AV} (hmd : md < 2) (hx : names[i]? = some x) (he : ∀ W, EvB true G W k names sc e f) (hs : ∀ env, swapsWith e (some (.Name x p)) q.line env = pure false) :
    StS G k names sc (.Assign [.Name x p] e q) (newF md i (fun sl => (f sl).bind numsOnly)) := by
  intro A W env s sl m os va ro ef eo st fl sl' hf Q hQ
  obtain ⟨xs, sv, old, h1, hfi, hn, ho, rfl, rfl⟩ := newF_some hf
  obtain ⟨av, h1, h2⟩ := Option.bind_eq_some_iff.mp h1
  -- evaluated where the list's own address is thought of as written
  refine wpAny_Assign_Name (he W A env s sl ro ef st.rs st.base av h1 _ fun v s₁ x₁ r₁ fr => ?_) (hs env)
  obtain ⟨D, rfl, hD⟩ := fr rfl
  obtain ⟨rfl, hnum⟩ := numsOnly_some h2
  obtain ⟨a, vs, ea, nw, hpl, hr⟩ := r₁
  cases ea
  match md, hn with
  | 0, hn =>
    cases hn
    exact store_val st x₁ eo ef.kind hx ho (a := .lst xs) ⟨_, vs, rfl, nw, hpl, hr⟩ hfi fun s' m' os' va' mv zq st' => hQ W s' m' os' va' .next mv st' rfl
  | 1, hn =>
    exact store_new st x₁ eo ef.kind hx ho hD hpl (hr.nums hnum) hfi hn (fun q => by lia) fun W' s' m' os' va' mv zq zq st' => hQ W' s' m' os' va' .next mv st' rfl
  | md + 2, _ => lia

mutual
theorem RepV.skip {W : Addr → Prop} {h h' : Heap} (hk : ∀ b o xs n, h.get? b = some o → o.data = .seq xs n → h'.get? b = some o) : ∀ (x : AV) (v : Value), RepV W h x v → RepV W h' x v
  | .none, _, r | .bool _, _, r | .int _, _, r | .str _, _, r => r
  | .tup xs, v, ⟨a, vs, e, hw, ⟨o, ho, hc, cp, hd⟩, r⟩ => ⟨a, vs, e, hw, ⟨o, hk a o _ _ ho hd, hc, cp, hd⟩, RepL.skip hk xs vs r⟩
  | .lst xs, v, ⟨a, vs, e, hw, ⟨cp, ho⟩, r⟩ => ⟨a, vs, e, hw, ⟨cp, hk a _ _ _ ho rfl⟩, RepL.skip hk xs vs r⟩
  | .mut xs, v, ⟨a, vs, e, ⟨cp, ho⟩, r⟩ => ⟨a, vs, e, ⟨cp, hk a _ _ _ ho rfl⟩, RepL.skip hk xs vs r⟩
  | .view xs, v, ⟨a, vs, e, ⟨o, ho, hc, cp, hd⟩, r⟩ => ⟨a, vs, e, ⟨o, hk a o _ _ ho hd, hc, cp, hd⟩, RepL.skip hk xs vs r⟩
theorem RepL.skip {W : Addr → Prop} {h h' : Heap} (hk : ∀ b o xs n, h.get? b = some o → o.data = .seq xs n → h'.get? b = some o) : ∀ (xs : List AV) (vs : List Value), RepL W h xs vs → RepL W h' xs vs
  | [], _, r => r
  | x :: xs, _, ⟨v, q, e, a, b⟩ => ⟨v, q, e, RepV.skip hk x v a, RepL.skip hk xs q b⟩
end
theorem RepRows.skip {W : Addr → Prop} {h h' : Heap} (hk : ∀ b o xs n, h.get? b = some o → o.data = .seq xs n → h'.get? b = some o) : ∀ {rs : List (List AV)} {ds : List Addr}, RepRows W h rs ds → RepRows W h' rs ds
  | [], _, r => r
  | _ :: _, _, ⟨d, q, vs, e, ⟨cp, l⟩, r, rr⟩ => ⟨d, q, vs, e, ⟨cp, hk _ _ _ _ l rfl⟩, RepL.skip hk _ _ r, RepRows.skip hk rr⟩
theorem SlotOwn.skip {W : Addr → Prop} {h h' : Heap} (hk : ∀ b o xs n, h.get? b = some o → o.data = .seq xs n → h'.get? b = some o) {sv : Slot} {o : List Addr} {ov : Option Value} (r : SlotOwn W h sv o ov) : SlotOwn W h' sv o ov := by
  cases sv with
  | unset => exact r
  | val x => obtain ⟨e, v, q, rv, f⟩ := r; exact ⟨e, v, q, rv.skip hk, f⟩
  | mls xs => obtain ⟨d, vs, e, w, q, ⟨cp, l⟩, rl, f⟩ := r; exact ⟨d, vs, e, w, q, ⟨cp, hk _ _ _ _ l rfl⟩, rl.skip hk, f⟩
  | mgr rows => obtain ⟨d, ds, e, w, q, ⟨cp, l⟩, rl, f⟩ := r; exact ⟨d, ds, e, w, q, ⟨cp, hk _ _ _ _ l rfl⟩, rl.skip hk, f⟩
  | scr xs => obtain ⟨e, d, vs, q, nw, ⟨ob, ho, hc, cp, hd⟩, rl, f⟩ := r; exact ⟨e, d, vs, q, nw, ⟨ob, hk d ob _ _ ho hd, hc, cp, hd⟩, rl.skip hk, f⟩

theorem StX.skip (st : StX G W env names sl s m os va) {X : Addr → Prop} {h' : Heap} {tk : Nat} (hk : ∀ b o, ¬ X b → s.heap.get? b = some o → h'.get? b = some o) (tb : TB G.start h') (hX : ∀ b, X b → ¬ W b ∧ G.h₀.get? b = none ∧ ∀ o xs n, s.heap.get? b = some o → o.data ≠ .seq xs n) :
    StX G W env names sl { s with heap := h', toks := tk } m os va where
  base := ⟨fun b o e hs => hk b o (fun q => by rw [(hX b q).2.1] at e; cases e) (st.base.keep b o e hs), (fun b e => by
    by_cases q : X b
    · exact (hX b q).2.1
    · refine st.base.gone b ?_
      cases q' : s.heap.get? b with
      | none => rfl
      | some o => have e : h'.get? b = none := e; rw [hk b o q q'] at e; cases e), tb, fun b w => ⟨by
    obtain ⟨o, ho⟩ := Option.isSome_iff_exists.mp (st.base.above b w).1
    show (h'.get? b).isSome = true
    rw [hk b o (fun q => (hX b q).1 w) ho]; rfl, (st.base.above b w).2⟩⟩
  wl := st.wl
  wc := st.wc
  ns := let ⟨o, es, ep, e, r⟩ := st.ns; ⟨o, es, ep, hk _ _ (fun q => (hX _ q).1 st.wl) e, r⟩
  slots := fun i y sv hy hs => ⟨by
    rcases (st.slots i y sv hy hs).1 with q | ⟨a, c, b, o, e, r⟩
    · exact .inl q
    · exact .inr ⟨a, c, b, o, hk _ _ (fun q => (hX _ q).1 (st.wc _ _ b)) e, r⟩, (st.slots i y sv hy hs).2.skip fun b o xs n e d => hk b o (fun q => (hX b q).2.2 o xs n e d) e⟩
  nodup := st.nodup
  apart := st.apart
  isls := fun i a h => ⟨(st.isls i a h).1, let ⟨us, cp, l⟩ := (st.isls i a h).2; ⟨us, cp, hk _ _ (fun q => (hX _ q).1 (st.isls i a h).1) l⟩⟩

noncomputable def asg (x : Str) (p : Pos) (env : Env) : Value → Sem Unit := PySem.assign (.Name x p) env
theorem StS.assignComp {fr : Bool} {md i : Nat} {x y : Str} {p py q : Pos} {iter elt : Expr} {ifs : List Expr} {scope : Scope} {pos : Pos} (ix : List Nat) {fi : List Slot → Option (List AV)} {ft : List Slot → Option Bool} {fe : List Slot → Option AV}
    (hx : names[i]? = some x) (chk : compChk sc scope.names names y ix = true) (hsk : scope.kind = .function)
    (ci : ∀ W, EvI G W k names sc iter fi) (ct : ∀ W, TestsS G W k (cvars names y ix) (relab sc scope.names) ifs ft) (ce : ∀ W, EvB fr G W k (cvars names y ix) (relab sc scope.names) elt fe) (hfr : md < 2 ∨ fr = true)
    (hs : ∀ env x, foldedSetIterable iter env x = pure x) :
    StS G k names sc (.Assign [.Name x p] (.ListComp elt [⟨.Name y py, iter, ifs, 0⟩] scope pos) q) (newF md i (compF fi ft fe ix)) := by
  intro A W env s sl m os va ro ef eo st fl sl' hf Q hQ
  obtain ⟨xs, sv, old, h1, hfi, hn, ho, rfl, rfl⟩ := newF_some hf
  cases hsw : (env.blockKind == .function && env.kindOf x == some .local && p.line == pos.line && !(scope.names.any fun (n, k) => n == x && (k == .local || k == .cell)))
  · refine wpAny_Assign_Name (comp_plain (fr := fr) chk hsk (ci W) ct ce ro ef st.rs st.base h1 (fun D s₁ vs xx hD hpl hr hfl hrows => ?_) (hs env)) ?_
    · refine store_new st xx eo ef.kind hx ho hD hpl hr hfi hn (fun q => hrows (hfr.resolve_left (by lia))) fun W' s' m' os' va' mv zq zq st' => hQ W' s' m' os' va' .next mv st' rfl
    · show (do return _ : Sem Bool) = _
      exact congrArg pure hsw
  · have hsw' : swapsWith (.ListComp elt [⟨.Name y py, iter, ifs, 0⟩] scope pos) (some (.Name x p)) q.line env = pure true := by
      show (do return _ : Sem Bool) = _
      exact congrArg pure hsw
    rw [exec_Assign_Name_used _ _ _ _ hsw']
    refine wpAny_bind (wpAny_standAt (wpAny_bind ?_))
    show wpAny _ A (do let _ ← comprehension (.ListComp elt [⟨.Name y py, iter, ifs, 0⟩] scope pos) scope env _ (newList []) false (eval iter env) (some (Mine.asg x p env))) _ _ s
    obtain ⟨items, i1, i2⟩ := Option.bind_eq_some_iff.mp h1
    split at i2
    · next hc =>
      refine wpAny_bind (wpAny_mono (comp_core (use := some (Mine.asg x p env)) (fr := fr) (Q := fun zq s' => Q .next s') chk hsk (ci W) ct ce ro ef st.rs st.base i1 hc.1 hc.2 i2 (fun D C s₁ vs xx hD hC hDC hns hpl hrl hfl hrows => ?_) (hs env)) (fun zq s' hq => wpAny_pure (wpAny_pure hq)) fun zq zq f => f.elim)
      obtain ⟨mm, hns⟩ := hns
      have nWC : ¬ W C := st.base.new hC
      refine wpAny_assign_Name (store_new st xx eo ef.kind hx ho hD hpl (hrl.weaken (fun b w => by rcases w with w | w; exact .inl w; exact .inr (.inl w))) hfl hn (fun q => hrows (hfr.resolve_left (by lia))) fun W' s' m' os' va' mv kk hls st' => ?_)
      have hns' : s'.heap.Ns C mm := let ⟨o, es, ep, e, r⟩ := hns; ⟨o, es, ep, kk _ _ nWC e (solid_dict r.1), r⟩
      refine ⟨mm, hns', fun h' sb => ?_⟩
      have nW'C : ¬ W' C := fun w => by
        rcases hls C w with w | ⟨us, l⟩
        · exact nWC w
        · exact Ns.ne_list hns l rfl
      have hMC : C ≠ mainGlobals := fun q => by
        obtain ⟨mg, o', _, _, e', _⟩ := st.base.tb.main
        rw [← q, hC] at e'; cases e'
      have tb' : TB G.start h' := by obtain ⟨oc, e, c⟩ := codey_ns hns'; exact st'.base.tb.change (fun b o hb e => sb.extBut b o hb e) hMC e c
      refine hQ W' _ m' os' va' .next ⟨?_, fun b o w e hs => ?_, fun b e => ?_, mv.more, mv.new⟩ (st'.skip (X := fun b => b = C) (fun b o nb e => sb.extBut b o nb e) tb' fun b q => ⟨q ▸ nW'C, q ▸ st.base.gone _ hC, fun o xs n e d => by obtain ⟨o', es, ep, e1, e2, _⟩ := hns'; rw [q, e1] at e; cases e; rw [e2] at d; cases d⟩) rfl
      · obtain ⟨hh, tt, e⟩ := mv.same
        exact ⟨h', tt, by rw [e]⟩
      · exact sb.extBut b o (fun q => by rw [q, hC] at e; cases e) (mv.kept b o w e hs)
      · by_cases q : b = C
        · rw [q]; exact hC
        · exact mv.gone b (by rw [← sb.2 b q]; exact e)
    · cases i2
end
end Mine
end

section
open PySem PySem.W PyProof.Rows
set_option Elab.async false
set_option tactic.hygienic false
set_option maxRecDepth 100000
set_option linter.unusedVariables false


namespace Mine
section
variable {G : Gl} {W : Addr → Prop} {k : Nat} {names : List Str} {sc : List (Str × NameKind)} {A : Around} {s : Shared} {E : Value → Shared → Prop} {env : Env} {sl : List Slot} {m : Str → Option Value} {os : Nat → List Addr} {va : Nat → Option Value}

noncomputable def augInt (op : Operator) (x y : Int) : Option Int := match op with
  | .Add => some (x + y)
  | .Sub => some (x - y)
  | .Mult => if small x && small y then some (x * y) else none
  | _ => none
theorem aug_sound {op : Operator} {x y r : Int} {t u : Tok} (e : augInt op x y = some r) {Q : Value → Shared → Prop} (h : Q (.int r s.toks) { s with toks := s.toks + 1 }) : wpAny G.M A (inplaceOp op (.int x t) (.int y u)) Q E s := by
  cases op <;> simp only [augInt] at e <;> try (cases e; done)
  case Add => cases e; exact wpAny_iadd_int h
  case Sub => cases e; exact PyProof.Rows.isub_int h
  case Mult => split at e
               · next q => cases e; rw [Bool.and_eq_true] at q; exact PyProof.Rows.imul_int h (small_mul q.1 q.2)
               · cases e
noncomputable def augV (op : Operator) (a b : AV) : Option AV := match a, b with
  | .int x, .int y => (augInt op x y).map .int
  | _, _ => none
theorem augV_sound {op : Operator} {a b r : AV} {v u : Value} (ra : RepV W s.heap a v) (rb : RepV W s.heap b u) (e : augV op a b = some r) {Q : Value → Shared → Prop} (h : ∀ v' s', Ext s s' → RepV W s'.heap r v' → r.firm = true → Q v' s') : wpAny G.M A (inplaceOp op v u) Q E s := by
  unfold augV at e
  split at e
  · obtain ⟨t, rfl⟩ := ra
    obtain ⟨t', rfl⟩ := rb
    obtain ⟨i, e1, rfl⟩ := Option.map_eq_some_iff.mp e
    exact aug_sound e1 (h _ _ .tok ⟨_, rfl⟩ rfl)
  · cases e

noncomputable def augF (i : Nat) (op : Operator) (f : List Slot → Option AV) : List Slot → Option (Fl × List Slot) := fun sl => match sl[i]? with
  | some (.val a) => (f sl).bind fun b => (augV op a b).bind fun r => some (.next, sl.set i (.val r))
  | _ => none
set_option tactic.hygienic true in
theorem StS.aug {i : Nat} {x : Str} {p q : Pos} {op : Operator} {e : Expr} {f : List Slot → Option AV} (hx : names[i]? = some x) (he : ∀ W, EvS G W k names sc e f) :
    StS G k names sc (.AugAssign (.Name x p) op e q) (augF i op f) := by
  intro A W env s sl m os va ro ef eo st fl sl' hf Q hQ
  unfold augF at hf
  split at hf
  · next a hsl =>
    obtain ⟨b, h1, hf⟩ := Option.bind_eq_some_iff.mp hf
    obtain ⟨r, h2, hf⟩ := Option.bind_eq_some_iff.mp hf
    cases hf
    obtain ⟨ld, _, v, hv, rv, _⟩ := st.slots i x _ hx hsl
    rw [hv] at ld
    refine wpAny_AugAssign_Name ?_
    have go : wpAny G.M A (eval e env) (fun v_1 s₂ => wpAny G.M A (inplaceOp op v v_1) (fun r s₃ => wpAny G.M A (storeName env x r) (fun zq => Q .next) (fun zq zq => False) s₃) (fun zq zq => False) s₂) (fun zq zq => False) s := by
      refine he W A env s sl ro ef st.rs st.base b h1 _ fun u s₁ x₁ r₁ => ?_
      refine augV_sound (rv.grow x₁.kept) r₁ h2 fun v' s₂ x₂ r₂ hfi => ?_
      exact store_val st (x₁.trans x₂) eo ef.kind hx hsl r₂ hfi fun s' m' os' va' mv zq st' => hQ W s' m' os' va' .next mv st' rfl
    rcases ld with ⟨a, e⟩ | ⟨a, c, b, e⟩
    · exact wpAny_loadName_local ef.kind a st.ns e go
    · exact wpAny_loadName_cell ef.kind a b e go
  · cases hf

noncomputable def ifF (c : List Slot → Option AV) (f g : List Slot → Option (Fl × List Slot)) : List Slot → Option (Fl × List Slot) := fun sl => (c sl).bind fun a => (truth a).bind fun b => if b = true then f sl else g sl
theorem StS.ite {test : Expr} {body orelse : List Stmt} {q : Pos} {c : List Slot → Option AV} {f g : List Slot → Option (Fl × List Slot)} (hc : ∀ W, TsS G W k names sc test c) (hb : SsS G k names sc body f) (ho : SsS G k names sc orelse g) :
    StS G k names sc (.If test body orelse q) (ifF c f g) := by
  intro A W env s sl m os va ro ef eo st fl sl' hf Q hQ
  obtain ⟨a, h1, hf⟩ := Option.bind_eq_some_iff.mp hf
  obtain ⟨b, h2, hf⟩ := Option.bind_eq_some_iff.mp hf
  refine wpAny_If (hc W A env s sl ro ef st.rs st.base a b h1 h2 _ fun s₁ x₁ => ?_)
  have st₁ := st.ext x₁
  cases b with
  | true =>
    rw [if_pos rfl] at hf ⊢
    exact hb A W env s₁ sl m os va ro ef eo st₁ fl sl' hf Q fun W' s' m' os' va' flow mv st' fr => hQ W' s' m' os' va' flow ((Mov.ext x₁).trans mv) st' fr
  | false =>
    rw [if_neg (by decide)] at hf ⊢
    exact ho A W env s₁ sl m os va ro ef eo st₁ fl sl' hf Q fun W' s' m' os' va' flow mv st' fr => hQ W' s' m' os' va' flow ((Mov.ext x₁).trans mv) st' fr

noncomputable def AV.flat : AV → Bool
  | .none | .bool _ | .int _ | .str _ => true
  | _ => false
noncomputable def flatV (a : AV) : Option AV := if a.flat = true then some a else none
noncomputable def flatLV : AV → Option AV
  | .lst xs => if xs.all AV.flat = true then some (.lst xs) else none
  | .tup xs => if xs.all AV.flat = true then some (.tup xs) else none
  | _ => none
theorem RepV.any {W W' : Addr → Prop} {h : Heap} {a : AV} {v : Value} (f : a.flat = true) (r : RepV W h a v) : RepV W' h a v := by
  cases a <;> first | exact r | cases f
theorem RepL.any {W W' : Addr → Prop} {h : Heap} : ∀ {xs : List AV} {vs : List Value}, xs.all AV.flat = true → RepL W h xs vs → RepL W' h xs vs
  | [], _, _, r => r
  | x :: xs, _, f, ⟨v, q, e, a, b⟩ => by
    simp only [List.all_cons, Bool.and_eq_true] at f
    exact ⟨v, q, e, a.any f.1, RepL.any f.2 b⟩
noncomputable def retF (f : List Slot → Option AV) : List Slot → Option (Fl × List Slot) := fun sl => (f sl).map fun a => (.ret a, sl)
theorem StS.ret {e : Expr} {q : Pos} {f : List Slot → Option AV} (he : ∀ W, EvS G W k names sc e f) : StS G k names sc (.Return (some e) q) (retF fun sl => (f sl).bind flatV) := by
  intro A W env s sl m os va ro ef eo st fl sl' hf Q hQ
  obtain ⟨a, h0, h2⟩ := Option.map_eq_some_iff.mp hf
  obtain ⟨a', h1, h3⟩ := Option.bind_eq_some_iff.mp h0
  cases h2
  unfold flatV at h3
  split at h3
  · next hfl =>
    cases h3
    exact wpAny_Return_some (he W A env s sl ro ef st.rs st.base a h1 _ fun v s₁ x₁ r₁ => hQ W s₁ m os va _ (.ext x₁) (st.ext x₁) ⟨v, rfl, r₁.any hfl⟩)
  · cases h3
theorem StS.retNew {e : Expr} {q : Pos} {f : List Slot → Option AV} (he : ∀ W, EvB true G W k names sc e f) : StS G k names sc (.Return (some e) q) (retF fun sl => (f sl).bind flatLV) := by
  intro A W env s sl m os va ro ef eo st fl sl' hf Q hQ
  obtain ⟨a, h0, h2⟩ := Option.map_eq_some_iff.mp hf
  obtain ⟨a', h1, h3⟩ := Option.bind_eq_some_iff.mp h0
  cases h2
  refine wpAny_Return_some (he W A env s sl ro ef st.rs st.base a' h1 _ fun v s₁ x₁ r₁ fr => hQ W s₁ m os va _ (.ext x₁) (st.ext x₁) ⟨v, rfl, ?_⟩)
  obtain ⟨d, rfl, hd⟩ := fr rfl
  have nd : ¬ (G.h₀.get? d).isSome = true := by rw [st.base.gone d hd]; decide
  unfold flatLV at h3
  split at h3
  · split at h3
    · next hfl =>
      cases h3
      obtain ⟨a, vs, e, _, l, r⟩ := r₁
      cases e
      exact ⟨d, vs, rfl, nd, l, r.any hfl⟩
    · cases h3
  · split at h3
    · next hfl =>
      cases h3
      obtain ⟨a, vs, e, _, l, r⟩ := r₁
      cases e
      exact ⟨d, vs, rfl, nd, l, r.any hfl⟩
    · cases h3
  · cases h3

noncomputable def whileF (c : List Slot → Option AV) (f : List Slot → Option (Fl × List Slot)) : Nat → List Slot → Option (Fl × List Slot)
  | 0, _ => none
  | n + 1, sl => (c sl).bind fun a => (truth a).bind fun b => if b = true then (f sl).bind fun r => match r.1 with
      | .next | .cont => whileF c f n r.2
      | .brk => some (.next, r.2)
      | .ret v => some (.ret v, r.2)
    else some (.next, sl)

theorem noE' {α : Type} {t : Sem α} {Q : α → Shared → Prop} (h : wpAny G.M A t Q (fun zq zq => False) s) : wpAny G.M A t Q E s := wpAny_mono h (fun zq zq q => q) fun zq zq f => f.elim

noncomputable def PFl (J : Shared → Prop) (Q : Flow → Shared → Prop) : Flow → Shared → Prop
  | .next, s => J s
  | .cont, s => J s
  | .brk, s => Q .next s
  | .ret v, s => Q (.ret v) s
noncomputable def PWh (M : Model) (A : Around) (body : List Stmt) (env : Env) (J : Shared → Prop) (Q : Flow → Shared → Prop) (b : Bool) (s : Shared) : Prop := if b = true then wpAny M A (execs body env) (PFl J Q) (fun zq zq => False) s else Q .next s
theorem while_loop {prog : Program} {w : World} {R : Result → Shared → Prop} {test : Expr} {body : List Stmt} {env : Env} {Q : Flow → Shared → Prop} (I : Nat → Shared → Prop)
    (turn : ∀ n s (J : Shared → Prop), (∀ m s', m < n → I m s' → J s') → I n s → wpAny (model prog w) A (isTrue test env (eval test env)) (PWh (model prog w) A body env J Q) (fun zq zq => False) s)
    (hR : ∀ f s', Q f s' → R (.ok f) s') (n : Nat) (h : I n s) : codeAny (model prog w) A (.whileLoop test body [] env) R s := by
  refine codeAny_whileLoop I (fun n s' h => wpAny_mono (turn n s' (fun s₅ => ∃ m, m < n ∧ I m s₅) (fun m s' a b => ⟨m, a, b⟩) h) (fun b s₁ h₁ => ?_) fun zq zq f => f.elim) n h
  cases b with
  | false => exact wpAny_execs_nil (hR _ _ h₁)
  | true =>
    refine wpAny_mono (show wpAny _ _ _ _ _ _ from h₁) (fun f s₂ h₂ => ?_) fun zq zq f => f.elim
    cases f with
    | next => exact h₂
    | cont => exact h₂
    | brk => exact hR _ _ h₂
    | ret v => exact hR _ _ h₂
inductive WInv (G : Gl) (W : Addr → Prop) (env : Env) (names : List Str) (s : Shared) (F : Nat → List Slot → Option (Fl × List Slot)) (r : Fl × List Slot) : Nat → Shared → Prop
  | mk (n : Nat) (s₁ : Shared) (W₁ : Addr → Prop) (sl₁ : List Slot) (m₁ : Str → Option Value) (os₁ : Nat → List Addr) (va₁ : Nat → Option Value) (mv : Mov W W₁ s s₁) (st : StX G W₁ env names sl₁ s₁ m₁ os₁ va₁) (hf : F n sl₁ = some r) : WInv G W env names s F r n s₁
theorem StS.while {test : Expr} {body : List Stmt} {q : Pos} {c : List Slot → Option AV} {f : List Slot → Option (Fl × List Slot)} (n : Nat) (hc : ∀ W, TsS G W k names sc test c) (hb : SsS G k names sc body f) :
    StS G k names sc (.While test body [] q) (whileF c f n) := by
  intro A W env s sl m os va ro ef eo st fl sl' hf Q hQ
  refine wpAny_While (while_loop (Q := Q) (WInv G W env names s (whileF c f) (fl, sl')) ?_ (fun zq zq h => h) n (.mk n s W sl m os va (.refl W s) st hf))
  rintro n s₁ J hJ ⟨W₁, sl₁, m₁, os₁, va₁, mv₁, st₁, hf₁⟩
  cases n with
  | zero => cases hf₁
  | succ n =>
    obtain ⟨a, h1, hf₁⟩ := Option.bind_eq_some_iff.mp hf₁
    obtain ⟨b, h2, hf₁⟩ := Option.bind_eq_some_iff.mp hf₁
    refine hc W₁ A env s₁ sl₁ ro ef st₁.rs st₁.base a b h1 h2 _ fun s₂ x₂ => ?_
    have mv₂ := mv₁.trans (Mov.ext x₂)
    have st₂ := st₁.ext x₂
    cases b with
    | false =>
      cases hf₁
      exact hQ W₁ s₂ m₁ os₁ va₁ .next mv₂ st₂ rfl
    | true =>
      rw [if_pos rfl] at hf₁
      obtain ⟨⟨fl1, sl1⟩, h3, hf₁⟩ := Option.bind_eq_some_iff.mp hf₁
      refine hb A W₁ env s₂ sl₁ m₁ os₁ va₁ ro ef eo st₂ fl1 sl1 h3 _ fun W₃ s₃ m₃ os₃ va₃ flow mv₃ st₃ fr => ?_
      have mv := mv₂.trans mv₃
      cases fl1 with
      | next => cases (show flow = .next from fr); exact hJ n _ (Nat.lt_succ_self n) (.mk n s₃ W₃ sl1 m₃ os₃ va₃ mv st₃ hf₁)
      | cont => cases (show flow = .cont from fr); exact hJ n _ (Nat.lt_succ_self n) (.mk n s₃ W₃ sl1 m₃ os₃ va₃ mv st₃ hf₁)
      | brk => cases (show flow = .brk from fr); cases hf₁; exact hQ W₃ s₃ m₃ os₃ va₃ .next mv st₃ rfl
      | ret v => obtain ⟨u, e, r⟩ := fr; cases e; cases hf₁; exact hQ W₃ s₃ m₃ os₃ va₃ _ mv st₃ ⟨u, rfl, r⟩

noncomputable def forF (i : Nat) (f : List Slot → Option (Fl × List Slot)) : List AV → List Slot → Option (Fl × List Slot)
  | [], sl => some (.next, sl)
  | x :: r, sl => if x.firm = true then (putS sl i (.val x)).bind fun sl1 => (f sl1).bind fun q => match q.1 with
      | .next | .cont => forF i f r q.2
      | .brk => some (.next, q.2)
      | .ret v => some (.ret v, q.2)
    else none

noncomputable def PBd (M : Model) (A : Around) (body : List Stmt) (env : Env) (J : Shared → Prop) (Q : Flow → Shared → Prop) (_ : Unit) (s : Shared) : Prop := wpAny M A (execs body env) (PFl J Q) (fun zq zq => False) s
noncomputable def PFn (M : Model) (A : Around) (target : Expr) (body : List Stmt) (env : Env) (J : Shared → Prop) (Q : Flow → Shared → Prop) (r : Option Value) (s : Shared) : Prop :=
  match r with
  | Option.none => Q .next s
  | some v => wpAny M A (assign target env v) (PBd M A body env J Q) (fun zq zq => False) s
theorem for_loop {prog : Program} {w : World} {R : Result → Shared → Prop} {x : Str} {p : Pos} {it : Value} {body : List Stmt} {env : Env} {Q : Flow → Shared → Prop} (I : Nat → Shared → Prop)
    (turn : ∀ n s (J : Shared → Prop), (∀ m s', m < n → I m s' → J s') → I n s → wpAny (model prog w) A (pyNext it) (PFn (model prog w) A (.Name x p) body env J Q) (fun zq zq => False) s)
    (hR : ∀ f s', Q f s' → R (.ok f) s') (n : Nat) (h : I n s) : codeAny (model prog w) A (.forLoop (.Name x p) it body [] env) R s := by
  refine codeAny_forLoop_any I (fun n s' h => wpAny_mono (turn n s' (fun s₅ => ∃ m, m < n ∧ I m s₅) (fun m s' a b => ⟨m, a, b⟩) h) (fun r s₁ h₁ => ?_) fun zq zq f => f.elim) n h
  cases r with
  | none => exact wpAny_execs_nil (hR _ _ h₁)
  | some v =>
    refine wpAny_pure (M := model prog w) (wpAny_mono (show wpAny _ _ _ _ _ _ from h₁) (fun zq s₂ h₂ => wpAny_mono (show wpAny _ _ _ _ _ _ from h₂) (fun f s₃ h₃ => ?_) fun zq zq f => f.elim) fun zq zq f => f.elim)
    cases f with
    | next => exact h₃
    | cont => exact h₃
    | brk => exact hR _ _ h₃
    | ret v => exact hR _ _ h₃
structure ForK (W W₁ : Addr → Prop) (wr : List Addr) (s₁ s' : Shared) : Prop where
  same : ∃ h tk, s' = { s₁ with heap := h, toks := tk }
  kept : ∀ b o, ¬ W b → b ∉ wr → s₁.heap.get? b = some o → tabby o = false → s'.heap.get? b = some o
  gone : ∀ b, s'.heap.get? b = Option.none → s₁.heap.get? b = Option.none
  more : ∀ b, W b → W₁ b
  new : ∀ b, W₁ b → (s₁.heap.get? b).isSome = true → W b
theorem ForK.mov {W W₁ : Addr → Prop} {wr : List Addr} {s s₁ s' : Shared} (x : Ext s s₁) (hwr : ∀ b ∈ wr, s.heap.get? b = Option.none) (K : ForK W W₁ wr s₁ s') : Mov W W₁ s s' := by
  refine ⟨?_, fun b o w e hs => K.kept b o w (fun q => by rw [hwr b q] at e; cases e) (x.kept b o e hs) hs, fun b e => x.gone (K.gone b e), K.more, fun b w e => K.new b w (x.some e)⟩
  obtain ⟨hh, tt, rfl, _⟩ := x; obtain ⟨h, tk, rfl⟩ := K.same; exact ⟨h, tk, rfl⟩
theorem ForK.wr {W W₁ : Addr → Prop} {wr : List Addr} {s₁ s' : Shared} {h : Heap} {tk : Nat} (K : ForK W W₁ wr s₁ s') (kk : ∀ b o, b ∉ wr → s'.heap.get? b = some o → h.get? b = some o) (e : ∀ b, h.get? b = Option.none → s₁.heap.get? b = Option.none) : ForK W W₁ wr s₁ { s' with heap := h, toks := tk } :=
  ⟨by obtain ⟨h', tk', rfl⟩ := K.same; exact ⟨h, tk, rfl⟩, fun b o w nb e hs => kk b o nb (K.kept b o w nb e hs), e, K.more, K.new⟩
theorem ForK.trans {W W₁ W₂ : Addr → Prop} {wr : List Addr} {s₁ s' s'' : Shared} (K : ForK W W₁ wr s₁ s') (mv : Mov W₁ W₂ s' s'') : ForK W W₂ wr s₁ s'' where
  same := by obtain ⟨h, tk, rfl⟩ := K.same; obtain ⟨h', tk', rfl⟩ := mv.same; exact ⟨h', tk', rfl⟩
  kept := fun b o w nb e hs => mv.kept b o (fun q => w (K.new b q (by rw [e]; rfl))) (K.kept b o w nb e hs) hs
  gone := fun b e => K.gone b (mv.gone b e)
  more := fun b w => mv.more b (K.more b w)
  new := fun b w e => K.new b (mv.new b w (by
    cases q : s'.heap.get? b with
    | none => rw [K.gone b q] at e; cases e
    | some o => rfl)) e
inductive FInv (G : Gl) (W : Addr → Prop) (env : Env) (names : List Str) (wr : List Addr) (s₁ : Shared) (St : Nat → Heap → Prop) (F : List AV → List Slot → Option (Fl × List Slot)) (r : Fl × List Slot) (xs : List AV) : Nat → Shared → Prop
  | mk (j : Nat) (s' : Shared) (W₁ : Addr → Prop) (sl₁ : List Slot) (m₁ : Str → Option Value) (os₁ : Nat → List Addr) (va₁ : Nat → Option Value) (hj : j ≤ xs.length) (st : StX G W₁ env names sl₁ s' m₁ os₁ va₁) (sti : St j s'.heap) (hf : F (xs.drop j) sl₁ = some r)
      (K : ForK W W₁ wr s₁ s') : FInv G W env names wr s₁ St F r xs (xs.length + 1 - j) s'
theorem forF_turn {i : Nat} {f : List Slot → Option (Fl × List Slot)} {xs : List AV} {j : Nat} {sl : List Slot} {r : Fl × List Slot} (hlt : j < xs.length) (h : forF i f (xs.drop j) sl = some r) :
    (xs[j]).firm = true ∧ (∃ old, sl[i]? = some old) ∧ ∃ fl1 sl2, f (sl.set i (.val xs[j])) = some (fl1, sl2) ∧ (match fl1 with
      | .next | .cont => forF i f (xs.drop (j + 1)) sl2
      | .brk => some (.next, sl2)
      | .ret v => some (.ret v, sl2)) = some r := by
  rw [List.drop_eq_getElem_cons hlt] at h
  unfold forF at h
  split at h
  · next hxf =>
    obtain ⟨sl1, h2, h⟩ := Option.bind_eq_some_iff.mp h
    obtain ⟨rfl, old, hold⟩ := putS_some h2
    obtain ⟨⟨fl1, sl2⟩, h3, h⟩ := Option.bind_eq_some_iff.mp h
    exact ⟨hxf, ⟨old, hold⟩, fl1, sl2, h3, h⟩
  · cases h
theorem StS.for {i : Nat} {x : Str} {p q : Pos} {iter : Expr} {body : List Stmt} {fi : List Slot → Option (List AV)} {f : List Slot → Option (Fl × List Slot)} (hx : names[i]? = some x) (ci : ∀ W, EvI G W k names sc iter fi) (hb : SsS G k names sc body f)
    (hs : ∀ env x, foldedSetIterable iter env x = pure x) : StS G k names sc (.For (.Name x p) iter body [] q) (fun sl => (fi sl).bind fun xs => forF i f xs sl) := by
  intro A W env s sl m os va ro ef eo st fl sl' hf Q hQ
  obtain ⟨xs, h1, hf⟩ := Option.bind_eq_some_iff.mp hf
  refine wpAny_For (ci W A env s sl ro ef st.rs st.base xs h1 _ fun I s₁ fp wr P St x₁ Wk st0 hfp hwr hfw hws hP => ?_) (hs env)
  have st₁ := st.ext x₁
  have nwr : ∀ b ∈ wr, ¬ W b ∧ G.h₀.get? b = none := fun b hb => ⟨st.base.new (hwr b hb), st.base.gone b (hwr b hb)⟩
  refine for_loop (Q := Q) (FInv G W env names wr s₁ St (forF i f) (fl, sl') xs) ?_ (fun zq zq h => h) (xs.length + 1)
    (.mk 0 s₁ W sl m os va (Nat.zero_le _) st₁ st0 hf ⟨⟨s₁.heap, s₁.toks, rfl⟩, fun zq zq zq zq e zq => e, fun zq e => e, fun zq w => w, fun zq w zq => w⟩)
  rintro _ s' J hJ ⟨j, _, W₁, sl₁, m₁, os₁, va₁, hj, stj, stI, hfj, K⟩
  have wr1 : ∀ b ∈ wr, ¬ W₁ b := fun b hb w => by
    obtain ⟨o, ho, _⟩ := (hws 0 _ st0).1 b hb
    exact (nwr b hb).1 (K.new b w (by rw [ho]; rfl))
  have skip : ∀ (h₁ : Heap) (tk₁ : Nat), (∀ b o, b ∉ wr → s'.heap.get? b = some o → h₁.get? b = some o) → StX G W₁ env names sl₁ { s' with heap := h₁, toks := tk₁ } m₁ os₁ va₁ := fun h₁ tk₁ kk₁ =>
    stj.skip (X := fun b => b ∈ wr) kk₁ (stj.base.tb.wr kk₁ (hws j _ stI).1) fun b hb => ⟨wr1 b hb, (nwr b hb).2, fun o xs n e d => by
      obtain ⟨o', ho', nd⟩ := (hws j _ stI).1 b hb
      rw [ho'] at e; cases e; exact (iterO_spec nd).2.2.1 _ _ d⟩
  by_cases hlt : j < xs.length
  · refine Wk.item j _ _ _ hlt stI fun v h₁ tk₁ hPv stI₁ kk₁ => ?_
    have stj₁ := skip h₁ tk₁ kk₁
    have gn₁ : ∀ b, h₁.get? b = none → s'.heap.get? b = none := none_wr kk₁ fun b hb => by obtain ⟨o, ho, _⟩ := (hws _ _ stI₁).1 b hb; rw [ho]; rfl
    have K₁ : ForK W W₁ wr s₁ { s' with heap := h₁, toks := tk₁ } := K.wr kk₁ fun b e => K.gone b (gn₁ b e)
    obtain ⟨t₁, ht₁⟩ : ∃ t : Shared, { s' with heap := h₁, toks := tk₁ } = t := ⟨_, rfl⟩
    have hh₁ : t₁.heap = h₁ := by rw [← ht₁]
    rw [ht₁] at stj₁ K₁ ⊢
    rw [← hh₁] at stI₁
    clear ht₁ kk₁ gn₁
    obtain ⟨hxf, ⟨old, hold⟩, fl1, sl2, h3, hfj⟩ := forF_turn hlt hfj
    have rx : RepV W₁ t₁.heap xs[j] v := RepV.firm (fun b o hb e hs => K₁.kept b o (fun q => hb (.inl q)) (fun q => hb (.inr q)) e hs) (fun b e w => .inl (K.new b w e)) _ _ hxf (hP j v xs[j] hPv (List.getElem?_eq_getElem hlt))
    refine wpAny_assign_Name (store_val stj₁ (.refl _) eo ef.kind hx hold rx hxf fun s₂ m₂ os₂ va₂ mv₂ zq st₂ => ?_)
    refine hb A W₁ env s₂ _ m₂ os₂ va₂ ro ef eo st₂ fl1 sl2 h3 _ fun W₃ s₃ m₃ os₃ va₃ flow mv₃ st₃ fr => ?_
    have mv := mv₂.trans mv₃
    have K₃ := K₁.trans mv
    have mvF := K₃.mov x₁ hwr
    have stI₃ : St (j + 1) s₃.heap := Wk.frame _ _ _ stI₁ fun b hb o e => mv.kept b o (fun q => by
      by_cases hbw : b ∈ wr
      · exact wr1 b hbw q
      · exact (hfw b hb hbw).1 (K.new b q (hfw b hb hbw).2)) e ((hws _ _ stI₁).2 b hb o e)
    cases fl1 with
    | next => cases (show flow = .next from fr); exact hJ (xs.length + 1 - (j + 1)) _ (by lia) (.mk (j + 1) s₃ W₃ sl2 m₃ os₃ va₃ hlt st₃ stI₃ hfj K₃)
    | cont => cases (show flow = .cont from fr); exact hJ (xs.length + 1 - (j + 1)) _ (by lia) (.mk (j + 1) s₃ W₃ sl2 m₃ os₃ va₃ hlt st₃ stI₃ hfj K₃)
    | brk => cases (show flow = .brk from fr); cases hfj; exact hQ W₃ _ m₃ os₃ va₃ .next mvF st₃ rfl
    | ret v => obtain ⟨u, e, r⟩ := fr; cases e; cases hfj; exact hQ W₃ _ m₃ os₃ va₃ _ mvF st₃ ⟨u, rfl, r⟩
  · obtain rfl : j = xs.length := Nat.le_antisymm hj (Nat.le_of_not_lt hlt)
    refine Wk.done _ _ _ stI fun h₁ tk₁ kk₁ => ?_
    rw [List.drop_length] at hfj
    cases hfj
    refine hQ W₁ _ m₁ os₁ va₁ .next ?_ (skip h₁ tk₁ kk₁) rfl
    refine ⟨?_, fun b o w e hs => kk₁ b o (fun q => by rw [hwr b q] at e; cases e) ((K.mov x₁ hwr).kept b o w e hs), fun b e => ?_, K.more, (K.mov x₁ hwr).new⟩
    · obtain ⟨h, t, e⟩ := (K.mov x₁ hwr).same; exact ⟨h₁, tk₁, by rw [e]⟩
    · by_cases m : b ∈ wr
      · exact hwr b m
      · refine x₁.gone (K.gone b ?_)
        cases q : s'.heap.get? b with
        | none => rfl
        | some o => rw [kk₁ b o m q] at e; cases e
end
end Mine
end

section
open PySem PySem.W PyProof.Rows
set_option Elab.async false
set_option tactic.hygienic false
set_option maxRecDepth 100000
set_option linter.unusedVariables false


namespace Mine
section
variable {G : Gl} {W : Addr → Prop} {k : Nat} {names : List Str} {sc : List (Str × NameKind)} {A : Around} {s : Shared} {E : Value → Shared → Prop} {env : Env} {sl : List Slot} {m : Str → Option Value} {os : Nat → List Addr} {va : Nat → Option Value}

theorem update_plain {h : Heap} {l : Addr} {items : Array Value} (f : Array Value → Array Value) (hl : h.PlainList l items) : (h.update l (Obj.mapSeq f)).PlainList l (f items) := by
  obtain ⟨n, ho⟩ := hl
  exact ⟨_, Heap.get?_update_self _ ho rfl⟩

theorem setItem_plain {l : Addr} {items : Array Value} {j : Int} {t : Tok} {v : Value} {Q : Unit → Shared → Prop} (hl : s.heap.PlainList l items)
    (h0 : 0 ≤ j) (hfit : j < 2 ^ 63) (hn : j < items.size)
    (hQ : ∀ h', h'.PlainList l (items.setIfInBounds j.toNat v) → Heap.SameBut l s.heap h' → Q () { s with heap := h' }) :
    wpAny G.M A (setItem (.ref l) (.int j t) v) Q E s := by
  have hp := hl
  obtain ⟨ne, ho⟩ := hl
  have hil : s.heap.IsList l items := ⟨_, ho, rfl, ne, rfl⟩
  unfold setItem
  try with_reducible refine wpAny_holding ?_
  first | refine wpAny_bind (wpAny_pure ?_) | skip
  refine wpAny_bind (wpAny_sequenceKey hil.typeIs (by decide) ?_)
  refine wpAny_bind (wpAny_callSpecial?_slot (name := Str.ofString "__setitem__") hil.typeIs slot_list_setitem
    (wpAny_call_entry slot_list_setitem hil.typeIs entry_list_setitem ?_ (args_list_setitem _ _ _)))
  show wpAny _ _ (Builtin.List.listSubscript? (.int j t) >>= _) _ _ s
  refine wpAny_bind (wpAny_listSubscript_int (fitsIndex_of h0 hfit) ?_)
  clear hfit
  obtain ⟨j, rfl⟩ := Int.eq_ofNat_of_zero_le h0
  have hj : j < items.size := by lia
  have hx' : items[j]? = some items[j] := Array.getElem?_eq_getElem hj
  show wpAny _ _ ((seqItemAt l j >>= fun r => pure (r.map (j, ·))) >>= _) _ _ s
  refine wpAny_bind (wpAny_bind (wpAny_seqItemAt ho rfl (wpAny_pure ?_)))
  rw [hx']
  show wpAny _ _ (setSeqItemAt l j v >>= _) _ _ s
  have hfin : (s.heap.update l (Obj.mapSeq (·.setIfInBounds j v))).PlainList l (items.setIfInBounds j v) := update_plain _ hp
  refine wpAny_bind (wpAny_setSeqItemAt ho rfl ?_)
  first
    | exact wpAny_bind (wpAny_pure (wpAny_pure ⟨.none, rfl, wpAny_pure (hQ _ hfin (Heap.SameBut.update ..))⟩))
    | exact wpAny_pure ⟨.none, rfl, wpAny_pure (hQ _ hfin (Heap.SameBut.update ..))⟩

theorem RepL.set {h : Heap} : ∀ {xs : List AV} {vs : List Value} (j : Nat) {x : AV} {v : Value}, RepL W h xs vs → RepV W h x v → RepL W h (xs.set j x) (vs.set j v)
  | [], _, j, _, _, r, _ => by rw [show _ = [] from r]; rfl
  | y :: xs, _, 0, x, v, ⟨u, q, e, a, b⟩, rx => by rw [e]; exact ⟨v, q, rfl, rx, b⟩
  | y :: xs, _, j + 1, x, v, ⟨u, q, e, a, b⟩, rx => by rw [e]; exact ⟨u, q.set j v, rfl, a, RepL.set j b rx⟩
theorem firmL_set {xs : List AV} {j : Nat} {x : AV} (h : firmL xs = true) (hx : x.firm = true) : firmL (xs.set j x) = true := by
  rw [firmL_iff] at *
  intro y hy
  rcases List.mem_or_eq_of_mem_set hy with q | q
  · exact h y q
  · rw [q]; exact hx

noncomputable def mls? : Slot → Option (List AV)
  | .mls xs => some xs
  | _ => none

theorem StX.list (st : StX G W env names sl s m os va) {i : Nat} {x : Str} {xs : List AV} (hx : names[i]? = some x) (hsl : sl[i]? = some (.mls xs)) :
    ∃ d vs, va i = some (.ref d) ∧ s.heap.PlainList d (List.toArray vs) ∧ RepL W s.heap xs vs ∧ firmL xs = true := by
  obtain ⟨_, d, vs, _, _, a, b, c, e⟩ := st.slots i x _ hx hsl
  exact ⟨d, vs, a, b, c, e⟩

noncomputable def setItemF (i : Nat) (fi fe : List Slot → Option AV) : List Slot → Option (Fl × List Slot) := fun sl => (fe sl).bind fun v => (fi sl).bind fun j => match sl[i]?.bind mls?, j with
  | some xs, .int j => if v.firm = true ∧ 0 ≤ j ∧ j < xs.length ∧ xs.length < 1000000 then some (.next, sl.set i (.mls (xs.set j.toNat v))) else none
  | _, _ => none
theorem mls_some {i : Nat} {xs : List AV} (h : sl[i]?.bind mls? = some xs) : sl[i]? = some (.mls xs) := by
  obtain ⟨sv, h1, h2⟩ := Option.bind_eq_some_iff.mp h
  cases sv <;> cases h2
  exact h1
set_option tactic.hygienic true in
theorem StS.setItem {i : Nat} {x : Str} {p sp q : Pos} {ie e : Expr} {fi fe : List Slot → Option AV} (hx : names[i]? = some x) (hd : (x == ("__debug__" : Str)) = false) (hi : ∀ W, EvS G W k names sc ie fi) (he : ∀ W, EvS G W k names sc e fe)
    (hs : ∀ env, swapsWith e (some (.Subscript (.Name x p) ie sp)) q.line env = pure false) :
    StS G k names sc (.Assign [.Subscript (.Name x p) ie sp] e q) (setItemF i fi fe) := by
  intro A W env s sl m os va ro ef eo st fl sl' hf Q hQ
  obtain ⟨v, h1, hf⟩ := Option.bind_eq_some_iff.mp hf
  obtain ⟨jv, h2, hf⟩ := Option.bind_eq_some_iff.mp hf
  split at hf
  · next xs j hxs =>
    split at hf
    · next hc =>
      cases hf
      have hsl := mls_some hxs
      refine wpAny_Assign_Subscript (he W A env s sl ro ef st.rs st.base v h1 _ fun u s₁ x₁ r₁ => ?_) (hs env)
      have st₁ := st.ext x₁
      obtain ⟨d, vs, hva, _⟩ := st₁.list hx hsl
      refine st₁.load ef hx hsl hva hd (hi W A env s₁ sl ro ef st₁.rs st₁.base _ h2 _ fun w s₂ x₂ r₂ => ?_)
      have st₂ := st₁.ext x₂
      obtain ⟨t, rfl⟩ := r₂
      obtain ⟨d', vs, hva', hpl, hrl, hfl⟩ := st₂.list hx hsl
      rw [hva] at hva'; cases hva'
      have hlen := hrl.length
      refine setItem_plain hpl hc.2.1 (by lia) (by rw [List.size_toArray, hlen]; exact hc.2.2.1) fun h' hpl' sb => ?_
      have hsv := st₂.setList (tk := s₂.toks) (xs' := xs.set j.toNat v) (vs' := vs.set j.toNat u) hx hsl hva sb (by simpa using hpl') (hrl.set _ (r₁.grow x₂.kept)) (firmL_set hfl hc.1)
      exact hQ W _ m os va .next (((Mov.ext x₁).trans (Mov.ext x₂)).trans hsv.1) hsv.2 rfl
    · cases hf
  · cases hf

theorem augItem_rule {M : Model} {o i : Expr} {pos' pos : Pos} {op : Operator} {value : Expr} {Q : Flow → Shared → Prop} (hn : notSlice i = true)
    (h : wpAny M A (eval o env) (fun ov s₁ => wpAny M A (eval i env) (fun iv s₂ => wpAny M A (getItem ov iv) (fun old s₃ =>
      wpAny M A (eval value env) (fun v s₄ => wpAny M A (inplaceOp op old v) (fun new s₅ =>
        wpAny M A (PySem.setItem ov iv new) (fun zq => Q .next) E s₅) E s₄) E s₃) E s₂) E s₁) E s) :
    wpAny M A (exec (.AugAssign (.Subscript o i pos') op value pos) env) Q E s := fun Γ p hΓ => by
  have e : exec (.AugAssign (.Subscript o i pos') op value pos) env = (do
    standAt pos
    let ov ← eval o env
    let iv ← holding [ov] (eval i env)
    let new ← holding [ov, iv] do
      standAt pos'
      let old ← getItem ov iv
      let v ← holding [old] (eval value env)
      standAt pos
      operate [old, v] (inplaceOp op old v)
    standAt pos'
    holding [new, ov, iv] (PySem.setItem ov iv new)
    release [new, ov, iv] []
    pure .next) := by cases i <;> first | rfl | cases hn
  simp only [e, Sem.wp_bind', Sem.wp_holding, Sem.wp_cmd_standAt, Sem.wp_operate, Sem.wp_release, Sem.wp_pure']
  exact Sem.wp_mono M Γ _ (fun ov p₁ s₁ h₁ => Sem.wp_mono M Γ _ (fun iv p₂ s₂ h₂ => Sem.wp_mono M Γ _ (fun old p₃ s₃ h₃ =>
    Sem.wp_mono M Γ _ (fun v zq s₄ h₄ => Sem.wp_mono M Γ _ (fun new p₅ s₅ h₅ => h₅ Γ _ hΓ) (fun zq zq zq h' => h') _ _ (h₄ Γ _ hΓ))
      (fun zq zq zq h' => h') _ _ (h₃ Γ p₃ hΓ)) (fun zq zq zq h' => h') _ _ (h₂ Γ _ hΓ)) (fun zq zq zq h' => h') _ _ (h₁ Γ p₁ hΓ))
    (fun zq zq zq h' => h') _ _ (h Γ _ hΓ)

noncomputable def augItemF (i : Nat) (op : Operator) (fi fe : List Slot → Option AV) : List Slot → Option (Fl × List Slot) := fun sl => (fi sl).bind fun j => (fe sl).bind fun v => match sl[i]?.bind mls?, j with
  | some xs, .int j => if 0 ≤ j ∧ j < xs.length ∧ xs.length < 1000000 then (xs[j.toNat]?).bind fun old => (augV op old v).bind fun r => if r.firm = true then some (.next, sl.set i (.mls (xs.set j.toNat r))) else none else none
  | _, _ => none
set_option tactic.hygienic true in
theorem StS.augItem {i : Nat} {x : Str} {p sp q : Pos} {op : Operator} {ie e : Expr} {fi fe : List Slot → Option AV} (hx : names[i]? = some x) (hd : (x == ("__debug__" : Str)) = false) (hi : ∀ W, EvS G W k names sc ie fi) (he : ∀ W, EvS G W k names sc e fe) (hn : notSlice ie = true) :
    StS G k names sc (.AugAssign (.Subscript (.Name x p) ie sp) op e q) (augItemF i op fi fe) := by
  intro A W env s sl m os va ro ef eo st fl sl' hf Q hQ
  obtain ⟨jv, h2, hf2⟩ := Option.bind_eq_some_iff.mp hf
  clear hf
  obtain ⟨v, h1, hf⟩ := Option.bind_eq_some_iff.mp hf2
  clear hf2
  split at hf
  · next xs j hxs =>
    split at hf
    · next hc =>
      obtain ⟨old, h3, hf⟩ := Option.bind_eq_some_iff.mp hf
      obtain ⟨r, h4, hf⟩ := Option.bind_eq_some_iff.mp hf
      split at hf
      · next hrf =>
        cases hf
        have hsl := mls_some hxs
        obtain ⟨d, vs, hva, _⟩ := st.list hx hsl
        refine augItem_rule hn (st.load ef hx hsl hva hd (hi W A env s sl ro ef st.rs st.base _ h2 _ fun w s₁ x₁ r₁ => ?_))
        have st₁ := st.ext x₁
        obtain ⟨t, rfl⟩ := r₁
        obtain ⟨d', vs1, hva', hpl, hrl, hfl⟩ := st₁.list hx hsl
        rw [hva] at hva'; cases hva'
        obtain ⟨o, ho, ro1⟩ := hrl.get h3
        have hil : s₁.heap.IsList d (List.toArray vs1) := let ⟨n, e⟩ := hpl; ⟨_, e, rfl, n, rfl⟩
        refine wpAny_getItem_list hil hc.1 (by lia) (by simpa using ho) ?_
        refine he W A env s₁ sl ro ef st₁.rs st₁.base v h1 _ fun u s₂ x₂ r₂ => ?_
        refine augV_sound (ro1.grow x₂.kept) r₂ h4 fun v' s₃ x₃ r₃ zq => ?_
        have st₃ := (st₁.ext x₂).ext x₃
        obtain ⟨d', vs', hva', hpl', hrl', hfl'⟩ := st₃.list hx hsl
        rw [hva] at hva'; cases hva'
        have hlen := hrl'.length
        refine setItem_plain hpl' hc.1 (by lia) (by rw [List.size_toArray, hlen]; exact hc.2.1) fun h' hpl2 sb => ?_
        have hsv := st₃.setList (tk := s₃.toks) (xs' := xs.set j.toNat r) (vs' := vs'.set j.toNat v') hx hsl hva sb (by simpa using hpl2) (hrl'.set _ r₃) (firmL_set hfl' hrf)
        exact hQ W _ m os va .next ((((Mov.ext x₁).trans (Mov.ext x₂)).trans (Mov.ext x₃)).trans hsv.1) hsv.2 rfl
      · cases hf
    · cases hf
  · cases hf

noncomputable def appendF (i : Nat) (fe : List Slot → Option AV) : List Slot → Option (Fl × List Slot) := fun sl => (fe sl).bind fun v => match sl[i]?.bind mls? with
  | some xs => if v.firm = true ∧ xs.length < 1000000 then some (.next, sl.set i (.mls (xs ++ [v]))) else none
  | none => none
set_option tactic.hygienic true in
theorem StS.append {i : Nat} {x : Str} {p apos cp q : Pos} {e : Expr} {fe : List Slot → Option AV} (hx : names[i]? = some x) (hd : (x == ("__debug__" : Str)) = false) (he : ∀ W, EvS G W k names sc e fe) (hn : notStar e = true) (hl : (apos.endLine == cp.line) = true)
    (hint : ∀ env, EnvF env sc → interactive env = false) :
    StS G k names sc (.Expr (.Call (.Attribute (.Name x p) ("append" : Str) apos) [e] [] cp) q) (appendF i fe) := by
  intro A W env s sl m os va ro ef eo st fl sl' hf Q hQ
  obtain ⟨v, h1, hf⟩ := Option.bind_eq_some_iff.mp hf
  split at hf
  · next xs hxs =>
    split at hf
    · next hc =>
      cases hf
      have hsl := mls_some hxs
      obtain ⟨d, vs, hva, hpl0, _⟩ := st.list hx hsl
      refine wpAny_Expr ?_ (hint env ef) rfl
      refine Call_method1 (by rfl) (starEach_cons hn) hl (st.load ef hx hsl hva hd ?_)
      obtain ⟨n0, ho0⟩ := hpl0
      refine ⟨"list", "list.append", F.plainAttrs_list, F.slot_list_append, type_list_append, ⟨_, ho0, rfl⟩, (fun c e => by cases e; exact ⟨_, ho0, rfl⟩), ?_⟩
      refine P.append_list (he W A env s sl ro ef st.rs st.base v h1 _ fun u s₁ x₁ r₁ => ?_)
      have st₁ := st.ext x₁
      obtain ⟨d', vs1, hva', hpl, hrl, hfl⟩ := st₁.list hx hsl
      rw [hva] at hva'; cases hva'
      obtain ⟨n, ho⟩ := hpl
      have hlen := hrl.length
      refine ⟨_, n, by rw [List.size_toArray, hlen, sizeLine_eq]; lia, ho, ?_⟩
      have hpl2 := update_plain (·.push u) ⟨n, ho⟩
      have hsv := st₁.setList (tk := s₁.toks) (xs' := xs ++ [v]) (vs' := vs1 ++ [u]) hx hsl hva (Heap.SameBut.update ..) (by simpa using hpl2) (hrl.append (RepL.one r₁)) (firmL_append hfl (by simp [firmL, hc.1]))
      exact hQ W _ m os va .next ((Mov.ext x₁).trans hsv.1) hsv.2 rfl
    · cases hf
  · cases hf
noncomputable def retOwnF (i : Nat) : List Slot → Option (Fl × List Slot) := fun sl => (sl[i]?.bind mls?).bind fun xs => if xs.all AV.flat = true then some (.ret (.lst xs), sl) else none
theorem StS.retOwn {i : Nat} {x : Str} {p q : Pos} (hx : names[i]? = some x) (hd : (x == ("__debug__" : Str)) = false) : StS G k names sc (.Return (some (.Name x p)) q) (retOwnF i) := by
  intro A W env s sl m os va ro ef eo st fl sl' hf Q hQ
  obtain ⟨xs, hxs, hf⟩ := Option.bind_eq_some_iff.mp hf
  split at hf
  · next hfl =>
    cases hf
    have hsl := mls_some hxs
    obtain ⟨_, d, vs, _, wd, hva, hpl, hrl, _⟩ := st.slots i x _ hx hsl
    refine wpAny_Return_some (st.load ef hx hsl hva hd (hQ W s m os va _ (.refl W s) st ⟨_, rfl, d, vs, rfl, ?_, hpl, hrl.any hfl⟩))
    show ¬ (G.h₀.get? d).isSome = true
    rw [(st.base.above d wd).2]; decide
  · cases hf
noncomputable def reverseF (i : Nat) : List Slot → Option (Fl × List Slot) := fun sl => match sl[i]?.bind mls? with
  | some xs => if xs.length < 1000000 then some (.next, sl.set i (.mls xs.reverse)) else none
  | none => none
set_option tactic.hygienic true in
theorem StS.reverse {i : Nat} {x : Str} {p apos cp q : Pos} (hx : names[i]? = some x) (hd : (x == ("__debug__" : Str)) = false) (hl : (apos.endLine == cp.line) = true)
    (hint : ∀ env, EnvF env sc → interactive env = false) :
    StS G k names sc (.Expr (.Call (.Attribute (.Name x p) ("reverse" : Str) apos) [] [] cp) q) (reverseF i) := by
  intro A W env s sl m os va ro ef eo st fl sl' hf Q hQ
  unfold reverseF at hf
  split at hf
  · next xs hxs =>
    split at hf
    · next hc =>
      cases hf
      have hsl := mls_some hxs
      obtain ⟨d, vs, hva, ⟨n, ho⟩, hrl, hfl⟩ := st.list hx hsl
      have hlen := hrl.length
      refine wpAny_Expr ?_ (hint env ef) rfl
      refine Call_method0 (by rfl) hl (st.load ef hx hsl hva hd ?_)
      refine ⟨"list", "list.reverse", F.plainAttrs_list, F.slot_list_reverse, F.type_list_reverse, ⟨_, ho, rfl⟩, (fun c e => by cases e; exact ⟨_, ho, rfl⟩), ?_⟩
      refine P.reverse_list ho ?_ (by rw [List.size_toArray, hlen, sizeLine_eq]; lia)
      have hpl2 := update_plain (·.reverse) ⟨n, ho⟩
      have hsv := st.setList (tk := s.toks) (xs' := xs.reverse) (vs' := vs.reverse) hx hsl hva (Heap.SameBut.update ..) (by simpa using hpl2) hrl.reverse (by rw [firmL_iff] at *; intro y hy; exact hfl y (List.mem_reverse.mp hy))
      exact hQ W _ m os va .next hsv.1 hsv.2 rfl
    · cases hf
  · cases hf
end
end Mine
end

section
open PySem PySem.W PyProof.Rows
set_option Elab.async false
set_option tactic.hygienic false
set_option maxRecDepth 100000
set_option linter.unusedVariables false


namespace Mine

noncomputable def Gl.at (G : Gl) (h : Heap) (hk : Kept G.h₀ h) : Gl :=
  { G with h₀ := h, start := h, top := G.top.keeps hk, b3 := let ⟨d, o, es, ep, a, b, c⟩ := G.b3; ⟨d, o, es, ep, a, hk _ _ b (solid_dict c.2.2.1), c⟩ }

noncomputable def callV (f : List Slot → Option (Fl × List Slot)) (n np : Nat) (avs : List AV) : Option AV :=
  if avs.length = np ∧ firmL avs = true then (f (avs.map .val ++ List.replicate (n - np) .unset)).bind fun r => match r.1 with
    | .ret a => if a.firm = true then some a else none
    | .next => some .none
    | _ => none
  else none

theorem bindL_off {kindOf : Str → Option NameKind} {x : Str} : ∀ {ps : List Str} {vs : List Value} {m : Str → Option Value}, x ∉ ps → bindL kindOf (ps.zip vs) m x = m x
  | [], _, _, _ => by simp [bindL]
  | _ :: _, [], _, _ => by simp [bindL]
  | p :: ps, v :: vs, m, h => by
    rw [List.zip_cons_cons]
    unfold bindL
    rw [bindL_off (fun q => h (List.mem_cons_of_mem _ q))]
    split
    · show (if x = p then _ else _) = _
      rw [if_neg (fun e => h (by rw [e]; exact List.mem_cons_self))]
    · rfl
theorem bindL_at {kindOf : Str → Option NameKind} {x : Str} {v : Value} : ∀ {ps : List Str} {vs : List Value} {m : Str → Option Value} {i : Nat}, ps.Nodup → ps[i]? = some x → vs[i]? = some v → kindOf x = some .local → bindL kindOf (ps.zip vs) m x = some v
  | [], _, _, _, _, h, _, _ => by simp at h
  | _ :: _, [], _, _, _, _, h, _ => by simp at h
  | p :: ps, u :: vs, m, 0, n, h, h', hk => by
    simp at h h'
    subst h; subst h'
    rw [List.zip_cons_cons]
    unfold bindL
    rw [bindL_off (List.nodup_cons.mp n).1, if_pos hk]
    simp
  | p :: ps, u :: vs, m, i + 1, n, h, h', hk => by
    rw [List.zip_cons_cons]
    unfold bindL
    exact bindL_at (List.nodup_cons.mp n).2 (by simpa using h) (by simpa using h') hk
theorem bindC_off {kindOf : Str → Option NameKind} {x : Str} : ∀ {ps : List Str} {vs : List Value} {m : Str → Option Value}, x ∉ ps → bindC kindOf (ps.zip vs) m x = m x
  | [], _, _, _ => by simp [bindC]
  | _ :: _, [], _, _ => by simp [bindC]
  | p :: ps, v :: vs, m, h => by
    rw [List.zip_cons_cons]
    unfold bindC
    rw [bindC_off (fun q => h (List.mem_cons_of_mem _ q))]
    split
    · rfl
    · show (if x = p then _ else _) = _
      rw [if_neg (fun e => h (by rw [e]; exact List.mem_cons_self))]
theorem bindC_at {kindOf : Str → Option NameKind} {x : Str} {v : Value} : ∀ {ps : List Str} {vs : List Value} {m : Str → Option Value} {i : Nat}, ps.Nodup → ps[i]? = some x → vs[i]? = some v → kindOf x ≠ some .local → bindC kindOf (ps.zip vs) m x = some v
  | [], _, _, _, _, h, _, _ => by simp at h
  | _ :: _, [], _, _, _, _, h, _ => by simp at h
  | p :: ps, u :: vs, m, 0, n, h, h', hk => by
    simp at h h'
    subst h; subst h'
    rw [List.zip_cons_cons]
    unfold bindC
    rw [bindC_off (List.nodup_cons.mp n).1, if_neg hk]
    simp
  | p :: ps, u :: vs, m, i + 1, n, h, h', hk => by
    rw [List.zip_cons_cons]
    unfold bindC
    exact bindC_at (List.nodup_cons.mp n).2 (by simpa using h) (by simpa using h') hk

structure DefOk (d : DefRec) (ps names : List Str) : Prop where
  bind : ∀ (pm code : Value) (doc : Value) (vals : List Value), vals.length = ps.length → bindArgs (Calls.docDef d.name d.params d.body d.scope pm code doc) ⟨vals, []⟩ = pure (ps.zip vals)
  pre : names.take ps.length = ps
  nodup : names.Nodup
  kinds : ∀ x ∈ names, d.scope.names.lookup x = some .local ∨ d.scope.names.lookup x = some .cell
  free : ∀ y ∈ d.scope.names, y.2 ≠ .free
  co : d.scope.isCoroutine = false
  gen : d.scope.isGenerator = false
  fn : d.scope.kind = .function

theorem vlen1 {α : Type} : ∀ {l : List α}, l.length = 1 → ∃ a, l = [a]
  | [a], _ => ⟨a, rfl⟩
theorem vlen2 {α : Type} {l : List α} (h : l.length = 2) : ∃ a b, l = [a, b] := by
  cases l with
  | nil => cases h
  | cons a r => obtain ⟨b, rfl⟩ := vlen1 (Nat.succ.inj h); exact ⟨a, b, rfl⟩
theorem vlen3 {α : Type} {l : List α} (h : l.length = 3) : ∃ a b c, l = [a, b, c] := by
  cases l with
  | nil => cases h
  | cons a r => obtain ⟨b, c, rfl⟩ := vlen2 (Nat.succ.inj h); exact ⟨a, b, c, rfl⟩
noncomputable def SsE (env : Env) (G : Gl) (k : Nat) (names : List Str) (sc : List (Str × NameKind)) (st : List Stmt) (f : List Slot → Option (Fl × List Slot)) : Prop :=
  ∀ (A : Around) (W : Addr → Prop) (s : Shared) (sl : List Slot) (m : Str → Option Value) (os : Nat → List Addr) (va : Nat → Option Value), Room A k → EnvF env sc → EnvOk env names → StX G W env names sl s m os va →
    ∀ fl sl', f sl = some (fl, sl') → ∀ Q : Flow → Shared → Prop, (∀ W' s' m' os' va' flow, Mov W W' s s' → StX G W' env names sl' s' m' os' va' → FlRep G s'.heap fl flow → Q flow s') →
      wpAny G.M A (execs st env) Q (fun zq zq => False) s
noncomputable def CallEnvOf (G : Gl) (d : DefRec) (env : Env) : Prop :=
  env.qual = d.name ++ ".<locals>." ∧ ∃ c a o fd, env.code = .ref c ∧ G.mg d.name = some (.ref a) ∧ G.h₀.get? a = some o ∧ o.data = .func fd ∧ fd.code = .ref c ∧ fd.body = .stmts d.body
noncomputable def retOf : Flow → Value
  | .ret v => v
  | _ => .none
noncomputable def Begin (h : Heap) (vs : List Value) (n : Nat) (sl : List Slot) : Prop := ∀ (W : Addr → Prop) (h' : Heap), (∀ b, W b → h.get? b = none) → FKept h h' → ∀ i sv, sl[i]? = some sv → (i < n → ∃ v, vs[i]? = some v ∧ SlotOwn W h' sv [] (some v)) ∧ (n ≤ i → sv = .unset)
noncomputable def vaOf (env : Env) (names : List Str) (bs : List (Str × Value)) (i : Nat) : Option Value := (names[i]?).bind fun x => if env.kindOf x = some .local then bindL env.kindOf bs (fun zq => none) x else bindC env.kindOf bs (fun zq => none) x
theorem call_open {G : Gl} {lvl : Nat} {d : DefRec} {ps names : List Str} {f : List Slot → Option (Fl × List Slot)} (hd : d ∈ recsOf G.q) (D : DefOk d ps names)
    (hbody : ∀ h hk env, CallEnvOf (G.at h hk) d env → SsE env (G.at h hk) lvl names d.scope.names d.body f) {a : Addr} (hm : G.mg d.name = some (.ref a)) {A : Around} {s : Shared} {vs : List Value} (ro : Room A (lvl + 1)) (kk : Kept G.h₀ s.heap) {H0 : Heap} (tb0 : TB H0 s.heap)
    (hvl : vs.length = ps.length) {sl0 sl' : List Slot} {fl : Fl} (h0 : Begin s.heap vs ps.length sl0) (h1 : f sl0 = some (fl, sl')) {Q : Value → Shared → Prop} (hQ : ∀ s' flow, Ext s s' → FlRep (G.at s.heap kk) s'.heap fl flow → Q (retOf flow) s') :
    wpAny G.M A (call (.ref a) vs) Q (fun zq zq => False) s := by
  have tb := tb0.self
  obtain ⟨a', o, pm, cc, oc, doc, hm', ho, hdat, hcr, hoc, hocc⟩ := G.top.fn d hd
  have hcr' := CodeRec.keepsK hcr hoc hocc kk
  rw [hm] at hm'; cases hm'
  have hcellk : ∀ x ∈ names, d.scope.names.lookup x = some .cell → ∀ n, ∃ c, (cellsFrom n d.scope.names []).lookup x = some c := fun x zq hx n => by
    obtain ⟨c, hc⟩ := mem_own (n := n) (mem_of_lookup hx)
    exact lookup_of_mem hc
  have hps : ∀ x ∈ ps, x ∈ names := fun x hx => by rw [← D.pre] at hx; exact List.mem_of_mem_take hx
  refine wpAny_call (codeAny_call_cells (fd := Calls.docDef d.name d.params d.body d.scope pm (.ref cc) doc) (binds := ps.zip vs) ro.limit (kk _ _ ho (solid_func hdat)) hdat (NoLimit.keepsK G.top.nolimit kk) hcr' rfl (D.bind _ _ _ _ hvl) rfl ?_ (fun s₁ ic => ?_) D.co D.gen D.fn)
  · rintro ⟨x, v⟩ hx
    have hxp := (List.of_mem_zip hx).1
    rcases D.kinds x (hps x hxp) with h | h
    · exact .inl h
    · obtain ⟨c, hc⟩ := hcellk x (hps x hxp) h (s.heap.objs.size + 1)
      exact .inr ⟨h, by show (List.lookup x (cellsFrom (s.heap.objs.size + 1) d.scope.names [])).isSome = true; rw [hc]; rfl⟩
  have ce : CallEnvOf (G.at s.heap kk) d (callEnvC (Calls.docDef d.name d.params d.body d.scope pm (.ref cc) doc) s.heap.objs.size a) := ⟨rfl, cc, a, o, _, rfl, hm, kk _ _ ho (solid_func hdat), hdat, rfl, rfl⟩
  obtain ⟨env, hE⟩ : ∃ env, callEnvC (Calls.docDef d.name d.params d.body d.scope pm (.ref cc) doc) s.heap.objs.size a = env := ⟨_, rfl⟩
  have e1 : env.locals = s.heap.objs.size := by rw [← hE]; rfl
  have e2 : env.scope = d.scope := by rw [← hE]; rfl
  have e3 : env.cells = cellsFrom (s.heap.objs.size + 1) d.scope.names [] := by rw [← hE]; rfl
  have e4 : env.globals = mainGlobals := by rw [← hE]; rfl
  have e5 : env.builtins = builtinsNs := by rw [← hE]; rfl
  rw [hE] at ic ce
  suffices go : ∀ P : Flow → Shared → Prop, (∀ s' flow, Q (retOf flow) s' → P flow s') → wpAny G.M (A.deeper env) (execs d.body env) P (fun zq zq => False) s₁ by
    refine noE' (wpAny_mono (hE ▸ go (fun flow s' => Q (retOf flow) s') fun zq zq h => h) (fun flow s' h => ?_) fun zq zq h => h)
    cases flow <;> exact h
  clear hE hdat hcr hcr' hoc ho
  as_aux_lemma =>
  intro P hP
  have ge : ∀ b, s.heap.objs.size ≤ b → s.heap.get? b = none := fun b h => by
    cases q : s.heap.get? b with
    | none => rfl
    | some o => exact absurd (Heap.lt_size q) (Nat.not_lt.mpr h)
  have hko : ∀ x, env.kindOf x = d.scope.names.lookup x := fun x => by unfold Env.kindOf; rw [e2]
  have ef : EnvF env d.scope.names := ⟨by rw [e2]; exact D.fn, e4, e5, by rw [e2], fun x kd hx hkd => by
    rcases hkd with rfl | rfl
    · obtain ⟨c, hc⟩ := mem_own (n := s.heap.objs.size + 1) (mem_of_lookup hx)
      rw [e3]; exact lookup_of_mem hc
    · exact absurd rfl (D.free _ (mem_of_lookup hx))⟩
  have eo : EnvOk env names := ⟨D.nodup, fun x y c hx hy => name_of_addr ic.apart (mem_of_lookup hx) (mem_of_lookup hy)⟩
  have hkept : FKept s.heap s₁.heap := ic.toInCall.keep
  have hpsn : ps.Nodup := by rw [← D.pre]; exact D.nodup.sublist (List.take_sublist _ _)
  obtain ⟨W, hW⟩ : ∃ W : Addr → Prop, W = fun b => b = env.locals ∨ ∃ x, env.cells.lookup x = some b := ⟨_, rfl⟩
  have hln : ∀ b, W b → s.heap.get? b = none := fun b w => by
    rw [hW] at w
    rcases w with rfl | ⟨x, h⟩
    · rw [e1]; exact get_size _
    · refine ge b ?_
      have := ic.above x b (mem_of_lookup h)
      rw [e1] at this
      exact Nat.le_of_lt this
  have st : StX (G.at s.heap kk) W env names sl0 s₁ (bindL env.kindOf (ps.zip vs) fun zq => none) (fun zq => []) (vaOf env names (ps.zip vs)) := by
    refine ⟨⟨hkept.kept, none_full hkept, tb.keeps hkept, fun b w => ⟨?_, hln b w⟩⟩, by rw [hW]; exact .inl rfl, fun x c h => by rw [hW]; exact .inr ⟨x, h⟩, ic.toInCall.ns, fun i x sv hx hs => ?_, fun zq => List.nodup_nil, (fun zq zq zq h => by cases h), (fun zq zq h => by cases h)⟩
    · rw [hW] at w
      rcases w with rfl | ⟨x, h⟩
      · obtain ⟨o', _, _, e, _⟩ := ic.toInCall.ns
        rw [e]; rfl
      · obtain ⟨o', e, _⟩ := ic.cell x b h
        rw [e]; rfl
    · have hva : vaOf env names (ps.zip vs) i = if env.kindOf x = some .local then bindL env.kindOf (ps.zip vs) (fun zq => none) x else bindC env.kindOf (ps.zip vs) (fun zq => none) x := by unfold vaOf; rw [hx]; rfl
      rw [hva]
      refine ⟨?_, ?_⟩
      · rcases D.kinds x (List.mem_of_getElem? hx) with h | h
        · rw [← hko] at h
          rw [if_pos h]
          exact .inl ⟨h, rfl⟩
        · obtain ⟨c, hc⟩ := hcellk x (List.mem_of_getElem? hx) h (s.heap.objs.size + 1)
          rw [← hko] at h
          rw [if_neg (by rw [h]; decide)]
          rw [← e3] at hc
          exact .inr ⟨h, c, hc, ic.cell x c hc⟩
      · have b0 := h0 W s₁.heap hln hkept i sv hs
        rcases Nat.lt_or_ge i ps.length with hi | hi
        · obtain ⟨v, hv, so⟩ := b0.1 hi
          have hpx : ps[i]? = some x := by rw [← D.pre, List.getElem?_take_of_lt hi]; exact hx
          have hb : (if env.kindOf x = some .local then bindL env.kindOf (ps.zip vs) (fun zq => none) x else bindC env.kindOf (ps.zip vs) (fun zq => none) x) = some v := by
            split
            · next h => exact bindL_at hpsn hpx hv h
            · next h => exact bindC_at hpsn hpx hv h
          rw [hb]; exact so
        · rw [b0.2 hi]; rfl
  refine hbody s.heap kk env ce (A.deeper env) _ s₁ _ _ _ _ ro.deeper ef eo st fl sl' h1 _ fun W' s' m' os' va' flow mv st' fr => hP _ _ (hQ s' flow ?_ fr)
  obtain ⟨h₁, t₁, e, _⟩ := ic.done
  obtain ⟨h₂, t₂, e'⟩ := mv.same
  have et : s'.heap = h₂ := by rw [e']
  refine ⟨h₂, t₂, by rw [e', e], fun b o eb hs => et ▸ mv.kept b o (fun w => by rw [hln b w] at eb; cases eb) (hkept b o eb) hs, fun b e2 => none_full hkept b (mv.gone b (by rw [et]; exact e2)), fun H tbH => tbH.trans (et ▸ st'.base.tb)⟩
theorem begin_vals {h : Heap} {vs : List Value} {avs : List AV} {n : Nat} (rl : RepL (fun zq => False) h avs vs) (hf : firmL avs = true) : Begin h vs avs.length (avs.map Slot.val ++ List.replicate n .unset) := by
  intro W h' hW kk i sv hs
  refine ⟨fun hi => ?_, fun hi => ?_⟩
  · rw [List.getElem?_append_left (by rw [List.length_map]; exact hi), List.getElem?_map] at hs
    obtain ⟨av, ha, rfl⟩ := Option.map_eq_some_iff.mp hs
    obtain ⟨v, hv, rv⟩ := rl.get ha
    exact ⟨v, hv, rfl, v, rfl, RepV.mono (fun b o zq e zq => kk b o e) (fun b o zq e zq => kk b o e) (fun b hb w => by rw [hW b w] at hb; cases hb) _ _ rv, RepL.firmL_of_mem hf av (List.mem_of_getElem? ha)⟩
  · rw [List.getElem?_append_right (by rw [List.length_map]; exact hi)] at hs
    exact List.eq_of_mem_replicate (List.mem_of_getElem? hs)
theorem Fn.of' {G : Gl} {lvl : Nat} {d : DefRec} {ps names : List Str} {f : List Slot → Option (Fl × List Slot)} (hd : d ∈ recsOf G.q) (D : DefOk d ps names)
    (hbody : ∀ h hk env, CallEnvOf (G.at h hk) d env → SsE env (G.at h hk) lvl names d.scope.names d.body f) : Fn G d.name (lvl + 1) (callV f names.length ps.length) where
  place := by
    obtain ⟨a, o, pm, c, oc, doc, hm, ho, hdat, _⟩ := G.top.fn d hd
    exact ⟨a, o, _, hm, ho, hdat⟩
  runs := by
    intro a hm A s vs avs r ro kk H0 tb0 rl hf Q hQ
    unfold callV at hf
    split at hf
    · next hc =>
      obtain ⟨⟨fl, sl'⟩, h1, h2⟩ := Option.bind_eq_some_iff.mp hf
      refine call_open hd D hbody hm ro kk tb0 (by rw [rl.length, hc.1]) (by rw [← hc.1]; exact begin_vals rl hc.2) h1 fun s' flow xx fr => ?_
      cases fl with
      | ret b =>
        obtain ⟨v, rfl, rv⟩ := fr
        dsimp only at h2
        split at h2
        · next hfi => cases h2; exact hQ v s' xx rv hfi
        · cases h2
      | next =>
        cases (show flow = .next from fr)
        cases h2
        exact hQ .none s' xx rfl rfl
      | brk => cases h2
      | cont => cases h2
    · cases hf
theorem Fn.of {G : Gl} {lvl : Nat} {d : DefRec} {ps names : List Str} {f : List Slot → Option (Fl × List Slot)} (hd : d ∈ recsOf G.q) (D : DefOk d ps names)
    (hbody : ∀ h hk, SsS (G.at h hk) lvl names d.scope.names d.body f) : Fn G d.name (lvl + 1) (callV f names.length ps.length) :=
  Fn.of' hd D fun h hk env zq A W s sl m os va ro ef eo st fl sl' hf Q hQ => hbody h hk A W env s sl m os va ro ef eo st fl sl' hf Q hQ
end Mine
end

section
open PySem PySem.W PyProof.Rows
set_option Elab.async false
set_option tactic.hygienic false
set_option maxRecDepth 100000
set_option linter.unusedVariables false


namespace Mine
section
variable {G : Gl} {W : Addr → Prop} {k : Nat} {names : List Str} {sc : List (Str × NameKind)} {A : Around} {s : Shared} {E : Value → Shared → Prop} {env : Env} {sl : List Slot} {m : Str → Option Value} {os : Nat → List Addr} {va : Nat → Option Value}

theorem draw_list {it l : Addr} {items : Array Value} (hne : l ≠ it) : ∀ (n i : Nat) (s : Shared) (Q : List Value → Shared → Prop), s.heap.IsListIter it l i → s.heap.IsList l items → i + n ≤ items.size →
    (∀ h', h'.IsListIter it l (i + n) → Heap.SameBut it s.heap h' → Q ((items.toList.drop i).take n) { s with heap := h' }) → wpAny G.M A (draw (.ref it) n) Q E s
  | 0, i, s, Q, hit, _, _, hQ => by
    show wpAny _ _ (pure []) Q E s
    exact wpAny_pure (by simpa using hQ s.heap hit (Heap.SameBut.refl ..))
  | n + 1, i, s, Q, hit, ht, hle, hQ => by
    have hlt : i < items.size := by lia
    show wpAny _ _ (pyNext (.ref it) >>= _) Q E s
    refine wpAny_bind (wpAny_pyNext_list_item hit ht (x := items[i]) (by simp [hlt]) fun h₁ hit₁ hs₁ => ?_)
    refine wpAny_bind (wpAny_holding (draw_list hne n (i + 1) _ _ hit₁ (ht.extBut hs₁.extBut hne) (by lia) fun h₂ hit₂ hs₂ => wpAny_pure ?_))
    have hd : items.toList.drop i = items[i] :: items.toList.drop (i + 1) := by simp [List.drop_eq_getElem_cons, hlt]
    have := hQ h₂ (by rw [show i + (n + 1) = i + 1 + n by lia]; exact hit₂) (hs₁.trans hs₂)
    rw [hd, List.take_succ_cons] at this
    exact this

theorem unpackItems_list {l : Addr} {items : Array Value} {Q : List Value → Shared → Prop} (hh : A.handled = none) (hl : s.heap.IsList l items)
    (hQ : ∀ h', FKept s.heap h' → Q items.toList { s with heap := h' }) : wpAny G.M A (unpackItems (.ref l) items.size none) Q E s := by
  have hlt : l ≠ s.heap.objs.size := by obtain ⟨o, ho, _⟩ := hl; exact Nat.ne_of_lt (Heap.lt_size ho)
  have hlp := IsList.grow (Ext.push (s := s) (o := { cls := .type "list_iterator", data := .fields #[.ref l, .int 0 0] })).kept hl
  unfold unpackItems
  refine wpAny_bind ?_
  unfold notIterableAtAll
  refine wpAny_bind (wpAny_specialOf hl.typeIs slot_list_iter.lookup ?_)
  refine wpAny_pure ?_
  simp only [Bool.false_eq_true, if_false]
  refine wpAny_bind (wpAny_holding (wpAny_pyIter_list hl ?_))
  refine wpAny_bind (wpAny_holding (draw_list hlt items.size 0 _ _ ⟨_, Heap.get?_push_size _ rfl, rfl, rfl⟩ hlp (by lia) fun h₁ hit₁ hs₁ => ?_))
  have hall : List.take items.size (List.drop 0 items.toList) = items.toList := by
    rw [List.drop_zero]; exact List.take_of_length_le (by simp)
  rw [hall]
  rw [if_neg (by simp)]
  have ht₁ : h₁.IsList l items := hlp.extBut hs₁.extBut hlt
  refine wpAny_bind (wpAny_holding (wpAny_pyNext_list_end hh hit₁ ht₁ (by simp) fun h₂ he₂ => ?_))
  simp only [Option.isSome_none, Bool.false_eq_true, if_false]
  refine wpAny_pure (hQ h₂ fun b o e => ?_)
  have hb : b ≠ s.heap.objs.size := Nat.ne_of_lt (Heap.lt_size e)
  exact he₂ b o hb (hs₁.extBut b o hb (Heap.get?_push_of_some _ e))

noncomputable def putMany (sl : List Slot) : List Nat → List AV → Option (List Slot)
  | [], [] => some sl
  | i :: is, a :: as => if a.firm = true then (putS sl i (.val a)).bind fun sl' => putMany sl' is as else none
  | _, _ => none

theorem store_many (eo : EnvOk env names) (hk : env.scope.kind = .function) : ∀ (xs : List (Str × Pos)) (is : List Nat) (as : List AV) (vs : List Value) (sl sl' : List Slot) (s : Shared) (m : Str → Option Value) (os : Nat → List Addr) (va : Nat → Option Value) (Q : Unit → Shared → Prop),
    is.map (names[·]?) = xs.map (fun x => some x.1) → putMany sl is as = some sl' → RepL W s.heap as vs → StX G W env names sl s m os va →
    (∀ s' m' os' va', Mov W W s s' → StX G W env names sl' s' m' os' va' → Q () s') → wpAny G.M A (assignInOrder (xs.map fun x => PySem.assign (.Name x.1 x.2) env) vs) Q E s
  | [], is, as, vs, sl, sl', s, m, os, va, Q, hx, hp, hr, st, hQ => by
    have : is = [] := by simpa using hx
    subst this
    cases as with
    | nil =>
      cases hp
      rw [show vs = [] from hr]
      exact wpAny_pure (hQ s m os va (.refl W s) st)
    | cons a as => cases hp
  | (x, p) :: xs, is, as, vs, sl, sl', s, m, os, va, Q, hx, hp, hr, st, hQ => by
    cases is with
    | nil => cases hx
    | cons i is =>
      simp only [List.map_cons, List.cons.injEq] at hx
      cases as with
      | nil => cases hp
      | cons a as =>
        unfold putMany at hp
        split at hp
        · next hf =>
          obtain ⟨sl1, h1, h2⟩ := Option.bind_eq_some_iff.mp hp
          obtain ⟨rfl, old, hold⟩ := putS_some h1
          obtain ⟨v, q, rfl, ra, rq⟩ := hr
          show wpAny _ _ (do holding q (PySem.assign (.Name x p) env v); assignInOrder (xs.map fun x => PySem.assign (.Name x.1 x.2) env) q) Q E s
          refine wpAny_bind (wpAny_holding (wpAny_assign_Name (store_val st (.refl _) eo hk hx.1 hold ra hf fun s₁ m₁ os₁ va₁ mv kk st₁ => ?_)))
          refine store_many eo hk xs is as q _ sl' s₁ m₁ os₁ va₁ Q hx.2 h2 ?_ st₁ fun s' m' os' va' mv' st' => hQ s' m' os' va' (mv.trans mv') st'
          have hfl : firmL as = true := by
            clear hx rq st₁ kk mv ra hold h1 hf st hQ
            revert h2
            generalize sl.set i (.val a) = sl0
            intro h2
            have key : ∀ (is : List Nat) (as : List AV) (sl0 sl' : List Slot), putMany sl0 is as = some sl' → firmL as = true := by
              intro is as
              induction as generalizing is with
              | nil => intro _ _ _; rfl
              | cons b bs ih =>
                intro sl0 sl' h
                cases is with
                | nil => cases h
                | cons j js =>
                  unfold putMany at h
                  split at h
                  · next hb =>
                    obtain ⟨sl2, _, h4⟩ := Option.bind_eq_some_iff.mp h
                    simp only [firmL, hb, ih js sl2 sl' h4, Bool.and_self]
                  · cases h
            exact key is as sl0 sl' h2
          exact RepL.firm mv.kept (fun b e w => mv.new b w e) _ _ hfl rq
        · cases hp

noncomputable def tupOf : AV → Option (List AV)
  | .tup xs => some xs
  | _ => none
theorem tupOf_some {a : AV} {xs : List AV} (h : tupOf a = some xs) : a = .tup xs := by cases a <;> cases h; rfl
noncomputable def unpackF (is : List Nat) (f : List Slot → Option (List AV)) : List Slot → Option (Fl × List Slot) := fun sl => (f sl).bind fun xs => (putMany sl is xs).map fun sl' => (.next, sl')

theorem putMany_len : ∀ {is : List Nat} {as : List AV} {sl sl' : List Slot}, putMany sl is as = some sl' → is.length = as.length
  | [], [], _, _, _ => rfl
  | [], _ :: _, _, _, h => by cases h
  | _ :: _, [], _, _, h => by cases h
  | i :: is, a :: as, sl, sl', h => by
    unfold putMany at h
    split at h
    · obtain ⟨sl1, _, h2⟩ := Option.bind_eq_some_iff.mp h
      simp [putMany_len h2]
    · cases h

theorem StS.unpack {xs : List (Str × Pos)} {is : List Nat} {elts : List Expr} {kd : Nat} {tp q : Pos} {e : Expr} {f : List Slot → Option AV} (hx : is.map (names[·]?) = xs.map (fun x => some x.1)) (hel : elts = xs.map fun x => .Name x.1 x.2) (he : ∀ W, EvS G W k names sc e f)
    (hs : ∀ env, swapsWithSole [.Tuple elts kd tp] e q.line env = pure false) (hw : ∀ env, swappedStores [.Tuple elts kd tp] e env = pure none) :
    StS G k names sc (.Assign [.Tuple elts kd tp] e q) (unpackF is (fun sl => (f sl).bind tupOf)) := by
  intro A W env s sl m os va ro ef eo st fl sl' hf Q hQ
  obtain ⟨ys, h0, hf⟩ := Option.bind_eq_some_iff.mp hf
  obtain ⟨sl1, h1, h2⟩ := Option.map_eq_some_iff.mp hf
  cases h2
  obtain ⟨a, h3, h4⟩ := Option.bind_eq_some_iff.mp h0
  have hea : ∀ xs : List (Str × Pos), assignEach (xs.map fun x => Expr.Name x.1 x.2) env = xs.map fun x => (false, PySem.assign (.Name x.1 x.2) env) := by
    intro xs
    induction xs with
    | nil => rfl
    | cons x xs ih => rw [List.map_cons, List.map_cons, ← ih]; rfl
  refine PyProof.Rows.Assign_Tuple (he W A env s sl ro ef st.rs st.base a h3 _ fun v s₁ x₁ r₁ => ?_) (hs env) (hw env)
  obtain rfl := tupOf_some h4
  obtain ⟨l, vs, rfl, _, ht, rl⟩ := r₁
  subst hel
  have hlen : xs.length = vs.length := by
    have e1 := putMany_len h1
    have e2 := congrArg List.length hx
    simp only [List.length_map] at e2
    rw [rl.length, ← e1, e2]
  refine wpAny_assign_Tuple ro.handled ht (by rw [hea]; simp [hlen]) (by rw [hea]; clear hea hx h1 hlen hs hw; induction xs with | nil => rfl | cons x xs ih => simp [List.findIdx?_cons]) fun h' ext => ?_
  rw [hea, List.map_map]
  have kp : FKept s₁.heap h' := fun b o e => ext b o (Nat.ne_of_lt (Heap.lt_size e)) e
  have x₂ : Ext s₁ { s₁ with heap := h' } := Ext.of kp
  exact store_many eo ef.kind xs is ys vs sl sl' _ m os va _ hx h1 (rl.grow kp.kept) ((st.ext x₁).ext x₂) fun s' m' os' va' mv st' => hQ W s' m' os' va' .next (((Mov.ext x₁).trans (Mov.ext x₂)).trans mv) st' rfl

theorem StS.unpackList {xs : List (Str × Pos)} {is : List Nat} {elts : List Expr} {kd : Nat} {tp q : Pos} {e : Expr} {f : List Slot → Option AV} (hx : is.map (names[·]?) = xs.map (fun x => some x.1)) (hel : elts = xs.map fun x => .Name x.1 x.2) (he : ∀ W, EvS G W k names sc e f)
    (hs : ∀ env, swapsWithSole [.Tuple elts kd tp] e q.line env = pure false) (hw : ∀ env, swappedStores [.Tuple elts kd tp] e env = pure none) :
    StS G k names sc (.Assign [.Tuple elts kd tp] e q) (unpackF is (fun sl => (f sl).bind AV.any?)) := by
  intro A W env s sl m os va ro ef eo st fl sl' hf Q hQ
  obtain ⟨ys, h0, hf⟩ := Option.bind_eq_some_iff.mp hf
  obtain ⟨sl1, h1, h2⟩ := Option.map_eq_some_iff.mp hf
  cases h2
  obtain ⟨a, h3, h4⟩ := Option.bind_eq_some_iff.mp h0
  have hea : ∀ xs : List (Str × Pos), assignEach (xs.map fun x => Expr.Name x.1 x.2) env = xs.map fun x => (false, PySem.assign (.Name x.1 x.2) env) := by
    intro xs
    induction xs with
    | nil => rfl
    | cons x xs ih => rw [List.map_cons, List.map_cons, ← ih]; rfl
  refine PyProof.Rows.Assign_Tuple (he W A env s sl ro ef st.rs st.base a h3 _ fun v s₁ x₁ r₁ => ?_) (hs env) (hw env)
  obtain ⟨l, vs, rfl, hl, rl⟩ := r₁.anyList h4
  subst hel
  have hlen : xs.length = vs.length := by
    have e1 := putMany_len h1
    have e2 := congrArg List.length hx
    simp only [List.length_map] at e2
    rw [rl.length, ← e1, e2]
  rw [arm_assign_Tuple]
  refine wpAny_bind (wpAny_standAt ?_)
  rw [hea]
  have hst : (xs.map fun x => (false, PySem.assign (.Name x.1 x.2) env)).findIdx? (fun t => t.1) = none := by
    clear hea hx h1 hlen hs hw
    induction xs with
    | nil => rfl
    | cons x xs ih => simp [List.findIdx?_cons]
  unfold PySem.unpack
  rw [hst]
  have hn : (xs.map fun x => (false, PySem.assign (.Name x.1 x.2) env)).length = (List.toArray vs).size := by simp [hlen]
  rw [hn]
  refine wpAny_bind (wpAny_holding (unpackItems_list ro.handled hl fun h' kp => ?_))
  rw [List.map_map]
  have x₂ : Ext s₁ { s₁ with heap := h' } := Ext.of kp
  exact store_many eo ef.kind xs is ys vs sl sl' _ m os va _ hx h1 (rl.grow kp.kept) ((st.ext x₁).ext x₂) fun s' m' os' va' mv st' => hQ W s' m' os' va' .next (((Mov.ext x₁).trans (Mov.ext x₂)).trans mv) st' rfl

theorem StS.assign2 {i j : Nat} {x y : Str} {p p' q : Pos} {e : Expr} {f : List Slot → Option AV} (hx : names[i]? = some x) (hy : names[j]? = some y) (he : ∀ W, EvS G W k names sc e f) (hw : ∀ env, swappedStores [.Name x p, .Name y p'] e env = pure none) :
    StS G k names sc (.Assign [.Name x p, .Name y p'] e q) (fun sl => (f sl).bind fun a => (putMany sl [i, j] [a, a]).map fun sl' => (.next, sl')) := by
  intro A W env s sl m os va ro ef eo st fl sl' hf Q hQ
  obtain ⟨a, h0, hf⟩ := Option.bind_eq_some_iff.mp hf
  obtain ⟨sl1, h1, h2⟩ := Option.map_eq_some_iff.mp hf
  cases h2
  rw [PyProof.Rows.exec_Assign]
  refine wpAny_bind (wpAny_standAt ?_)
  refine wpAny_bind (wpAny_pure ?_)
  rw [if_neg (by decide)]
  refine wpAny_bind (he W A env s sl ro ef st.rs st.base a h0 _ fun v s₁ x₁ r₁ => ?_)
  rw [hw env]
  refine wpAny_bind (wpAny_pure ?_)
  show wpAny _ _ (do assignAll v [PySem.assign (.Name x p) env, PySem.assign (.Name y p') env]; pure Flow.next) _ _ _
  unfold putMany at h1
  split at h1
  · next hfi =>
    obtain ⟨sl2, h2, h3⟩ := Option.bind_eq_some_iff.mp h1
    unfold putMany at h3
    rw [if_pos hfi] at h3
    obtain ⟨sl3, h4, h5⟩ := Option.bind_eq_some_iff.mp h3
    cases h5
    obtain ⟨rfl, old, hold⟩ := putS_some h2
    obtain ⟨rfl, old', hold'⟩ := putS_some h4
    refine wpAny_bind ?_
    show wpAny _ _ (do holding [v] (PySem.assign (.Name x p) env v); PySem.assign (.Name y p') env v) _ _ _
    refine wpAny_bind (wpAny_holding (wpAny_assign_Name (store_val st x₁ eo ef.kind hx hold r₁ hfi fun s₂ m₂ os₂ va₂ mv₂ kk₂ st₂ => ?_)))
    refine wpAny_assign_Name (store_val st₂ (.refl _) eo ef.kind hy hold' (RepV.firm kk₂ (fun b e w => w) _ _ hfi r₁) hfi fun s₃ m₃ os₃ va₃ mv₃ zq st₃ => ?_)
    exact wpAny_pure (hQ W s₃ m₃ os₃ va₃ .next (mv₂.trans mv₃) st₃ rfl)
  · cases h1
end
end Mine
end

section
open PySem PySem.W PyProof.Rows
set_option Elab.async false
set_option tactic.hygienic false
set_option maxRecDepth 100000
set_option linter.unusedVariables false


namespace Mine
section
variable {G : Gl} {W : Addr → Prop} {k : Nat} {names : List Str} {sc : List (Str × NameKind)} {A : Around} {s : Shared} {E : Value → Shared → Prop}
theorem SsS.never {st : List Stmt} : SsS G k names sc st (fun zq => none) := fun A W env s sl m os va zq zq zq zq fl sl' hf => by cases hf

theorem EvS.len {p q : Pos} {e : Expr} {f : List Slot → Option (List AV)} (hg : sc.lookup ("len" : Str) = some .globalImplicit) (hm : G.mg ("len" : Str) = Option.none) (ha : EvL G W k names sc [e] f) (hn : notStar e = true) :
    EvS G W k names sc (.Call (.Name ("len" : Str) p) [e] [] q) (fun sl => (f sl).bind lenV) :=
  EvS.builtin (v := .builtin "len") hg (by decide +kernel) (by decide +kernel) hm (by kernel_rfl) (.inl ⟨_, rfl⟩) ha hn (fun zq zq => rfl) fun A s vs avs av ro ba r e Q hQ => len_sound r e hQ
theorem EvS.ord {p q : Pos} {e : Expr} {f : List Slot → Option (List AV)} (hg : sc.lookup ("ord" : Str) = some .globalImplicit) (hm : G.mg ("ord" : Str) = Option.none) (ha : EvL G W k names sc [e] f) (hn : notStar e = true) :
    EvS G W k names sc (.Call (.Name ("ord" : Str) p) [e] [] q) (fun sl => (f sl).bind ordV) :=
  EvS.builtin (v := .builtin "ord") hg (by decide +kernel) (by decide +kernel) hm (by kernel_rfl) (.inl ⟨_, rfl⟩) ha hn (fun zq zq => rfl) fun A s vs avs av ro ba r e Q hQ => ord_sound r e hQ
theorem EvS.sum {p q : Pos} {e : Expr} {f : List Slot → Option (List AV)} (hg : sc.lookup ("sum" : Str) = some .globalImplicit) (hm : G.mg ("sum" : Str) = Option.none) (ha : EvL G W k names sc [e] f) (hn : notStar e = true) :
    EvS G W k names sc (.Call (.Name ("sum" : Str) p) [e] [] q) (fun sl => (f sl).bind sumV) :=
  EvS.builtin (v := .builtin "sum") hg (by decide +kernel) (by decide +kernel) hm (by kernel_rfl) (.inl ⟨_, rfl⟩) ha hn (fun zq zq => rfl) fun A s vs avs av ro ba r e Q hQ => sum_sound ro r e hQ
theorem EvS.min {p q : Pos} {e e' : Expr} {f : List Slot → Option (List AV)} (hg : sc.lookup ("min" : Str) = some .globalImplicit) (hm : G.mg ("min" : Str) = Option.none) (ha : EvL G W k names sc [e, e'] f) (hn : notStar e = true) (hr : ∀ env pos, ((backTo pos (starEach [e'] env)).any (·.1)) = false) :
    EvS G W k names sc (.Call (.Name ("min" : Str) p) [e, e'] [] q) (fun sl => (f sl).bind minV) :=
  EvS.builtin (v := .builtin "min") hg (by decide +kernel) (by decide +kernel) hm (by kernel_rfl) (.inl ⟨_, rfl⟩) ha hn hr fun A s vs avs av ro ba r e Q hQ => min_sound ro r e hQ

theorem EvB.divmod {p q : Pos} {e e' : Expr} {f : List Slot → Option (List AV)} (hg : sc.lookup ("divmod" : Str) = some .globalImplicit) (hm : G.mg ("divmod" : Str) = Option.none) (ha : EvL G W k names sc [e, e'] f) (hn : notStar e = true) (hr : ∀ env pos, ((backTo pos (starEach [e'] env)).any (·.1)) = false) :
    EvB true G W k names sc (.Call (.Name ("divmod" : Str) p) [e, e'] [] q) (fun sl => (f sl).bind divmodV) := by
  intro A env s sl ro ef rs ba av hf Q hQ
  obtain ⟨avs, h1, h2⟩ := Option.bind_eq_some_iff.mp hf
  refine builtin_call (v := .builtin "divmod") hg (by decide +kernel) (by decide +kernel) hm (by kernel_rfl) (.inl ⟨_, rfl⟩) ha hn hr ro ef rs ba h1 fun vs s₁ x₁ r => ?_
  unfold divmodV at h2
  split at h2
  · split at h2
    · next h =>
      obtain ⟨v, q, rfl, ⟨t, rfl⟩, ⟨v', q', rfl, ⟨t', rfl⟩, rfl⟩⟩ := r
      cases h2
      refine PyProof.Rows.divmod_int h.1 (hQ _ _ (x₁.trans (.of fun zq zq e => Heap.get?_push_of_some _ e)) ⟨_, [_, _], rfl, (ba.ext x₁).fresh (Nat.le_refl _), ⟨_, Heap.get?_push_size _ rfl, rfl, 0, rfl⟩, ⟨_, _, rfl, ⟨_, rfl⟩, ⟨_, _, rfl, ⟨_, rfl⟩, rfl⟩⟩⟩ fun zq => ⟨_, rfl, x₁.gone (get_size _)⟩) (Or.inl (small_pylong h.2))
    · cases h2
  · cases h2

theorem EvB.tuple {es : List Expr} {kd : Nat} {p : Pos} {g : List Slot → Option (List AV)} (hr : EvL G W k names sc es g) :
    EvB true G W k names sc (.Tuple es kd p) (fun sl => (g sl).bind fun xs => if xs.length < 1000000 then some (.tup xs) else Option.none) := by
  intro A env s sl ro ef rs ba av hf Q hQ
  obtain ⟨xs, h1, hf⟩ := Option.bind_eq_some_iff.mp hf
  split at hf
  · next q =>
    cases hf
    refine Tuple_ (hr.2 A env s sl p ro ef rs ba xs h1 _ fun vs s₁ x₁ r₁ => ?_)
    refine wpAny_newObj_type (hQ _ _ (x₁.trans .push) ⟨_, vs, rfl, (ba.ext x₁).fresh (Nat.le_refl _), ⟨_, Heap.get?_push_size _ rfl, rfl, 0, rfl⟩, r₁.grow (Ext.push (s := s₁)).kept⟩ fun zq => ⟨_, rfl, x₁.gone (get_size _)⟩) ?_
    show vs.toArray.size ≤ sizeLine
    rw [List.size_toArray, r₁.length, sizeLine_eq]; lia
  · cases hf

noncomputable def newOnly : AV → Option AV
  | .lst xs => some (.lst xs)
  | .tup xs => some (.tup xs)
  | _ => none
theorem newOnly_some {a b : AV} (h : newOnly a = some b) : a = b ∧ ((∃ xs, a = .lst xs) ∨ ∃ xs, a = .tup xs) := by
  cases a <;> cases h
  · exact ⟨rfl, .inr ⟨_, rfl⟩⟩
  · exact ⟨rfl, .inl ⟨_, rfl⟩⟩
theorem EvB.call {g : Str} {lvl : Nat} {fn : List AV → Option AV} {p q : Pos} {e : Expr} {es : List Expr} {f : List Slot → Option (List AV)} (F : Fn G g lvl fn) (hk : lvl ≤ k) (hg : sc.lookup g = some .globalImplicit)
    (hd : (g == ("__debug__" : Str)) = false) (ha : EvL G W k names sc (e :: es) f) (hn : notStar e = true) :
    EvB true G W k names sc (.Call (.Name g p) (e :: es) [] q) (fun sl => ((f sl).bind fun avs => fn (freezeL avs)).bind newOnly) := by
  intro A env s sl ro ef rs ba av hf Q hQ
  obtain ⟨av', h0, h3⟩ := Option.bind_eq_some_iff.mp hf
  obtain ⟨avs, h1, h2⟩ := Option.bind_eq_some_iff.mp h0
  obtain ⟨a, o, fd, hm, ho, hfd⟩ := F.place
  refine Call_ (wpAny_Name (load_global ef ba hg hm ?_) hd)
  refine callWith_def hfd (ha.2 A env s sl q ro ef rs ba avs h1 _ fun vs s₁ x₁ r₁ => ⟨(ba.ext x₁).keep _ _ ho (solid_func hfd), ?_⟩) (starEach_cons hn)
  refine F.runs a hm A s₁ vs (freezeL avs) av' (ro.le hk) (ba.ext x₁).keep _ (ba.ext x₁).tb (r₁.freeze) h2 Q fun v s' x r fi => ?_
  have old : ∀ d, ¬ (s₁.heap.get? d).isSome = true → s.heap.get? d = Option.none := fun d h => x₁.gone (by simpa using h)
  obtain ⟨rfl, hsh⟩ := newOnly_some h3
  have hr := r.weaken (W' := W) fun b w => ((ba.ext x₁).above b w).1
  obtain ⟨d, rfl, nw⟩ : ∃ d, v = .ref d ∧ ¬ (s₁.heap.get? d).isSome = true := by
    rcases hsh with ⟨xs, rfl⟩ | ⟨xs, rfl⟩ <;> (obtain ⟨d, us, e, nw, _⟩ := r; exact ⟨d, e, nw⟩)
  exact hQ _ s' (x₁.trans x) hr fun zq => ⟨d, rfl, old d nw⟩
end
end Mine
end

section
open PySem
set_option Elab.async false
set_option tactic.hygienic false
namespace Mine
theorem bitXor_low (x s : Nat) : Builtin.bitXor (x : Int) (((x / 2 ^ s * 2 ^ s : Nat)) : Int) = ((x % 2 ^ s : Nat) : Int) := by
  have key : x / 2 ^ s * 2 ^ s = (x >>> s) <<< s := by rw [Nat.shiftLeft_eq, Nat.shiftRight_eq_div_pow]
  have hb : ∀ i, ((x >>> s) <<< s).testBit i = (decide (s ≤ i) && x.testBit i) := by
    intro i
    rw [Nat.testBit_shiftLeft]
    by_cases h : s ≤ i
    · rw [Nat.testBit_shiftRight]; simp [h, Nat.add_sub_cancel' h]
    · simp [h]
  have e1 : x ||| (x / 2 ^ s * 2 ^ s) = x := by
    rw [key]
    refine Nat.eq_of_testBit_eq fun i => ?_
    rw [Nat.testBit_or, hb]
    cases x.testBit i <;> simp
  have e2 : x &&& (x / 2 ^ s * 2 ^ s) = x / 2 ^ s * 2 ^ s := by
    rw [key]
    refine Nat.eq_of_testBit_eq fun i => ?_
    rw [Nat.testBit_and, hb]
    cases x.testBit i <;> simp
  have hn : ∀ a : Nat, Builtin.bitNot (Builtin.bitNot (a : Int)) = a := fun a => by unfold Builtin.bitNot; lia
  have hor : ∀ a b : Nat, Builtin.bitOr (a : Int) (b : Int) = ((a ||| b : Nat) : Int) := fun a b => by
    have h1 : decide (0 ≤ Builtin.bitNot (a : Int)) = false := decide_eq_false (by unfold Builtin.bitNot; lia)
    have h2 : decide (0 ≤ Builtin.bitNot (b : Int)) = false := decide_eq_false (by unfold Builtin.bitNot; lia)
    unfold Builtin.bitOr Builtin.bitAnd
    rw [h1, h2]
    simp only [hn, Int.toNat_natCast]
  have hand : ∀ a b : Nat, Builtin.bitAnd (a : Int) (b : Int) = ((a &&& b : Nat) : Int) := fun a b => by
    have h1 : decide (0 ≤ (a : Int)) = true := decide_eq_true (by lia)
    have h2 : decide (0 ≤ (b : Int)) = true := decide_eq_true (by lia)
    unfold Builtin.bitAnd
    rw [h1, h2]
    simp only [Int.toNat_natCast]
  unfold Builtin.bitXor
  rw [hor, hand, e1, e2]
  have := Nat.div_add_mod x (2 ^ s)
  rw [Nat.mul_comm] at this
  lia

noncomputable def dgs (n : Nat) : Nat → Nat → List Nat
  | 0, _ => []
  | m + 1, x => x % 2 ^ n :: dgs n m (x / 2 ^ n)
theorem dgs_len (n : Nat) : ∀ m x, (dgs n m x).length = m
  | 0, _ => rfl
  | m + 1, x => by simp [dgs, dgs_len n m]
theorem dgs_split (n : Nat) : ∀ a b x, dgs n (a + b) x = dgs n a (x % 2 ^ (n * a)) ++ dgs n b (x / 2 ^ (n * a))
  | 0, b, x => by simp [dgs]
  | a + 1, b, x => by
    have e : a + 1 + b = a + b + 1 := by lia
    have p : 2 ^ (n * (a + 1)) = 2 ^ n * 2 ^ (n * a) := by rw [Nat.mul_succ, Nat.pow_add, Nat.mul_comm]
    rw [e]
    simp only [dgs, List.cons_append]
    rw [dgs_split n a b (x / 2 ^ n), p, Nat.mod_mul_right_div_self, Nat.mod_mul_right_mod, Nat.div_div_eq_div_mul]
theorem dgs_one (n x : Nat) (h : x < 2 ^ n) : dgs n 1 x = [x] := by simp [dgs, Nat.mod_eq_of_lt h]
noncomputable def undgs (n : Nat) : List Nat → Nat
  | [] => 0
  | d :: ds => d + 2 ^ n * undgs n ds
theorem undgs_dgs (n : Nat) : ∀ m x, x < 2 ^ (n * m) → undgs n (dgs n m x) = x
  | 0, x, h => by simp at h; subst h; rfl
  | m + 1, x, h => by
    have : x / 2 ^ n < 2 ^ (n * m) := by
      refine (Nat.div_lt_iff_lt_mul (Nat.two_pow_pos n)).mpr ?_
      rw [← Nat.pow_add]; exact h
    simp only [dgs, undgs, undgs_dgs n m _ this]
    exact Nat.mod_add_div x (2 ^ n)
theorem undgs_append (n : Nat) : ∀ (a b : List Nat), undgs n (a ++ b) = undgs n a + 2 ^ (n * a.length) * undgs n b
  | [], b => by simp [undgs]
  | d :: a, b => by
    simp only [List.cons_append, undgs, undgs_append n a b, List.length_cons, Nat.mul_succ, Nat.pow_add, Nat.mul_add]
    rw [Nat.add_assoc, Nat.mul_comm (2 ^ (n * a.length)) (2 ^ n), Nat.mul_assoc]
theorem dgs_undgs (n : Nat) : ∀ ds : List Nat, (∀ d ∈ ds, d < 2 ^ n) → dgs n ds.length (undgs n ds) = ds
  | [], _ => rfl
  | d :: ds, h => by
    have h1 := h d List.mem_cons_self
    simp only [List.length_cons, dgs, undgs]
    rw [Nat.add_mul_mod_self_left, Nat.mod_eq_of_lt h1, Nat.add_mul_div_left _ _ (Nat.two_pow_pos n), Nat.div_eq_of_lt h1, Nat.zero_add, dgs_undgs n ds fun e he => h e (List.mem_cons_of_mem _ he)]
end Mine
namespace Mine
theorem undgs_lt (n : Nat) : ∀ ds : List Nat, (∀ d ∈ ds, d < 2 ^ n) → undgs n ds < 2 ^ (n * ds.length)
  | [], _ => by simp [undgs]
  | d :: ds, h => by
    have h1 := h d List.mem_cons_self
    have h2 := undgs_lt n ds fun e he => h e (List.mem_cons_of_mem _ he)
    have h3 : 2 ^ n * (undgs n ds + 1) ≤ 2 ^ n * 2 ^ (n * ds.length) := Nat.mul_le_mul_left _ h2
    simp only [undgs, List.length_cons, Nat.mul_succ, Nat.pow_add]
    rw [Nat.mul_comm (2 ^ (n * ds.length))]
    rw [Nat.mul_succ] at h3
    lia
theorem take_split {α : Type} (l : List α) (L a b : Nat) : (l.drop L).take (a + b) = (l.drop L).take a ++ (l.drop (L + a)).take b := by
  rw [List.take_add, List.drop_drop]
end Mine
namespace Mine
noncomputable def ldiv (n b : Nat) : List Nat → Nat → List Nat → Nat × List Nat
  | [], r, qs => (r, qs)
  | d :: l, r, qs => ldiv n b l ((r * 2 ^ n + d) % b) (qs ++ [(r * 2 ^ n + d) / b])
theorem ldiv_spec (n b : Nat) (hb : 0 < b) : ∀ (l : List Nat) (r : Nat) (qs : List Nat) (A : Nat), r = A % b → undgs n qs.reverse = A / b → (∀ q ∈ qs, q < 2 ^ n) → (∀ d ∈ l, d < 2 ^ n) →
    (ldiv n b l r qs).1 = (undgs n l.reverse + 2 ^ (n * l.length) * A) % b ∧ undgs n (ldiv n b l r qs).2.reverse = (undgs n l.reverse + 2 ^ (n * l.length) * A) / b ∧ (∀ q ∈ (ldiv n b l r qs).2, q < 2 ^ n) ∧ (ldiv n b l r qs).2.length = qs.length + l.length
  | [], r, qs, A, hr, hq, hs, _ => by simp [ldiv, undgs, hr, hq]; exact hs
  | d :: l, r, qs, A, hr, hq, hs, hl => by
    have hd := hl d List.mem_cons_self
    have hdm := Nat.div_add_mod A b
    have hrb : r < b := by rw [hr]; exact Nat.mod_lt _ hb
    have e : A * 2 ^ n + d = (r * 2 ^ n + d) + b * (A / b * 2 ^ n) := by
      rw [hr, ← Nat.mul_assoc]
      have h : A * 2 ^ n = (b * (A / b) + A % b) * 2 ^ n := by rw [hdm]
      rw [h, Nat.add_mul]; lia
    have h1 : (r * 2 ^ n + d) % b = (A * 2 ^ n + d) % b := by rw [e, Nat.add_mul_mod_self_left]
    have h2 : undgs n (qs ++ [(r * 2 ^ n + d) / b]).reverse = (A * 2 ^ n + d) / b := by
      rw [List.reverse_append, e, Nat.add_mul_div_left _ _ hb]
      simp only [List.reverse_cons, List.reverse_nil, List.nil_append, List.cons_append, undgs, hq]
      rw [Nat.mul_comm (2 ^ n) (A / b)]
    have h3 : ∀ q ∈ qs ++ [(r * 2 ^ n + d) / b], q < 2 ^ n := by
      intro q h
      rcases List.mem_append.mp h with h | h
      · exact hs q h
      · rw [List.mem_singleton.mp h]
        refine (Nat.div_lt_iff_lt_mul hb).mpr ?_
        have : (r + 1) * 2 ^ n ≤ b * 2 ^ n := Nat.mul_le_mul_right _ hrb
        rw [Nat.add_mul, Nat.one_mul] at this
        rw [Nat.mul_comm (2 ^ n) b]
        lia
    have ih := ldiv_spec n b hb l _ _ (A * 2 ^ n + d) h1 h2 h3 (fun x hx => hl x (List.mem_cons_of_mem _ hx))
    have key : undgs n l.reverse + 2 ^ (n * l.length) * (A * 2 ^ n + d) = undgs n (d :: l).reverse + 2 ^ (n * (d :: l).length) * A := by
      rw [List.reverse_cons, undgs_append, List.length_reverse, List.length_cons, Nat.mul_succ, Nat.pow_add]
      simp only [undgs, Nat.mul_zero, Nat.add_zero]
      rw [Nat.mul_add, Nat.mul_comm A, ← Nat.mul_assoc]
      lia
    rw [key] at ih
    refine ⟨ih.1, ih.2.1, ih.2.2.1, ?_⟩
    have := ih.2.2.2
    simp only [ldiv, this, List.length_append, List.length_cons, List.length_nil]
    lia
end Mine
end

section
open PySem PySem.W PyProof.Rows
set_option Elab.async false
set_option tactic.hygienic false
set_option maxRecDepth 100000
set_option linter.unusedVariables false
namespace Mine
section
variable {M : Model} {A : Around} {E : Value → Shared → Prop} {s : Shared}
noncomputable abbrev innerFd (name qual : Str) (params : Arguments) (body : List Stmt) (scope : Scope) (clos : List (Str × Addr)) (pm ctv : Value) (c : Addr) : FuncData :=
  { name, qualname := qual, params, body := .stmts body, scope, globals := mainGlobals, closure := clos, defaults := .none, kwdefaults := .none, doc := .none, pyModule := pm, annotations := none, code := .ref c, closureTuple := ctv, builtins := builtinsNs }
noncomputable def TabCase (h : Heap) (pos : Pos) (q : Str) (ps : Array Value) : Prop :=
  ps = #[] ∨ ∃ c' o', ps = #[rawInt pos.line, rawInt pos.col, .ref c'] ∧ h.get? c' = some o' ∧ o'.cls = .type "code" ∧ h.CodeRec (.ref c') q
theorem TabCase.keeps {h h' : Heap} {pos : Pos} {q : Str} {ps : Array Value} (x : TabCase h pos q ps) (k : FKept h h') : TabCase h' pos q ps := by
  rcases x with x | ⟨c', o', e, a, b, c⟩
  · exact .inl x
  · exact .inr ⟨c', o', e, k _ _ a, b, c.keeps k⟩
theorem inner_code {env : Env} {c P : Addr} {ps : Array Value} {pos : Pos} {firstLine : Nat} {name qual : Str} {params : Arguments} {scope : Scope} {body : FuncBody} {Q : Value → Shared → Prop}
    (hcode : env.code = .ref c) (C : CodeHd s.heap c P) (hP : s.heap.get? P = some (tabObj ps)) (hps : TabCase s.heap pos qual ps)
    (h : ∀ (c' : Addr) (oc : Obj) (h' : Heap) (tk : Nat) (more : Array Value), #[rawInt pos.line, rawInt pos.col, .ref c'] = ps ++ more → (∀ b o, b ≠ P → s.heap.get? b = some o → h'.get? b = some o) → h'.get? P = some (tabObj #[rawInt pos.line, rawInt pos.col, .ref c']) → h'.get? c' = some oc → oc.cls = .type "code" → h'.CodeRec (.ref c') qual →
      Q (.ref c') { s with heap := h', toks := tk }) :
    wpAny M A (functionCode env pos firstLine name qual params scope body) Q E s := by
  rcases hps with rfl | ⟨c', o', rfl, a, b, d⟩
  · refine wpAny_functionCodeX hcode (C.code hP trivial) (C.tab hP) rfl fun c' h' tk hx hge hlt zq hrec htb hin => ?_
    obtain ⟨P', _, _, ⟨⟨oc, vs, e1, e2, _⟩, _⟩⟩ := hin
    exact h c' oc h' tk _ (by simp; rfl) hx htb.2 e1 e2 hrec
  · exact wpAny_functionCode_hit hcode (C.code hP trivial) (by simp [codeAmong, rawInt]) (h c' o' s.heap s.toks #[] (by simp) (fun zq zq zq e => e) hP a b d)

theorem tup_cases {c : Bool} {l : List Value} {jp : Value → Sem Value} {Q : Value → Shared → Prop} (h : ∀ (cv : Value) (H : Heap), FKept s.heap H → wpAny M A (jp cv) Q E { s with heap := H }) :
    wpAny M A (if c = true then (pure .none >>= fun v => jp v) else (newTextTuple l >>= fun v => jp v)) Q E s := by
  cases c with
  | true => exact wpAny_bind (wpAny_pure (h .none s.heap fun zq zq e => e))
  | false => exact wpAny_bind (wpAny_newTextTuple (h _ _ fun zq zq e => Heap.get?_push_of_some _ e))
theorem make_inner {name qual : Str} {params : Arguments} {body : List Stmt} {scope : Scope} {env : Env} {mg : Str → Option Value} {c P : Addr} {ps : Array Value} {pos : Pos} {firstLine : Nat} {clos : List (Str × Addr)} {Q : Value → Shared → Prop}
    (hcl : closureFor scope env = pure clos) (hge0 : env.globals = mainGlobals) (hg : s.heap.Ns mainGlobals mg) (hcode : env.code = .ref c) (C : CodeHd s.heap c P) (hP : s.heap.get? P = some (tabObj ps)) (hps : TabCase s.heap pos qual ps)
    (hdoc : docOf body = none) (hb : ∃ bm ob, mg "__builtins__" = some (.ref bm) ∧ bm ≠ builtinsNs ∧ s.heap.get? bm = some ob ∧ ob.cls = .type "module" ∧ ob.dict = some builtinsNs ∧ ob.data = .plain)
    (h : ∀ (c' : Addr) (oc : Obj) (ctv : Value) (h' : Heap) (tk : Nat) (more : Array Value), #[rawInt pos.line, rawInt pos.col, .ref c'] = ps ++ more → (∀ b o, b ≠ P → s.heap.get? b = some o → h'.get? b = some o) → h'.get? P = some (tabObj #[rawInt pos.line, rawInt pos.col, .ref c']) → h'.get? c' = some oc → oc.cls = .type "code" → h'.CodeRec (.ref c') qual →
      Q (.ref h'.objs.size) { s with heap := h'.push { cls := .type "function", data := .func (innerFd name qual params body scope clos ((mg "__name__").getD .none) ctv c') }, toks := tk }) :
    wpAny M A (makeFunction name qual params (.stmts body) scope env [] [] [] pos firstLine) Q E s := by
  have hne : mainGlobals ≠ P := fun q => by
    obtain ⟨o, es, ep, e, d, _⟩ := hg
    rw [q, hP] at e; cases e; cases d
  obtain ⟨bm, ob, b1, b2, b3, b4, b5, b6⟩ := hb
  have hbP : bm ≠ P := fun q => by rw [q, hP] at b3; cases b3; cases b4
  rw [makeFunction_eq]
  simp only [List.zip_nil_right, List.filterMap_nil, List.isEmpty_nil, if_true, pure_bind]
  unfold makeTail
  rw [hcl]
  refine wpAny_bind (wpAny_pure ?_)
  refine tup_cases fun cv H k => ?_
  · dsimp only
    have C₁ := C.keeps k
    refine wpAny_bind (inner_code hcode C₁ (k _ _ hP) (hps.keeps k) fun c' oc h' tk more em kk e1 e2 e3 e4 => ?_)
    dsimp only at kk
    rw [hge0]
    have kk' : ∀ b o, b ≠ P → s.heap.get? b = some o → h'.get? b = some o := fun b o q e => kk b o q (k b o e)
    have hg' : h'.Ns mainGlobals mg := let ⟨o, es, ep, e, r⟩ := hg; ⟨o, es, ep, kk' _ _ hne e, r⟩
    refine wpAny_bind (wpAny_builtinsFor hg' b1 b2 (kk' _ _ hbP b3) b4 b5 b6 ?_)
    refine wpAny_bind (wpAny_nsGet hg' ?_)
    simp only [hdoc]
    exact wpAny_bind (wpAny_pure (wpAny_newObj_type (h c' oc _ h' tk more em kk' e1 e2 e3 e4) (by size_fits)))
end
end Mine
end

section
open PySem PySem.W PyProof.Rows
set_option Elab.async false
set_option tactic.hygienic false
set_option maxRecDepth 100000
set_option linter.unusedVariables false
namespace Mine

theorem TBf.but2 {name q : Str} {P P2 : Addr} {ps2 : Array Value} {h h' : Heap} (x : TBf name q P h) (hne : P ≠ P2) (h2 : h.get? P2 = some (tabObj ps2)) (hk : ∀ b o, b ≠ P2 → h.get? b = some o → h'.get? b = some o) : TBf name q P h' := by
  have hh : ∀ b o, h.get? b = some o → (∀ vs, o.data ≠ .fields vs) ∨ o.cls ≠ .none → h'.get? b = some o := fun b o e s => hk b o (fun q => by
    rw [q, h2] at e; cases e
    rcases s with s | s
    · exact s _ rfl
    · exact s rfl) e
  obtain ⟨mg, a, o, fd, c, ps, pos, ⟨om, es, ep, n1, n2, n3⟩, h1, h3, h4, h5, h6, ⟨oc, vs, file, tf, flags, tg, inF, text, tt, e1, e2, e3⟩, h7, h8⟩ := x
  refine ⟨mg, a, o, fd, c, ps, pos, ⟨om, es, ep, hh _ _ n1 (.inl fun zq e => by rw [n2] at e; cases e), n2, n3⟩, h1, hh _ _ h3 (.inl fun zq e => by rw [h4] at e; cases e), h4, h5, h6, ⟨oc, vs, file, tf, flags, tg, inF, text, tt, hh _ _ e1 (.inr fun e => by rw [e2] at e; cases e), e2, e3⟩, hk _ _ hne h7, ?_⟩
  refine h8.imp id fun z => ?_
  obtain ⟨c', o', k1, k2, k3, c₂, o₂, vs₂, t₂, k4, k5, k6, k7⟩ := z
  obtain rfl := Value.ref.inj k4
  obtain rfl := Option.some.inj (k2.symm.trans k5)
  have := hh _ _ k2 (.inr fun e => by rw [k3] at e; cases e)
  exact ⟨c', o', k1, this, k3, c', o', vs₂, t₂, rfl, this, k6, k7⟩

noncomputable def Which (name q : Str) : Prop := (name = "_int2digits" ∧ q = qDig) ∨ (name = "_digits2int" ∧ q = qInt)
theorem OldT.one {H h h' : Heap} {P Q Q' : Addr} {ps more : Array Value} (x : OldT Q Q' H h) (m : P = Q ∨ P = Q') (e0 : h.get? P = some (tabObj ps)) (e1 : h'.get? P = some (tabObj (ps ++ more))) (k : ∀ b o, b ≠ P → h.get? b = some o → h'.get? b = some o) : OldT Q Q' H h' := fun b o e t => by
  by_cases hb : b = P
  · subst hb
    rcases x b o e t with z | ⟨z, vs, m1, w, u⟩
    · rw [e0] at z; cases z
      exact .inr ⟨m, ps, more, rfl, e1⟩
    · rw [e0] at u
      have e3 : ps = vs ++ m1 := by simp only [tabObj, Option.some.injEq] at u; injection u with _ _ h3; injection h3
      subst e3
      exact .inr ⟨m, vs, m1 ++ more, w, by rw [e1, Array.append_assoc]⟩
  · rcases x b o e t with z | ⟨z, vs, m1, w, u⟩
    · exact .inl (k _ _ hb z)
    · exact .inr ⟨z, vs, m1, w, k _ _ hb u⟩
theorem TB.one {H h : Heap} {name q : Str} (x : TB H h) (w : Which name q) : ∃ P, TBf name q P h ∧ ∀ h' ps more, h.get? P = some (tabObj ps) → h'.get? P = some (tabObj (ps ++ more)) → (∀ b o, b ≠ P → h.get? b = some o → h'.get? b = some o) → TBf name q P h' → TB H h' := by
  obtain ⟨P, P', hne, a, b, c, d, t⟩ := x
  rcases w with ⟨rfl, rfl⟩ | ⟨rfl, rfl⟩
  · exact ⟨P, a, fun h' ps more e e1 k y => ⟨P, P', hne, y, b.but2 (Ne.symm hne) e k, c, d, t.one (.inl rfl) e e1 k⟩⟩
  · exact ⟨P', b, fun h' ps more e e1 k y => ⟨P, P', hne, a.but2 hne e k, y, c, d, t.one (.inr rfl) e e1 k⟩⟩

structure DefEnv (G : Gl) (name q : Str) (pos : Pos) (env : Env) : Prop where
  qual : qualnameIn env "inner" "inner" = q
  code : ∃ c a o fd, env.code = .ref c ∧ G.mg name = some (.ref a) ∧ G.h₀.get? a = some o ∧ o.data = .func fd ∧ fd.code = .ref c ∧ innerPos fd.body = some pos

section
variable {G : Gl} {W : Addr → Prop} {k : Nat} {names : List Str} {sc : List (Str × NameKind)} {A : Around} {s : Shared} {E : Value → Shared → Prop} {env : Env}

theorem def_inner {name q : Str} {params : Arguments} {ibody : List Stmt} {iscope : Scope} {pos : Pos} {cI : Addr} {ov : Option Value} (wh : Which name q) (de : DefEnv G name q pos env) (ef : EnvF env sc) (ba : Base G W s)
    (hexec : PlainDefTree "inner" params ibody iscope pos) (hdoc : docOf ibody = none) (hfree : ∀ y ∈ iscope.names, y.2 = .free → ∃ c, env.cells.lookup y.1 = some c)
    (hk : env.kindOf ("inner" : Str) = some .cell) (hc : env.cells.lookup ("inner" : Str) = some cI) (hi : s.heap.IsCell cI ov) (hw : W cI) {Q : Flow → Shared → Prop}
    (hQ : ∀ f of cl pm ctv c' oc h' tk, (∀ n c, cl.lookup n = some c → env.cells.lookup n = some c) → (∀ n, (n, NameKind.free) ∈ iscope.names → ∃ c, cl.lookup n = some c) →
      h'.get? f = some of → of.data = .func (innerFd "inner" q params ibody iscope cl pm ctv c') → s.heap.get? f = none → h'.IsCell cI (some (.ref f)) → h'.get? c' = some oc → oc.cls = .type "code" → h'.CodeRec (.ref c') q → TB G.start h' →
      (∀ b o, b ≠ cI → s.heap.get? b = some o → tabby o = false → h'.get? b = some o) → (∀ b, h'.get? b = none → s.heap.get? b = none) → Q .next { s with heap := h', toks := tk }) :
    wpAny G.M A (exec (.FunctionDef "inner" params ibody [] none [] iscope none "inner" pos) env) Q E s := by
  refine byG fun X hX => ?_
  obtain ⟨cl, hcl, hcl1, hcl2⟩ := closure_is hfree
  obtain ⟨P, tbf, back⟩ := ba.tb.one wh
  obtain ⟨c, a, o, fd, d1, d2, d3, d4, d5, d6⟩ := de.code
  have hg : s.heap.Ns mainGlobals G.mg := Ns.keepsK G.top.g ba.keep
  obtain ⟨mg', a', o', fd', c2, ps, pos', t1, t2, t3, t4, t5, t6, t7, t8, t9⟩ := tbf
  obtain rfl := Value.ref.inj (Option.some.inj (t2.symm.trans ((Ns.unique t1 hg name).trans d2)))
  obtain rfl := Option.some.inj (t3.symm.trans (ba.keep _ _ d3 (solid_func d4)))
  obtain rfl := Data.func.inj (t4.symm.trans d4)
  obtain rfl := Value.ref.inj (t5.symm.trans d5)
  obtain rfl := Option.some.inj (t6.symm.trans d6)
  obtain ⟨bm, ob, b1, b2, b3, b4, b5⟩ := G.top.bmain
  refine hX ?_
  clear hX
  rw [hexec, de.qual]
  refine wpAny_bind (wpAny_standAt (wpAny_bind (wpAny_holding (make_inner (mg := G.mg) hcl ef.globals hg d1 t7 t8 (t9.imp id fun ⟨c', o', k1, k2, k3, k4⟩ => ⟨c', o', k1, k2, k3, k4⟩) hdoc ⟨bm, ob, b1, b2, ba.keep _ _ b3 (solid_cls b4), b4, b5⟩ fun c' oc ctv h₁ tk more em kk e1 e2 e3 e4 => ?_))))
  have hcP : cI ≠ P := fun e => by obtain ⟨o, e5, e6⟩ := hi; rw [e, t8] at e5; cases e5; cases e6
  have k1 : ∀ b o, b ≠ P → s.heap.get? b = some o → (h₁.push { cls := .type "function", data := .func (innerFd "inner" q params ibody iscope cl ((G.mg "__name__").getD .none) ctv c') }).get? b = some o := fun b o q e => Heap.get?_push_of_some _ (kk b o q e)
  obtain ⟨H, hH⟩ : ∃ H, h₁.push { cls := .type "function", data := .func (innerFd "inner" q params ibody iscope cl ((G.mg "__name__").getD .none) ctv c') } = H := ⟨_, rfl⟩
  rw [hH] at k1 ⊢
  have hf : H.get? h₁.objs.size = some { cls := .type "function", data := .func (innerFd "inner" q params ibody iscope cl ((G.mg "__name__").getD .none) ctv c') } := by rw [← hH]; exact Heap.get?_push_size _ rfl
  have up : FKept h₁ H := fun b o e => by rw [← hH]; exact Heap.get?_push_of_some _ e
  have hns : s.heap.get? h₁.objs.size = none := by
    cases q : s.heap.get? h₁.objs.size with
    | none => rfl
    | some o =>
      by_cases hp : h₁.objs.size = P
      · have := Heap.lt_size e1; rw [← hp] at this; exact absurd this (Nat.lt_irrefl _)
      · exact absurd (Heap.lt_size (kk _ _ hp q)) (Nat.lt_irrefl _)
  have isI : H.IsCell cI ov := let ⟨o, a, b⟩ := hi; ⟨o, k1 _ _ hcP a, b⟩
  refine wpAny_bind (wpAny_standAt (wpAny_bind (wpAny_bindName (wpAny_storeName_cell ef.kind hk hc isI fun h' isc sb => wpAny_pure ?_))))
  dsimp only at sb
  have kI : ∀ b o, b ≠ cI → H.get? b = some o → h'.get? b = some o := fun b o q e => sb.extBut b o q e
  have k2 : ∀ b o, b ≠ cI → b ≠ P → s.heap.get? b = some o → h'.get? b = some o := fun b o q q' e => kI b o q (k1 b o q' e)
  have hfI : h₁.objs.size ≠ cI := fun e => by obtain ⟨o, e5, _⟩ := hi; rw [e, e5] at hns; cases hns
  have hcI' : c' ≠ cI := fun e => by
    obtain ⟨o, e5, e6⟩ := hi
    have := kk _ _ hcP e5
    rw [← e, e2] at this; cases this
    obtain ⟨_, _, vs, _, q1, q2, q3, _⟩ := e4
    cases q1; rw [e2] at q2; cases q2; rw [e6] at q3; cases q3
  have rec' : h'.CodeRec (.ref c') q := by
    obtain ⟨c2, o2, vs, t, q1, q2, q3⟩ := e4
    cases q1
    exact ⟨c', o2, vs, t, rfl, kI _ _ hcI' (up _ _ q2), q3⟩
  -- the tables
  have tbH : TB G.start H := by
    refine back H ps more t8 (by rw [← em]; exact up _ _ e1) k1 ⟨G.mg, _, _, _, _, _, _, ?_, d2, k1 _ _ (fun e => by rw [e, t8] at t3; cases t3; cases t4) t3, t4, t5, t6, ?_, up _ _ e1, .inr ⟨c', oc, rfl, up _ _ e2, e3, ?_⟩⟩
    · obtain ⟨om, es, ep, n1, n2, n3⟩ := hg
      exact ⟨om, es, ep, k1 _ _ (fun e => by rw [e, t8] at n1; cases n1; cases n2) n1, n2, n3⟩
    · obtain ⟨oc, vs, file, tf, flags, tg, inF, text, tt, q1, q2, q3⟩ := t7
      exact ⟨oc, vs, file, tf, flags, tg, inF, text, tt, k1 _ _ (fun e => by rw [e, t8] at q1; cases q1; cases q2) q1, q2, q3⟩
    · exact e4.keeps up
  obtain ⟨oI, eI, cI'⟩ := codey_cell isI
  have tb' : TB G.start h' := tbH.change kI (ba.notMain hw) eI cI'
  refine hQ h₁.objs.size _ cl _ ctv c' oc h' _ hcl1 hcl2 (kI _ _ hfI hf) rfl hns isc (kI _ _ hcI' (up _ _ e2)) e3 rec' tb' (fun b ob hb e hs => k2 b ob hb (fun q => by rw [q, t8] at e; cases e; cases hs) e) fun b e => ?_
  have g1 : H.get? b = none := none_but kI (by obtain ⟨o, e, _⟩ := isc; rw [e]; rfl) b e
  cases q : s.heap.get? b with
  | none => rfl
  | some o =>
    by_cases hp : b = P
    · rw [hp, up _ _ e1] at g1; cases g1
    · rw [k1 b o hp q] at g1; cases g1
end
end Mine
end

section
open PySem PySem.W PyProof.Rows
set_option Elab.async false
set_option tactic.hygienic false
set_option maxRecDepth 100000
set_option linter.unusedVariables false
namespace Mine
noncomputable def Chg (X : Addr → Prop) (s s' : Shared) : Prop := ∃ h tk, s' = { s with heap := h, toks := tk } ∧ (∀ b o, ¬ X b → s.heap.get? b = some o → tabby o = false → h.get? b = some o) ∧ (∀ b, h.get? b = none → s.heap.get? b = none) ∧ (∀ H, TB H s.heap → TB H h)
noncomputable abbrev NoW : Addr → Prop := fun zq => False
section
variable {G : Gl} {k : Nat} {names : List Str} {sc : List (Str × NameKind)} {A : Around} {E : Value → Shared → Prop} {env : Env} {X Y : Addr → Prop} {a b c s s' : Shared}
theorem Chg.refl (s : Shared) : Chg X s s := ⟨s.heap, s.toks, rfl, fun zq zq zq e zq => e, fun zq e => e, fun zq x => x⟩
theorem Chg.trans (x : Chg X a b) (y : Chg X b c) : Chg X a c := by
  obtain ⟨h, t, rfl, k, g, w⟩ := x
  obtain ⟨h', t', rfl, k', g', w'⟩ := y
  exact ⟨h', t', rfl, fun b o nx e s => k' b o nx (k b o nx e s) s, fun b e => g b (g' b e), fun H x => w' H (w H x)⟩
theorem Chg.mono (x : Chg X a b) (h : ∀ d, X d → Y d ∨ a.heap.get? d = none) : Chg Y a b := by
  obtain ⟨h', t, rfl, k, g, w⟩ := x
  exact ⟨h', t, rfl, fun d o ny e s => k d o (fun q => by
    rcases h d q with h | h
    · exact ny h
    · rw [h] at e; cases e) e s, g, w⟩
theorem Ext.chg (x : Ext a b) : Chg X a b := by obtain ⟨h, t, rfl, k, g, w⟩ := x; exact ⟨h, t, rfl, fun d o zq e s => k d o e s, g, w⟩
theorem Chg.ext (x : Chg NoW a b) : Ext a b := by obtain ⟨h, t, rfl, k, g, w⟩ := x; exact ⟨h, t, rfl, fun d o e s => k d o (fun q => q) e s, g, w⟩
theorem Chg.kept (x : Chg X a b) : ∀ d o, ¬ X d → a.heap.get? d = some o → tabby o = false → b.heap.get? d = some o := by obtain ⟨h, t, rfl, k, g, w⟩ := x; exact k
theorem Chg.gone (x : Chg X a b) {d : Addr} (e : b.heap.get? d = none) : a.heap.get? d = none := by obtain ⟨h, t, rfl, k, g, w⟩ := x; exact g d e
theorem Chg.tb {H : Heap} (x : Chg X a b) (t0 : TB H a.heap) : TB H b.heap := by obtain ⟨h, t, rfl, k, g, w⟩ := x; exact w H t0
theorem Chg.some (x : Chg X a b) {d : Addr} (e : (a.heap.get? d).isSome = true) : (b.heap.get? d).isSome = true := by
  cases q : b.heap.get? d with
  | none => rw [x.gone q] at e; cases e
  | some o => rfl
theorem Base.chg (ba : Base G NoW a) (x : Chg X a b) (hX : ∀ d, X d → G.h₀.get? d = none) : Base G NoW b :=
  ⟨fun d o e s => x.kept d o (fun q => by rw [hX d q] at e; cases e) (ba.keep d o e s) s, fun d e => ba.gone d (x.gone e), x.tb ba.tb, fun d w => w.elim⟩
theorem Base.noW {W : Addr → Prop} (ba : Base G W a) : Base G NoW a := ⟨ba.keep, ba.gone, ba.tb, fun d w => w.elim⟩

structure FR (env : Env) (names : List Str) (sl : List Slot) (h : Heap) : Prop where
  ns : ∃ m, h.Ns env.locals m
  rs : RS NoW env names sl h
  flat : ∀ (i : Nat) (sv : Slot), sl[i]? = some sv → sv = Slot.unset ∨ ∃ a : AV, sv = Slot.val a ∧ a.flat = true
theorem FR.store {sl : List Slot} {h h' : Heap} {i : Nat} {x : Str} {v : Value} {a : AV} {m : Str → Option Value} (fr : FR env names sl h) (nd : names.Nodup) (hx : names[i]? = some x) (hl : env.kindOf x = some .local) (hn : h.Ns env.locals m)
    (hn' : h'.Ns env.locals (fun y => if y = x then some v else m y)) (sb : Heap.SameBut env.locals h h') (ra : RepV NoW h' a v) (fl : a.flat = true) : FR env names (sl.set i (.val a)) h' where
  ns := ⟨_, hn'⟩
  rs := by
    intro j y sv hy hs hne
    rcases set_get hs with ⟨rfl, rfl⟩ | ⟨hij, hs⟩
    · rw [hx] at hy; cases hy
      refine ⟨_, .inl ⟨hl, _, hn', by simp⟩, v, rfl, ra, ?_⟩
      cases a <;> first | rfl | cases fl
    · obtain ⟨ov, l, r⟩ := fr.rs j y sv hy hs hne
      have hyx : y ≠ x := fun q => hij (nodup_idx nd hx (q ▸ hy))
      refine ⟨ov, ?_, ?_⟩
      · rcases l with ⟨q, m', n', e⟩ | ⟨q, c, hc, o, ho, hd⟩
        · refine .inl ⟨q, _, hn', ?_⟩
          simp only [if_neg hyx]
          rw [Ns.unique hn n' y]; exact e
        · exact .inr ⟨q, c, hc, o, sb.extBut _ _ (fun q => by obtain ⟨o', es, ep, e1, e2, _⟩ := hn; rw [← q, ho] at e1; cases e1; rw [hd] at e2; cases e2) ho, hd⟩
      · rcases fr.flat j sv hs with rfl | ⟨a', rfl, fa⟩
        · exact absurd rfl hne
        · obtain ⟨u, e, ru, f⟩ := r
          exact ⟨u, e, (by cases a' <;> first | exact ru | cases fa), f⟩
  flat := by
    intro j sv hs
    rcases set_get hs with ⟨rfl, rfl⟩ | ⟨_, hs⟩
    · exact .inr ⟨a, rfl, fl⟩
    · exact fr.flat j sv hs
theorem FR.move {sl : List Slot} {h h' : Heap} (fr : FR env names sl h) (kk : ∀ b o, (∀ xs n, o.data ≠ .seq xs n) → tabby o = false → h.get? b = some o → h'.get? b = some o) : FR env names sl h' where
  ns := let ⟨m, o, es, ep, e, d, r⟩ := fr.ns; ⟨m, o, es, ep, kk _ _ (fun zq zq q => by rw [d] at q; cases q) (solid_dict d) e, d, r⟩
  rs := by
    intro j y sv hy hs hne
    obtain ⟨ov, l, r⟩ := fr.rs j y sv hy hs hne
    refine ⟨ov, ?_, ?_⟩
    · rcases l with ⟨q, m, ⟨o, es, ep, e, d, rr⟩, e'⟩ | ⟨q, c, hc, o, ho, hd⟩
      · exact .inl ⟨q, m, ⟨o, es, ep, kk _ _ (fun zq zq q => by rw [d] at q; cases q) (solid_dict d) e, d, rr⟩, e'⟩
      · exact .inr ⟨q, c, hc, o, kk _ _ (fun zq zq q => by rw [hd] at q; cases q) (solid_cell hd) ho, hd⟩
    · rcases fr.flat j sv hs with rfl | ⟨a', rfl, fa⟩
      · exact absurd rfl hne
      · obtain ⟨u, e, ru, f⟩ := r
        exact ⟨u, e, (by cases a' <;> first | exact ru | cases fa), f⟩
  flat := fr.flat
theorem FR.ext {sl : List Slot} (fr : FR env names sl a.heap) (x : Ext a b) : FR env names sl b.heap := fr.move fun d o zq s e => x.kept d o e s
theorem FR.assign {sl : List Slot} {f : List Slot → Option AV} {av : AV} {i : Nat} {x : Str} {p q : Pos} {e : Expr} {Q : Flow → Shared → Prop} (ro : Room A k) (ef : EnvF env sc) (ba : Base G NoW s) (fr : FR env names sl s.heap) (nd : names.Nodup)
    (hx : names[i]? = some x) (hl : sc.lookup x = some .local) (he : EvS G NoW k names sc e f) (hs : ∀ env, swapsWith e (some (.Name x p)) q.line env = pure false) (hL : G.h₀.get? env.locals = none) (hf : f sl = some av) (fl : av.flat = true)
    (hQ : ∀ s', Chg (· = env.locals) s s' → FR env names (sl.set i (.val av)) s'.heap → Q .next s') : wpAny G.M A (exec (.Assign [.Name x p] e q) env) Q (fun zq zq => False) s := by
  refine wpAny_Assign_Name (he A env s sl ro ef fr.rs ba av hf _ fun v s₁ x₁ r₁ => ?_) (hs env)
  have fr₁ := fr.ext x₁
  obtain ⟨m, hn⟩ := fr₁.ns
  have hl' : env.kindOf x = some .local := by unfold Env.kindOf; rw [ef.names]; exact hl
  refine wpAny_storeName_local hl' hn (fun h' hn' sb => ?_) (by rw [ef.kind]; rfl)
  have tb₁ := x₁.tb ba.tb
  obtain ⟨o, e1, c1⟩ := codey_ns hn
  have kk : ∀ b o, b ≠ env.locals → s₁.heap.get? b = some o → h'.get? b = some o := fun b o hb e => sb.extBut b o hb e
  have hM : env.locals ≠ mainGlobals := fun q => by
    obtain ⟨o, es, ep, e, _⟩ := G.top.g
    rw [← q, hL] at e; cases e
  refine hQ _ ((Ext.chg x₁).trans ⟨h', _, rfl, fun b o hb e zq => kk b o hb e, none_but kk (by obtain ⟨o, e, _⟩ := codey_ns hn'; rw [e]; rfl), fun zq t => t.change kk hM e1 c1⟩) ?_
  refine fr₁.store nd hx hl' hn hn' sb ?_ fl
  cases av <;> first | exact r₁ | cases fl
end
end Mine
end

section
open PySem PySem.W PyProof.Rows
set_option Elab.async false
set_option tactic.hygienic false
set_option maxRecDepth 100000
set_option linter.unusedVariables false
namespace Mine
noncomputable abbrev iNames : List Str := ["x", "L", "R", "mid", "shift", "upper", "lower", "n"]
noncomputable abbrev iSc : List (Str × NameKind) := [("x", .local), ("L", .local), ("R", .local), ("mid", .local), ("shift", .local), ("upper", .local), ("lower", .local), ("a_digits", .free), ("inner", .free), ("n", .free)]
set_option autoImplicit true in
inductive IsI2D : List Stmt → Prop
  | mk : IsI2D [
      .If (.Compare (.BinOp (.Name "L" p1) .Add (.Constant (.int 1) k1 p2) p3) [.Eq] [.Name "R" p4] p5) [.Assign [.Subscript (.Name "a_digits" p6) (.Name "L" p7) p8] (.Name "x" p9) p10, .Return none p11] [] p12,
      .Assign [.Name "mid" p13] (.BinOp (.BinOp (.Name "L" p14) .Add (.Name "R" p15) p16) .RShift (.Constant (.int 1) k2 p17) p18) p19,
      .Assign [.Name "shift" p20] (.BinOp (.BinOp (.Name "mid" p21) .Sub (.Name "L" p22) p23) .Mult (.Name "n" p24) p25) p26,
      .Assign [.Name "upper" p27] (.BinOp (.Name "x" p28) .RShift (.Name "shift" p29) p30) p31,
      .Assign [.Name "lower" p32] (.BinOp (.Name "x" p33) .BitXor (.BinOp (.Name "upper" p34) .LShift (.Name "shift" p35) p36) p37) p38,
      .Expr (.Call (.Name "inner" p39) [.Name "lower" p40, .Name "L" p41, .Name "mid" p42] [] p43) p44,
      .Expr (.Call (.Name "inner" p45) [.Name "upper" p46, .Name "mid" p47, .Name "R" p48] [] p49) p50]

structure InS (h : Heap) (q : Str) (params : Arguments) (ibody : List Stmt) (iscope : Scope) (f : Addr) (cl : List (Str × Addr)) (cs : List (Str × Value)) : Prop where
  fn : ∃ of pm ctv c' oc, h.get? f = some of ∧ of.data = .func (innerFd "inner" q params ibody iscope cl pm ctv c') ∧ h.get? c' = some oc ∧ oc.cls = .type "code" ∧ h.CodeRec (.ref c') q
  cells : ∀ x v, cs.lookup x = some v → ∃ c, cl.lookup x = some c ∧ h.IsCell c (some v)
theorem InS.move {h h' : Heap} {q params ibody iscope f cl cs} (x : InS h q params ibody iscope f cl cs) (kk : ∀ b o, (∀ xs n, o.data ≠ .seq xs n) → tabby o = false → h.get? b = some o → h'.get? b = some o) : InS h' q params ibody iscope f cl cs where
  fn := by
    obtain ⟨of, pm, ctv, c', oc, e1, e2, e3, e4, c2, o2, vs, t, q1, q2, q3, q4⟩ := x.fn
    cases q1
    rw [e3] at q2; cases q2
    have := kk _ _ (fun zq zq q => by rw [q3] at q; cases q) (solid_cls e4) e3
    exact ⟨of, pm, ctv, c', oc, kk _ _ (fun zq zq q => by rw [e2] at q; cases q) (solid_func e2) e1, e2, this, e4, c', oc, vs, t, rfl, this, q3, q4⟩
  cells := fun y v hv => let ⟨c, e, o, ho, hd⟩ := x.cells y v hv; ⟨c, e, o, kk _ _ (fun zq zq q => by rw [hd] at q; cases q) (solid_cell hd) ho, hd⟩
theorem chg_nonseq {D : Addr} {a b : Shared} (x : Chg (· = D) a b) {us : Array Value} (hD : a.heap.PlainList D us) : ∀ d o, (∀ xs n, o.data ≠ .seq xs n) → tabby o = false → a.heap.get? d = some o → b.heap.get? d = some o := fun d o hs s e =>
  x.kept d o (fun q => by obtain ⟨n, e'⟩ := hD; rw [q, e'] at e; cases e; exact hs _ _ rfl) e s
noncomputable abbrev intL (ds : List Int) : List AV := ds.map .int
theorem RepL.intL_any {W W' : Addr → Prop} {h h' : Heap} : ∀ {ds : List Int} {vs : List Value}, RepL W h (intL ds) vs → RepL W' h' (intL ds) vs
  | [], _, r => r
  | d :: ds, _, ⟨v, q, e, a, b⟩ => ⟨v, q, e, a, RepL.intL_any b⟩
theorem RepL.intL_set {W : Addr → Prop} {h : Heap} {ds : List Int} {vs : List Value} {j : Nat} {x : Int} {t : Tok} (r : RepL W h (intL ds) vs) : RepL W h (intL (ds.set j x)) (vs.set j (.int x t)) := by
  rw [show intL (ds.set j x) = (intL ds).set j (.int x) from List.map_set]
  exact r.set j ⟨t, rfl⟩

section
variable {G : Gl} {A : Around} {s : Shared} {E : Value → Shared → Prop} {q : Str} {params : Arguments} {ibody : List Stmt} {iscope : Scope} {f : Addr} {cl : List (Str × Addr)}

theorem i2d_mid (L R : Nat) : ((L : Int) + (R : Int)).fdiv (2 ^ (1 : Int).toNat) = (((L + R) / 2 : Nat) : Int) := by
  rw [show (2 : Int) ^ (1 : Int).toNat = ((2 : Nat) : Int) from rfl, Int.fdiv_eq_ediv_of_nonneg _ (Int.natCast_nonneg _), ← Int.natCast_add, ← Int.natCast_ediv]
theorem i2d_rsh (x s : Nat) : (x : Int).fdiv (2 ^ ((s : Nat) : Int).toNat) = ((x / 2 ^ s : Nat) : Int) := by
  rw [Int.toNat_natCast, Int.fdiv_eq_ediv_of_nonneg _ (by exact_mod_cast Nat.zero_le (2 ^ s)), Int.natCast_ediv, Int.natCast_pow]; rfl
theorem small_of_lt {a : Nat} {k : Nat} (h : a < 2 ^ k) (hk : k ≤ 4000) : small (a : Int) = true := by
  unfold small BIG
  refine decide_eq_true ?_
  show a < _
  exact Nat.lt_of_lt_of_le h (Nat.pow_le_pow_right (by decide) hk)
theorem small_nat {a : Nat} (h : a < 10000000) : small (a : Int) = true := small_of_lt (k := 24) (Nat.lt_of_lt_of_le h (by decide)) (by decide)
theorem chg_list {a : Shared} {h' : Heap} {D : Addr} {us us' : Array Value} (hD : a.heap.PlainList D us) (hD' : h'.PlainList D us') (sb : Heap.SameBut D a.heap h') (hM : D ≠ mainGlobals) {tk : Nat} : Chg (· = D) a { a with heap := h', toks := tk } := by
  obtain ⟨o, e, c⟩ := codey_list hD
  exact ⟨h', tk, rfl, fun b o hb e zq => sb.extBut b o hb e, none_but (fun b o hb e => sb.extBut b o hb e) (by obtain ⟨n, e⟩ := hD'; rw [e]; rfl), fun zq t => t.change (fun b o hb e => sb.extBut b o hb e) hM e c⟩
theorem i2d_lists {ds : List Int} {L a b : Nat} {l u : List Int} (hl : l.length = a) (hu : u.length = b) (h : L + (a + b) ≤ ds.length) :
    ((ds.take L ++ l ++ ds.drop (L + a)).take (L + a) ++ u ++ (ds.take L ++ l ++ ds.drop (L + a)).drop (L + a + b)) = ds.take L ++ (l ++ u) ++ ds.drop (L + (a + b)) := by
  have h1 : (ds.take L ++ l).length = L + a := by rw [List.length_append, List.length_take, hl]; lia
  rw [List.take_left' h1, List.drop_append, List.drop_eq_nil_of_le (by lia), h1, List.drop_drop]
  simp only [List.nil_append, List.append_assoc]
  congr 4
  lia

theorem i2d_sh (L : Nat) {n a : Nat} (ha : a < 10000000) (hn : n < 10000000) : (intBin .Mult (((L + a : Nat) : Int) - (L : Int)) (n : Int)).map AV.int = some (AV.int ((n * a : Nat) : Int)) := by
  rw [show (((L + a : Nat) : Int) - (L : Int)) = ((a : Nat) : Int) by lia]
  show (if (small (a : Int) && small (n : Int)) = true then some ((a : Int) * (n : Int)) else none).map AV.int = _
  rw [if_pos (by rw [small_nat ha, small_nat hn]; rfl)]
  show some (AV.int ((a : Int) * (n : Int))) = _
  rw [Int.mul_comm, ← Int.natCast_mul]
theorem i2d_up (x d : Nat) : (intBin .RShift (x : Int) (d : Int)).map AV.int = some (AV.int ((x / 2 ^ d : Nat) : Int)) := by
  show (if (0 : Int) ≤ (d : Int) then some ((x : Int).fdiv (2 ^ ((d : Int)).toNat)) else none).map AV.int = _
  rw [if_pos (Int.natCast_nonneg _), i2d_rsh]; rfl
theorem i2d_lo {x d K : Nat} (hx : x < 2 ^ K) (hK : K ≤ 4000) (hd : d < 10000000) : ((intBin .LShift ((x / 2 ^ d : Nat) : Int) (d : Int)).map AV.int).bind (fun b => binV .BitXor (.int x) b) = some (AV.int ((x % 2 ^ d : Nat) : Int)) := by
  show ((if (small ((x / 2 ^ d : Nat) : Int) && decide ((0 : Int) ≤ (d : Int)) && decide ((d : Int) < 10000000)) = true then some (((x / 2 ^ d : Nat) : Int) * 2 ^ ((d : Int)).toNat) else none).map AV.int).bind (fun b => binV .BitXor (.int x) b) = _
  rw [if_pos (by rw [small_of_lt (Nat.lt_of_le_of_lt (Nat.div_le_self _ _) hx) hK, decide_eq_true (Int.natCast_nonneg _), decide_eq_true (by lia)]; rfl)]
  show some (AV.int (Builtin.bitXor (x : Int) (((x / 2 ^ d : Nat) : Int) * 2 ^ ((d : Int)).toNat))) = _
  rw [Int.toNat_natCast, show ((x / 2 ^ d : Nat) : Int) * 2 ^ d = ((x / 2 ^ d * 2 ^ d : Nat) : Int) by rw [Int.natCast_mul, Int.natCast_pow]; rfl, bitXor_low]
structure ICx (G : Gl) (A : Around) (env : Env) (k : Nat) (sc : List (Str × NameKind)) (s : Shared) : Prop where
  ro : Room A k
  ef : EnvF env sc
  hL : G.h₀.get? env.locals = none
  ba : Base G NoW s
noncomputable def nI (n : Nat) : Slot := .val (.int (n : Int))
noncomputable def iS (x L R : Nat) (mid sh up lo : Slot) (n : Nat) : List Slot := [nI x, nI L, nI R, mid, sh, up, lo, nI n]
noncomputable def Nx (G : Gl) (A : Around) (env : Env) (names : List Str) (st : Stmt) (s : Shared) (sl : List Slot) : Prop := ∀ Q : Flow → Shared → Prop, (∀ s', Chg (· = env.locals) s s' → FR env names sl s'.heap → Q .next s') → wpAny G.M A (exec st env) Q (fun zq zq => False) s
theorem Nx.cons {env : Env} {names : List Str} {st : Stmt} {rest : List Stmt} {sl : List Slot} {P : Flow → Shared → Prop} (h : Nx G A env names st s sl) (hr : ∀ s', Chg (· = env.locals) s s' → FR env names sl s'.heap → wpAny G.M A (execs rest env) P (fun zq zq => False) s') : wpAny G.M A (execs (st :: rest) env) P (fun zq zq => False) s :=
  wpAny_execs_cons (h _ fun s' c r => hr s' c r)
noncomputable def CallI (G : Gl) (A : Around) (env : Env) (st : Stmt) (s : Shared) (a b c : Nat) : Prop := ∀ (cI f : Addr) (of : Obj) (fd : FuncData) (P : Flow → Shared → Prop), env.cells.lookup ("inner" : Str) = some cI → s.heap.IsCell cI (some (.ref f)) → s.heap.get? f = some of → of.data = .func fd →
  (∀ s' ta tb tc, Ext s s' → wpAny G.M A (call (.ref f) [.int a ta, .int b tb, .int c tc]) (fun v s'' => v = .none ∧ P .next s'') (fun zq zq => False) s') → wpAny G.M A (exec st env) P (fun zq zq => False) s
theorem callI {env : Env} {k : Nat} {sl : List Slot} {p p2 p3 : Pos} {e1 e2 e3 : Expr} {a b c : Nat} {f1 f2 f3 : List Slot → Option AV} (cx : ICx G A env k iSc s) (fr : FR env iNames sl s.heap) (h1 : EvS G NoW k iNames iSc e1 f1) (h2 : EvS G NoW k iNames iSc e2 f2) (h3 : EvS G NoW k iNames iSc e3 f3)
    (n1 : notStar e1 = true) (n2 : notStar e2 = true) (n3 : notStar e3 = true) (q1 : f1 sl = some (.int a)) (q2 : f2 sl = some (.int b)) (q3 : f3 sl = some (.int c)) : CallI G A env (.Expr (.Call (.Name "inner" p) [e1, e2, e3] [] p2) p3) s a b c := by
  intro cI f of fd P dI iI hf hd hP
  have hni : interactive env = false := by unfold interactive; rw [cx.ef.kind]; rfl
  have kI : env.kindOf ("inner" : Str) = some .free := by unfold Env.kindOf; rw [cx.ef.names]; rfl
  refine wpAny_Expr (Call_ (wpAny_Name (wpAny_loadName_free cx.ef.kind kI dI iI (callWith_def hd ((EvL.cons h1 (EvL.cons h2 (EvL.cons h3 EvL.nil n3) n2) n1).2 A env s _ _ cx.ro cx.ef fr.rs cx.ba [.int a, .int b, .int c] (by simp [consV, q1, q2, q3]) _ fun vs s' x' r' => ⟨x'.kept f of hf (solid_func hd), ?_⟩) (starEach_cons n1))) (by decide +kernel))) hni
  obtain ⟨v1, _, rfl, ⟨ta, rfl⟩, v2, _, rfl, ⟨tb, rfl⟩, v3, _, rfl, ⟨tc, rfl⟩, rfl⟩ := r'
  exact wpAny_mono (hP s' ta tb tc x') (fun v zq h => by obtain ⟨rfl, h⟩ := h; exact h) fun zq zq f => f
structure I2D (s0 s1 s2 s3 s4 s5 s6 : Stmt) : Prop where
  if0 : ∀ {G A env k s x L R n}, ICx G A env k iSc s → FR env iNames (iS x L R .unset .unset .unset .unset n) s.heap → ∀ (cD D : Addr) (us : List Value) (P : Flow → Shared → Prop), env.cells.lookup ("a_digits" : Str) = some cD → s.heap.IsCell cD (some (.ref D)) → s.heap.PlainList D us.toArray → L < us.length → us.length < 1000000 → D ≠ mainGlobals →
    (L + 1 = R → ∀ s' tv, Chg (· = D) s s' → s'.heap.PlainList D (us.set L (.int x tv)).toArray → P (.ret .none) s') → (L + 1 ≠ R → ∀ s', Ext s s' → P .next s') → wpAny G.M A (exec s0 env) P (fun zq zq => False) s
  mid : ∀ {G A env k s x L R n}, ICx G A env k iSc s → FR env iNames (iS x L R .unset .unset .unset .unset n) s.heap → Nx G A env iNames s1 s (iS x L R (nI ((L + R) / 2)) .unset .unset .unset n)
  sh : ∀ {G A env k s x L R n a}, ICx G A env k iSc s → FR env iNames (iS x L R (nI (L + a)) .unset .unset .unset n) s.heap → a < 10000000 → n < 10000000 → Nx G A env iNames s2 s (iS x L R (nI (L + a)) (nI (n * a)) .unset .unset n)
  up : ∀ {G A env k s x L R n mid d}, ICx G A env k iSc s → FR env iNames (iS x L R mid (nI d) .unset .unset n) s.heap → Nx G A env iNames s3 s (iS x L R mid (nI d) (nI (x / 2 ^ d)) .unset n)
  lo : ∀ {G A env k s x L R n mid d K}, ICx G A env k iSc s → FR env iNames (iS x L R mid (nI d) (nI (x / 2 ^ d)) .unset n) s.heap → x < 2 ^ K → K ≤ 4000 → d < 10000000 → Nx G A env iNames s4 s (iS x L R mid (nI d) (nI (x / 2 ^ d)) (nI (x % 2 ^ d)) n)
  c1 : ∀ {G A env k s x L R n mid sh up lo}, ICx G A env k iSc s → FR env iNames (iS x L R (nI mid) sh up (nI lo) n) s.heap → CallI G A env s5 s lo L mid
  c2 : ∀ {G A env k s x L R n mid sh up lo}, ICx G A env k iSc s → FR env iNames (iS x L R (nI mid) sh (nI up) lo n) s.heap → CallI G A env s6 s up mid R
theorem iNd : iNames.Nodup := by decide +kernel
theorem i2d_f0 {env : Env} {k x L R n : Nat} {p1 p2 p3 p4 p5 p6 p7 p8 p9 p10 p11 p12 : Pos} {k1 : Nat} (cx : ICx G A env k iSc s) (fr : FR env iNames (iS x L R .unset .unset .unset .unset n) s.heap) (cD D : Addr) (us : List Value) (P : Flow → Shared → Prop) (dD : env.cells.lookup ("a_digits" : Str) = some cD) (iD : s.heap.IsCell cD (some (.ref D))) (hpl : s.heap.PlainList D us.toArray) (hL : L < us.length) (hlen : us.length < 1000000) (hDM : D ≠ mainGlobals)
    (hb : L + 1 = R → ∀ s' tv, Chg (· = D) s s' → s'.heap.PlainList D (us.set L (.int x tv)).toArray → P (.ret .none) s') (hn : L + 1 ≠ R → ∀ s', Ext s s' → P .next s') :
    wpAny G.M A (exec (.If (.Compare (.BinOp (.Name "L" p1) .Add (.Constant (.int 1) k1 p2) p3) [.Eq] [.Name "R" p4] p5) [.Assign [.Subscript (.Name "a_digits" p6) (.Name "L" p7) p8] (.Name "x" p9) p10, .Return none p11] [] p12) env) P (fun zq zq => False) s := by
  refine wpAny_If ((TsS.cmp (EvS.bin (EvS.var (i := 1) (by rfl) (by decide +kernel) (by decide +kernel)) EvS.int) (EvS.var (i := 2) (by rfl) (by decide +kernel) (by decide +kernel)) (by rfl)) A env s _ cx.ro cx.ef fr.rs cx.ba (.bool ((L : Int) + 1 == (R : Int))) ((L : Int) + 1 == (R : Int)) rfl rfl _ fun s₂ x₂ => ?_)
  by_cases h : L + 1 = R
  · rw [if_pos (by subst h; simp)]
    have fr₂ := fr.ext x₂
    refine wpAny_execs_cons (wpAny_Assign_Subscript ((EvS.var (i := 0) (by rfl) (by decide +kernel) (by decide +kernel)) A env s₂ _ cx.ro cx.ef fr₂.rs (cx.ba.ext x₂) (.int x) rfl _ fun v s₃ x₃ r₃ => ?_) rfl)
    obtain ⟨tv, rfl⟩ := r₃
    have x₃ := x₂.trans x₃
    refine wpAny_Name (wpAny_loadName_free cx.ef.kind (by unfold Env.kindOf; rw [cx.ef.names]; rfl) dD (IsCell.keepsK iD x₃.kept) ?_) (by decide +kernel)
    refine (EvS.var (i := 1) (by rfl) (by decide +kernel) (by decide +kernel)) A env s₃ _ cx.ro cx.ef (fr.ext x₃).rs (cx.ba.ext x₃) (.int L) rfl _ fun v s₄ x₄ r₄ => ?_
    obtain ⟨tw, rfl⟩ := r₄
    have x₄ := x₃.trans x₄
    have hpl₄ := PlainList.grow x₄.kept hpl
    refine setItem_plain hpl₄ (by lia) (by lia) (by rw [List.size_toArray]; lia) fun h' hpl' sb => ?_
    refine wpAny_execs_cons ?_
    rw [exec_Return_none]
    exact wpAny_bind (wpAny_standAt (wpAny_pure (hb h _ tv ((Ext.chg x₄).trans (chg_list (tk := s₄.toks) hpl₄ hpl' sb hDM)) (by simpa using hpl'))))
  · rw [if_neg (by rw [beq_iff_eq]; lia)]
    exact wpAny_execs_nil (hn h _ x₂)
theorem i2d_facts {b : List Stmt} (hb : IsI2D b) : ∃ s0 s1 s2 s3 s4 s5 s6, b = [s0, s1, s2, s3, s4, s5, s6] ∧ I2D s0 s1 s2 s3 s4 s5 s6 := by
  cases hb
  refine ⟨_, _, _, _, _, _, _, rfl, ⟨i2d_f0, ?_, ?_, ?_, ?_, ?_, ?_⟩⟩
  · intro G A env k s x L R n cx fr Q hQ
    exact FR.assign (i := 3) (av := .int (((L + R) / 2 : Nat) : Int)) cx.ro cx.ef cx.ba fr iNd (by rfl) (by rfl) (EvS.bin (EvS.bin (EvS.var (i := 1) (by rfl) (by decide +kernel) (by decide +kernel)) (EvS.var (i := 2) (by rfl) (by decide +kernel) (by decide +kernel))) EvS.int) (fun zq => rfl) cx.hL
      (by show some (AV.int (((L : Int) + (R : Int)).fdiv (2 ^ (1 : Int).toNat))) = _
          rw [i2d_mid]) rfl hQ
  · intro G A env k s x L R n a cx fr ha hn Q hQ
    exact FR.assign (i := 4) (av := .int ((n * a : Nat) : Int)) cx.ro cx.ef cx.ba fr iNd (by rfl) (by rfl) (EvS.bin (EvS.bin (EvS.var (i := 3) (by rfl) (by decide +kernel) (by decide +kernel)) (EvS.var (i := 1) (by rfl) (by decide +kernel) (by decide +kernel))) (EvS.var (i := 7) (by rfl) (by decide +kernel) (by decide +kernel))) (fun zq => rfl) cx.hL (i2d_sh L ha hn) rfl hQ
  · intro G A env k s x L R n mid d cx fr Q hQ
    exact FR.assign (i := 5) (av := .int ((x / 2 ^ d : Nat) : Int)) cx.ro cx.ef cx.ba fr iNd (by rfl) (by rfl) (EvS.bin (EvS.var (i := 0) (by rfl) (by decide +kernel) (by decide +kernel)) (EvS.var (i := 4) (by rfl) (by decide +kernel) (by decide +kernel))) (fun zq => rfl) cx.hL (i2d_up x d) rfl hQ
  · intro G A env k s x L R n mid d K cx fr hx hK hd Q hQ
    exact FR.assign (i := 6) (av := .int ((x % 2 ^ d : Nat) : Int)) cx.ro cx.ef cx.ba fr iNd (by rfl) (by rfl) (EvS.bin (EvS.var (i := 0) (by rfl) (by decide +kernel) (by decide +kernel)) (EvS.bin (EvS.var (i := 5) (by rfl) (by decide +kernel) (by decide +kernel)) (EvS.var (i := 4) (by rfl) (by decide +kernel) (by decide +kernel)))) (fun zq => rfl) cx.hL (i2d_lo hx hK hd) rfl hQ
  · intro G A env k s x L R n mid sh up lo cx fr
    exact callI cx fr (EvS.var (i := 6) (by rfl) (by decide +kernel) (by decide +kernel)) (EvS.var (i := 1) (by rfl) (by decide +kernel) (by decide +kernel)) (EvS.var (i := 3) (by rfl) (by decide +kernel) (by decide +kernel)) (by rfl) (by rfl) (by rfl) rfl rfl rfl
  · intro G A env k s x L R n mid sh up lo cx fr
    exact callI cx fr (EvS.var (i := 5) (by rfl) (by decide +kernel) (by decide +kernel)) (EvS.var (i := 3) (by rfl) (by decide +kernel) (by decide +kernel)) (EvS.var (i := 2) (by rfl) (by decide +kernel) (by decide +kernel)) (by rfl) (by rfl) (by rfl) rfl rfl rfl
theorem firm_of_flat {a : AV} (h : a.flat = true) : a.firm = true := by cases a <;> first | rfl | cases h
noncomputable def FS (env : Env) (h : Heap) (y : Str) (sv : Slot) : Prop := sv = .unset ∨ ∃ v a, sv = .val a ∧ a.flat = true ∧ Loads env h y (some v) ∧ RepV NoW h a v
theorem FR.of {env : Env} {names : List Str} {sl : List Slot} {h : Heap} {m : Str → Option Value} (ns : h.Ns env.locals m) (hf : ∀ p ∈ names.zip sl, FS env h p.1 p.2) (hl : sl.length ≤ names.length) : FR env names sl h := by
  refine ⟨⟨m, ns⟩, fun i y sv hy hs hne => ?_, fun i sv hs => ?_⟩
  · rcases hf (y, sv) (List.mem_of_getElem? (i := i) (by rw [List.getElem?_zip_eq_some]; exact ⟨hy, hs⟩)) with e | ⟨v, a, e, fa, l, r⟩
    · exact absurd e hne
    · exact ⟨_, l, (show sv = .val a from e) ▸ ⟨v, rfl, r, firm_of_flat fa⟩⟩
  · have hi := (List.getElem?_eq_some_iff.mp hs).1
    have hy : names[i]? = some names[i] := List.getElem?_eq_getElem (Nat.lt_of_lt_of_le hi hl)
    rcases hf (names[i], sv) (List.mem_of_getElem? (i := i) (by rw [List.getElem?_zip_eq_some]; exact ⟨hy, hs⟩)) with e | ⟨v, a, e, fa, _⟩
    · exact .inl e
    · exact .inr ⟨a, e, fa⟩
theorem FS.int {env : Env} {h : Heap} {y : Str} {z : Int} {t : Tok} (l : Loads env h y (some (.int z t))) : FS env h y (.val (.int z)) := .inr ⟨_, _, rfl, rfl, l, t, rfl⟩
theorem i2d_run (n : Nat) (hn1 : 1 ≤ n) (hb : IsI2D ibody) (hsc : iscope.names = iSc) (hco : iscope.isCoroutine = false) (hgen : iscope.isGenerator = false) (hfk : iscope.kind = .function)
    (hbind : ∀ (cl : List (Str × Addr)) (pm ctv : Value) (c' : Addr) (a b c : Value), bindArgs (innerFd "inner" q params ibody iscope cl pm ctv c') ⟨[a, b, c], []⟩ = pure ((["x", "L", "R"] : List Str).zip [a, b, c])) :
    ∀ m : Nat, 1 ≤ m → n * m ≤ 4000 → ∀ (A : Around) (s : Shared) (G : Gl) (D : Addr) (ds : List Int) (us : List Value) (L x : Nat) (tn t1 t2 t3 : Tok), Room A m → Base G NoW s → G.h₀.get? D = none →
      InS s.heap q params ibody iscope f cl [("a_digits", .ref D), ("inner", .ref f), ("n", .int n tn)] → s.heap.PlainList D us.toArray → RepL NoW s.heap (intL ds) us → L + m ≤ ds.length → ds.length < 1000000 → x < 2 ^ (n * m) →
      ∀ Q : Value → Shared → Prop, (∀ s' us', Chg (· = D) s s' → s'.heap.PlainList D (List.toArray us') → RepL NoW s'.heap (intL (ds.take L ++ (dgs n m x).map Int.ofNat ++ ds.drop (L + m))) us' → Q .none s') →
      wpAny G.M A (call (.ref f) [.int x t1, .int L t2, .int ((L + m : Nat) : Int) t3]) Q (fun zq zq => False) s := by
  intro m
  induction m using Nat.strongRecOn with
  | ind m ih =>
  intro hm hnm A s G D ds us L x tn t1 t2 t3 ro ba hD0 ins hpl hrl hle hlen hx Q hQ
  obtain ⟨of, pm, ctv, c', oc, e1, e2, e3, e4, e5⟩ := ins.fn
  obtain ⟨k, rfl⟩ : ∃ k, m = k + 1 := ⟨m - 1, by lia⟩
  obtain ⟨s0, s1, s2, s3, s4, s5, s6, hbe, F⟩ := i2d_facts hb
  refine wpAny_call (codeAny_call_plain (binds := (["x", "L", "R"] : List Str).zip [.int x t1, .int L t2, .int ((L + (k + 1) : Nat) : Int) t3]) ro.limit e1 e2 (NoLimit.keepsK G.top.nolimit ba.keep) e5 rfl (hbind _ _ _ _ _ _ _) ?_ ?_ (fun h₀ hns hk => ?_) hco hgen hfk)
  · show ∀ y ∈ iscope.names, y.2 ≠ .cell
    rw [hsc]; decide +kernel
  · show ∀ y ∈ (["x", "L", "R"] : List Str).zip [Value.int x t1, .int L t2, .int ((L + (k + 1) : Nat) : Int) t3], iscope.names.lookup y.1 = some .local
    rw [hsc]
    intro y hy
    simp only [List.zip_cons_cons, List.zip_nil_right, List.mem_cons, List.not_mem_nil, or_false] at hy
    rcases hy with rfl | rfl | rfl <;> rfl
  obtain ⟨env, hE⟩ : ∃ env, callEnv (innerFd "inner" q params ibody iscope cl pm ctv c') s.heap.objs.size f = env := ⟨_, rfl⟩
  rw [hE]
  have eL : env.locals = s.heap.objs.size := by rw [← hE]; rfl
  have eC : env.cells = cl := by rw [← hE]; rfl
  have eK : ∀ y, env.kindOf y = iSc.lookup y := fun y => by rw [← hE, ← hsc]; rfl
  have kf : FKept s.heap h₀ := hk
  obtain ⟨cD, dD, iD⟩ := ins.cells "a_digits" (.ref D) (by rfl)
  obtain ⟨cI, dI, iI⟩ := ins.cells "inner" (.ref f) (by rfl)
  obtain ⟨cN, dN, iN⟩ := ins.cells "n" (.int n tn) (by rfl)
  have ef : EnvF env iSc := ⟨by rw [← hE]; exact hfk, by rw [← hE]; rfl, by rw [← hE]; rfl, by rw [← hE]; exact hsc, fun y kd hy hkd => by
    rw [eC]
    have hm := mem_of_lookup hy
    have : (y = "a_digits" ∨ y = "inner" ∨ y = "n") := by
      simp only [iSc, List.mem_cons, List.not_mem_nil, or_false, Prod.mk.injEq] at hm
      rcases hkd with rfl | rfl <;> simp_all
    rcases this with rfl | rfl | rfl
    · exact ⟨cD, dD⟩
    · exact ⟨cI, dI⟩
    · exact ⟨cN, dN⟩⟩
  have ro' : Room (A.deeper env) k := ro.deeper
  have hLn : s.heap.get? env.locals = none := by rw [eL]; exact get_size _
  have hL0 : G.h₀.get? env.locals = none := ba.gone _ hLn
  have hDL : D ≠ env.locals := fun q => by obtain ⟨n, e⟩ := hpl; rw [q, hLn] at e; cases e
  have hDM : D ≠ mainGlobals := fun q => by
    obtain ⟨o, es, ep, e, _⟩ := G.top.g
    rw [← q, hD0] at e; cases e
  rw [← eL] at hns
  have fr : FR env iNames (iS x L (L + (k + 1)) .unset .unset .unset .unset n) h₀ := by
    refine .of hns ?_ (Nat.le_refl _)
    simp only [iS, iNames, List.zip_cons_cons, List.zip_nil_right, List.forall_mem_cons, List.not_mem_nil, false_implies, implies_true, and_true]
    exact ⟨.int (.inl ⟨by rw [eK]; rfl, _, hns, rfl⟩), .int (.inl ⟨by rw [eK]; rfl, _, hns, rfl⟩), .int (.inl ⟨by rw [eK]; rfl, _, hns, rfl⟩), .inl rfl, .inl rfl, .inl rfl, .inl rfl, .int (.inr ⟨.inr (by rw [eK]; rfl), cN, by rw [eC]; exact dN, iN.keeps kf⟩)⟩
  have x₁ : Ext s { s with heap := h₀, toks := s.toks + ((["x", "L", "R"] : List Str).zip [Value.int x t1, .int L t2, .int ((L + (k + 1) : Nat) : Int) t3]).length } := Ext.of kf
  obtain ⟨s₁, hs₁⟩ : ∃ s₁, ({ s with heap := h₀, toks := s.toks + ((["x", "L", "R"] : List Str).zip [Value.int x t1, .int L t2, .int ((L + (k + 1) : Nat) : Int) t3]).length } : Shared) = s₁ := ⟨_, rfl⟩
  have hh : s₁.heap = h₀ := by rw [← hs₁]
  rw [hs₁] at x₁ ⊢
  rw [← hh] at fr
  suffices body : ∀ P : Flow → Shared → Prop, (∀ s', Q .none s' → P .next s') → (∀ s', Q .none s' → P (.ret .none) s') → wpAny G.M (A.deeper env) (execs [s0, s1, s2, s3, s4, s5, s6] env) P (fun zq zq => False) s₁ from noE' (hbe ▸ body _ (fun zq h => h) (fun zq h => h))
  clear hE hs₁ hbe hns hk kf hh
  intro P hP0 hP1
  -- what is known at any later state
  have cx : ∀ s', Chg (fun d => d = D ∨ d = env.locals) s s' → ICx G (A.deeper env) env k iSc s' := fun s' x => ⟨ro', ef, hL0, ba.chg x fun d h => by rcases h with rfl | rfl; exact hD0; exact hL0⟩
  have insOf : ∀ s', Chg (fun d => d = D ∨ d = env.locals) s s' → InS s'.heap q params ibody iscope f cl [("a_digits", .ref D), ("inner", .ref f), ("n", .int n tn)] := fun s' x => ins.move fun b o hs ht e => x.kept b o (fun q => by
    rcases q with rfl | rfl
    · obtain ⟨n, e'⟩ := hpl; rw [e] at e'; cases e'; exact hs _ _ rfl
    · rw [hLn] at e; cases e) e ht
  have cellAt : ∀ s', Chg (fun d => d = D ∨ d = env.locals) s s' → ∀ y v, ([("a_digits", .ref D), ("inner", .ref f), ("n", .int n tn)] : List (Str × Value)).lookup y = some v → ∃ c, env.cells.lookup y = some c ∧ s'.heap.IsCell c (some v) := fun s' x y v h => by rw [eC]; exact (insOf s' x).cells y v h
  have fin : ∀ s', Chg (fun d => d = D ∨ d = env.locals) s s' → Chg (· = D) s s' := fun s' x => x.mono fun d h => by rcases h with rfl | rfl; exact .inl rfl; exact .inr hLn
  have c₁ : Chg (fun d => d = D ∨ d = env.locals) s s₁ := Ext.chg x₁
  have hlu : us.length = ds.length := by rw [hrl.length]; simp
  obtain ⟨cD', dD', iD'⟩ := cellAt _ c₁ "a_digits" (.ref D) (by rfl)
  refine wpAny_execs_cons (F.if0 (cx _ c₁) fr cD' D us _ dD' iD' (PlainList.grow x₁.kept hpl) (by lia) (by lia) hDM (fun h s' tv ch hpl' => ?_) fun h s₂ x₂ => ?_)
  · obtain rfl : k = 0 := by lia
    refine hP1 _ (hQ _ (us.set L (.int x tv)) (fin _ (c₁.trans (ch.mono fun d h => .inl (.inl h)))) hpl' ?_)
    have hd : ds.take L ++ (dgs n (0 + 1) x).map Int.ofNat ++ ds.drop (L + (0 + 1)) = ds.set L (x : Int) := by
      rw [List.set_eq_take_append_cons_drop, if_pos (by lia)]
      rw [show dgs n (0 + 1) x = [x] from dgs_one n x (by simpa using hx)]
      simp
    rw [hd]
    exact RepL.intL_any (RepL.intL_set hrl)
  · have hm2 : (k + 1) / 2 ≤ k := by lia
    have hm1 : 1 ≤ (k + 1) / 2 := by lia
    have hmid : (L + (L + (k + 1))) / 2 = L + (k + 1) / 2 := by lia
    obtain ⟨a, ha⟩ : ∃ a, (k + 1) / 2 = a := ⟨_, rfl⟩
    rw [ha] at hm2 hm1 hmid
    obtain ⟨b, hab⟩ : ∃ b, k + 1 = a + b := ⟨k + 1 - a, by lia⟩
    clear ha
    have hb1 : 1 ≤ b := by lia
    have hbk : b ≤ k := by lia
    have hn4 : n ≤ 4000 := Nat.le_trans (Nat.le_trans (Nat.le_of_eq (Nat.mul_one n).symm) (Nat.mul_le_mul_left n hm)) hnm
    have ha4 : n * a ≤ 4000 := Nat.le_trans (Nat.mul_le_mul_left n (by lia)) hnm
    have c₂ := c₁.trans (Ext.chg x₂)
    refine (F.mid (cx _ c₂) (fr.ext x₂)).cons fun s₃ x₃ fr₃ => ?_
    rw [hmid] at fr₃
    have c₃ := c₂.trans (x₃.mono fun d h => .inl (.inr h))
    refine (F.sh (cx _ c₃) fr₃ (by lia) (by lia)).cons fun s₄ x₄ fr₄ => ?_
    have c₄ := c₃.trans (x₄.mono fun d h => .inl (.inr h))
    refine (F.up (cx _ c₄) fr₄).cons fun s₅ x₅ fr₅ => ?_
    have c₅ := c₄.trans (x₅.mono fun d h => .inl (.inr h))
    refine (F.lo (cx _ c₅) fr₅ hx hnm (by lia)).cons fun s₆ x₆ fr₆ => ?_
    have c₆ := c₅.trans (x₆.mono fun d h => .inl (.inr h))
    have hfD : f ≠ D := fun e => by obtain ⟨n, e'⟩ := hpl; rw [← e, e1] at e'; cases e'; cases e2
    have hfL : f ≠ env.locals := fun e => by rw [e, hLn] at e1; cases e1
    have fAt : ∀ s', Chg (fun d => d = D ∨ d = env.locals) s s' → s'.heap.get? f = some of := fun s' x => x.kept f of (fun q => by rcases q with q | q; exact hfD q; exact hfL q) e1 (solid_func e2)
    obtain ⟨cI', dI', iI'⟩ := cellAt _ c₆ "inner" (.ref f) (by rfl)
    refine wpAny_execs_cons (F.c1 (cx _ c₆) fr₆ cI' f of _ _ dI' iI' (fAt _ c₆) e2 fun s₇ ta tb tc x₇ => ?_)
    have c₇ := c₆.trans (Ext.chg x₇)
    have hpl₇ : s₇.heap.PlainList D us.toArray := by
      obtain ⟨cp, e⟩ := PlainList.grow (x₁.trans x₂).kept hpl
      exact ⟨cp, x₇.kept _ _ ((((x₃.trans x₄).trans x₅).trans x₆).kept _ _ hDL e rfl) rfl⟩
    refine ih a (by lia) hm1 ha4 (A.deeper env) s₇ G D ds us L (x % 2 ^ (n * a)) tn ta tb tc (ro'.le (by lia)) (cx _ c₇).ba hD0 (insOf _ c₇) hpl₇ (RepL.intL_any hrl) (by lia) hlen (Nat.mod_lt _ (Nat.two_pow_pos _)) _ fun s₈ us₈ x₈ hpl₈ hrl₈ => ⟨rfl, ?_⟩
    have c₈ := c₇.trans (x₈.mono fun d h => .inl (.inl h))
    have fr₈ := (fr₆.ext x₇).move (chg_nonseq x₈ hpl₇)
    obtain ⟨cJ, dJ, iJ⟩ := cellAt _ c₈ "inner" (.ref f) (by rfl)
    refine wpAny_execs_cons (F.c2 (cx _ c₈) fr₈ cJ f of _ _ dJ iJ (fAt _ c₈) e2 fun s₉ ta' tb' tc' x₉ => ?_)
    have c₉ := c₈.trans (Ext.chg x₉)
    have hl₈ : (ds.take L ++ (dgs n a (x % 2 ^ (n * a))).map Int.ofNat ++ ds.drop (L + a)).length = ds.length := by
      simp only [List.length_append, List.length_take, List.length_map, dgs_len, List.length_drop]; lia
    have hup2 : x / 2 ^ (n * a) < 2 ^ (n * b) := by
      refine (Nat.div_lt_iff_lt_mul (Nat.two_pow_pos _)).mpr ?_
      rw [← Nat.pow_add, ← Nat.mul_add, Nat.add_comm b a, ← hab]; exact hx
    rw [show L + (k + 1) = L + a + b by lia]
    refine ih b (by lia) hb1 (Nat.le_trans (Nat.mul_le_mul_left n (by lia)) hnm) (A.deeper env) s₉ G D _ us₈ (L + a) (x / 2 ^ (n * a)) tn ta' tb' tc' (ro'.le (by lia)) (cx _ c₉).ba hD0 (insOf _ c₉) (PlainList.grow x₉.kept hpl₈) (RepL.intL_any hrl₈) (by rw [hl₈]; lia) (by rw [hl₈]; exact hlen) hup2 _ fun s' us' x' hpl' hrl' => ⟨rfl, ?_⟩
    refine wpAny_execs_nil (hP0 _ (hQ s' us' (fin _ (c₉.trans (x'.mono fun d h => .inl (.inl h)))) hpl' ?_))
    rw [i2d_lists (a := a) (b := b) (by rw [List.length_map, dgs_len]) (by rw [List.length_map, dgs_len]) (by lia)] at hrl'
    rw [← List.map_append, ← dgs_split, ← hab] at hrl'
    exact hrl'
end
end Mine
end

section
open PySem PySem.W PyProof.Rows
set_option Elab.async false
set_option tactic.hygienic false
set_option maxRecDepth 100000
set_option linter.unusedVariables false
namespace Mine
section
variable {G : Gl} {W : Addr → Prop} {k : Nat} {names : List Str} {sc : List (Str × NameKind)} {A : Around} {s s' : Shared} {E : Value → Shared → Prop} {env : Env} {sl : List Slot} {m : Str → Option Value} {os : Nat → List Addr} {va : Nat → Option Value}

theorem StX.chgList (st : StX G W env names sl s m os va) {i : Nat} {x : Str} {xs xs' : List AV} {vs' : List Value} {d : Addr} (hx : names[i]? = some x) (hsl : sl[i]? = some (.mls xs)) (hd : va i = some (.ref d))
    (cg : Chg (· = d) s s') (hl : s'.heap.PlainList d (List.toArray vs')) (hr : RepL W s'.heap xs' vs') (hf : firmL xs' = true) :
    Mov W W s s' ∧ StX G W env names (sl.set i (.mls xs')) s' m os va := by
  obtain ⟨_, d', vs, e1, wd, e2, ld, _⟩ := st.slots i x _ hx hsl
  rw [hd] at e2; cases e2
  have k0 : ∀ b ob, b ≠ d → s.heap.get? b = some ob → tabby ob = false → s'.heap.get? b = some ob := fun b ob hb e hs => cg.kept b ob hb e hs
  have h0a : G.h₀.get? d = none := (st.base.above d wd).2
  have nn : ∀ b, s'.heap.get? b = none → s.heap.get? b = none := fun b e => cg.gone e
  refine ⟨⟨by obtain ⟨h, t, e, _⟩ := cg; exact ⟨h, t, e⟩, fun b ob w e hs => k0 b ob (fun q => w (q ▸ wd)) e hs, nn, fun zq w => w, fun zq w zq => w⟩, ⟨⟨fun b ob e hs => ?_, fun b e => st.base.gone b (nn b e), cg.tb st.base.tb, fun b w => ?_⟩, st.wl, st.wc, ?_, ?_, st.nodup, st.apart, ?_⟩⟩
  · exact k0 b ob (fun q => by rw [q, h0a] at e; cases e) (st.base.keep b ob e hs) hs
  · exact ⟨cg.some (st.base.above b w).1, (st.base.above b w).2⟩
  · obtain ⟨o, es, ep, e, dd, r⟩ := st.ns
    exact ⟨o, es, ep, k0 _ _ (fun q => by obtain ⟨n, e'⟩ := ld; rw [q, e'] at e; cases e; cases dd) e (solid_dict dd), dd, r⟩
  · intro j y sv hy hs
    have hLd : ∀ ov, Ld env s.heap m y ov → Ld env s'.heap m y ov := fun ov l => by
      rcases l with q | ⟨a, c, b, o, e, dd⟩
      · exact .inl q
      · exact .inr ⟨a, c, b, o, k0 _ _ (fun q => by obtain ⟨n, e'⟩ := ld; rw [q, e'] at e; cases e; cases dd) e (solid_cell dd), dd⟩
    rcases set_get hs with ⟨rfl, rfl⟩ | ⟨hne, hs⟩
    · rw [hx] at hy; cases hy
      exact ⟨hLd _ (st.slots i x _ hx hsl).1, d, vs', e1, wd, hd, hl, hr, hf⟩
    · refine ⟨hLd _ (st.slots j y sv hy hs).1, (st.slots j y sv hy hs).2.move k0 (fun zq zq w => w) (fun zq w => w) wd fun q => ?_⟩
      exact hne (st.apart i j d (by rw [e1]; exact List.mem_singleton.mpr rfl) q)
  · intro j b h1
    obtain ⟨w, us, n, l⟩ := st.isls j b h1
    by_cases hba : b = d
    · subst hba; exact ⟨w, _, hl⟩
    · exact ⟨w, us, n, k0 b _ hba l rfl⟩

theorem StX.recell (st : StX G W env names sl s m os va) (eo : EnvOk env names) {i : Nat} {x : Str} {c : Addr} {v : Value} {ov : Option Value} {h' : Heap} {tk : Nat} (hx : names[i]? = some x) (hsl : sl[i]? = some .unset)
    (hk : env.kindOf x = some .cell) (hc : env.cells.lookup x = some c) (hi : s.heap.IsCell c ov) (isc : h'.IsCell c (some v)) (kk : ∀ b o, b ≠ c → s.heap.get? b = some o → tabby o = false → h'.get? b = some o)
    (gn : ∀ b, h'.get? b = none → s.heap.get? b = none) (tb : TB G.start h') :
    Mov W W s { s with heap := h', toks := tk } ∧ StX G W env names sl { s with heap := h', toks := tk } m os (fun j => if j = i then some v else va j) := by
  have wc := st.wc x c hc
  refine ⟨⟨⟨h', tk, rfl⟩, fun b ob w e hs => kk b ob (fun q => w (q ▸ wc)) e hs, gn, fun zq w => w, fun zq w zq => w⟩, ⟨⟨fun b ob e hs => ?_, fun b e => st.base.gone b (gn b e), tb, fun b w => ?_⟩, st.wl, st.wc, ?_, ?_, st.nodup, st.apart, ?_⟩⟩
  · exact kk b ob (fun q => by rw [q, (st.base.above c wc).2] at e; cases e) (st.base.keep b ob e hs) hs
  · refine ⟨?_, (st.base.above b w).2⟩
    cases q : h'.get? b with
    | none => have := (st.base.above b w).1; rw [gn b q] at this; cases this
    | some o => rfl
  · obtain ⟨o, es, ep, e, dd, r⟩ := st.ns
    exact ⟨o, es, ep, kk _ _ (fun q => by obtain ⟨o', e', d'⟩ := hi; rw [q, e'] at e; cases e; rw [d'] at dd; cases dd) e (solid_dict dd), dd, r⟩
  · intro j y sv hy hs
    have hos : c ∉ os j := fun q => by
      obtain ⟨_, us, n, l⟩ := st.isls j c q
      obtain ⟨o', e', d'⟩ := hi
      rw [l] at e'; cases e'; cases d'
    by_cases hji : j = i
    · subst hji
      rw [hx] at hy; cases hy
      rw [hsl] at hs; cases hs
      simp only [if_pos]
      exact ⟨.inr ⟨hk, c, hc, isc⟩, (st.slots j x _ hx hsl).2⟩
    · simp only [if_neg hji]
      refine ⟨?_, (st.slots j y sv hy hs).2.move (fun b o hb e hs => kk b o hb e hs) (fun zq zq w => w) (fun zq w => w) wc hos⟩
      rcases (st.slots j y sv hy hs).1 with q | ⟨a, c', b, o, e, dd⟩
      · exact .inl q
      · refine .inr ⟨a, c', b, o, kk _ _ (fun q => ?_) e (solid_cell dd), dd⟩
        have := eo.inj y x c' b (q ▸ hc)
        rw [this, ← hx] at hy
        exact hji (nodup_idx eo.nodup (hy.trans hx) hx)
  · intro j b h1
    obtain ⟨w, us, n, l⟩ := st.isls j b h1
    exact ⟨w, us, n, kk b _ (fun q => by obtain ⟨o', e', d'⟩ := hi; rw [q, e'] at l; cases l; cases d') l rfl⟩

noncomputable def resI2D (a n : Int) (xs : List AV) (ds : List Int) : List AV := if a = 0 then xs else intL ((dgs n.toNat ds.length a.toNat).map Int.ofNat)
noncomputable def int? : Slot → Option Int
  | .val (.int i) => some i
  | _ => none
noncomputable def lst? : Slot → Option (List AV)
  | .val (.lst xs) => some xs
  | _ => none
noncomputable def unset? : Slot → Option Unit
  | .unset => some ()
  | _ => none
theorem int?_ex {x : Slot} {a : Int} (h : int? x = some a) : x = .val (.int a) := by
  cases x with
  | val v => cases v <;> first | (cases h; done) | skip
             cases h; rfl
  | _ => cases h
theorem lst?_ex {x : Slot} {a : List AV} (h : lst? x = some a) : x = .val (.lst a) := by
  cases x with
  | val v => cases v <;> first | (cases h; done) | skip
             cases h; rfl
  | _ => cases h
theorem unset?_ex {x : Slot} {a : Unit} (h : unset? x = some a) : x = .unset := by cases x <;> first | rfl | cases h
theorem mls?_ex {x : Slot} {a : List AV} (h : mls? x = some a) : x = .mls a := by cases x <;> first | (cases h; done) | skip
                                                                                  cases h; rfl
noncomputable def tailI2D : List Slot → Option (Fl × List Slot) := fun sl => match sl with
  | [x, y, z, w] => (int? x).bind fun a => (int? y).bind fun n => (mls? z).bind fun xs => (unset? w).bind fun zq => (asInts xs).bind fun ds =>
    if 0 ≤ a ∧ 1 ≤ n ∧ a.toNat < 2 ^ (n.toNat * ds.length) ∧ n.toNat * ds.length ≤ 4000 ∧ ds.length ≤ 30 then some (.ret (.lst (resI2D a n xs ds)), [.val (.int a), .val (.int n), .mls (resI2D a n xs ds), .unset]) else none
  | _ => none
inductive TI2D : List Slot → Fl → List Slot → Prop
  | mk (a n : Int) (xs : List AV) (ds : List Int) (h0 : asInts xs = some ds) (ha : 0 ≤ a) (hn : 1 ≤ n) (hlt : a.toNat < 2 ^ (n.toNat * ds.length)) (hsm : n.toNat * ds.length ≤ 4000) (hdl : ds.length ≤ 30) :
      TI2D [.val (.int a), .val (.int n), .mls xs, .unset] (.ret (.lst (resI2D a n xs ds))) [.val (.int a), .val (.int n), .mls (resI2D a n xs ds), .unset]
theorem tailI2D_some {sl sl' : List Slot} {fl : Fl} (hf : tailI2D sl = some (fl, sl')) : TI2D sl fl sl' := by
  unfold tailI2D at hf
  split at hf
  · refine byG fun X hX => ?_
    obtain ⟨a, h1, hf⟩ := Option.bind_eq_some_iff.mp hf
    obtain ⟨n, h2, hf⟩ := Option.bind_eq_some_iff.mp hf
    obtain ⟨xs, h3, hf⟩ := Option.bind_eq_some_iff.mp hf
    obtain ⟨_, h4, hf⟩ := Option.bind_eq_some_iff.mp hf
    obtain ⟨ds, h0, hf⟩ := Option.bind_eq_some_iff.mp hf
    split at hf
    · next hc =>
      cases hf
      refine hX ?_
      rw [int?_ex h1, int?_ex h2, mls?_ex h3, unset?_ex h4]
      exact .mk a n xs ds h0 hc.1 hc.2.1 hc.2.2.1 hc.2.2.2.1 hc.2.2.2.2
    · cases hf
  · cases hf
noncomputable abbrev oNames : List Str := ["a", "n", "a_digits", "inner"]
theorem asInts_intL {xs : List AV} {ws : List Int} (h : asInts xs = some ws) : xs = intL ws := asInts_ex h
theorem flat_intL (l : List Int) : (intL l).all AV.flat = true := by
  induction l with
  | nil => rfl
  | cons a l ih => simp [intL, AV.flat]
theorem firm_intL (l : List Int) : firmL (intL l) = true := by
  induction l with
  | nil => rfl
  | cons a l ih => simp only [intL, List.map_cons, firmL, AV.firm, Bool.true_and]; exact ih

theorem i2d_tail {params : Arguments} {ibody : List Stmt} {iscope : Scope} {pos p1 p2 p3 p4 p5 p6 p7 p8 p9 p10 p11 p12 : Pos} {kd : Nat} {lvl : Nat} {G : Gl} {env : Env} {sc : List (Str × NameKind)}
    (hb : IsI2D ibody) (hsc : iscope.names = iSc) (hco : iscope.isCoroutine = false) (hgen : iscope.isGenerator = false) (hfk : iscope.kind = .function)
    (hbind : ∀ (cl : List (Str × Addr)) (pm ctv : Value) (c' : Addr) (a b c : Value), bindArgs (innerFd "inner" qDig params ibody iscope cl pm ctv c') ⟨[a, b, c], []⟩ = pure ((["x", "L", "R"] : List Str).zip [a, b, c]))
    (hexec : PlainDefTree "inner" params ibody iscope pos) (de : DefEnv G "_int2digits" qDig pos env)
    (hlen : G.mg ("len" : Str) = none) (k1 : sc.lookup ("a" : Str) = some .local) (k2 : sc.lookup ("n" : Str) = some .cell) (k3 : sc.lookup ("a_digits" : Str) = some .cell) (k4 : sc.lookup ("inner" : Str) = some .cell) (k5 : sc.lookup ("len" : Str) = some .globalImplicit) :
    SsE env G 30 oNames sc [.FunctionDef "inner" params ibody [] none [] iscope none "inner" pos,
      .If (.Name "a" p1) [.Expr (.Call (.Name "inner" p2) [.Name "a" p3, .Constant (.int 0) kd p4, .Call (.Name "len" p5) [.Name "a_digits" p6] [] p7] [] p8) p9] [] p10,
      .Return (some (.Name "a_digits" p11)) p12] tailI2D := by
  intro A W s sl m os va ro ef eo st fl sl' hf Q hQ
  refine byG fun X hX => ?_
  obtain ⟨a, n, xs, ds, h0, ha, hn, hlt, hsm, hdl⟩ := tailI2D_some hf
  clear hf
  have hxs := asInts_intL h0
  have kO : ∀ y, env.kindOf y = sc.lookup y := fun y => by unfold Env.kindOf; rw [ef.names]
  -- the inner def
  obtain ⟨lI, _⟩ := st.slots 3 "inner" .unset rfl rfl
  obtain ⟨_, cI, eI, iI⟩ := lI.resolve_left (fun q => by have := q.1; rw [kO, k4] at this; cases this)
  refine hX ?_
  clear hX
  have hfree : ∀ y ∈ iscope.names, y.2 = .free → ∃ c, env.cells.lookup y.1 = some c := by
    rw [hsc]
    intro y hy hfr
    simp only [iSc, List.mem_cons, List.not_mem_nil, or_false] at hy
    rcases hy with rfl | rfl | rfl | rfl | rfl | rfl | rfl | rfl | rfl | rfl <;> first | (cases hfr; done) | skip
    · exact ef.cells _ _ k3 (.inl rfl)
    · exact ef.cells _ _ k4 (.inl rfl)
    · exact ef.cells _ _ k2 (.inl rfl)
  refine wpAny_execs_cons (def_inner (W := W) (.inl ⟨rfl, rfl⟩) de ef st.base hexec (by cases hb; rfl) hfree (by rw [kO]; exact k4) eI iI (st.wc _ _ eI) fun f of cl pm ctv c' oc h' tk hcl1 hcl2 hof hofd hfn isc hoc hocc hrec tb kk gn => ?_)
  have s1 := st.recell (tk := tk) eo (i := 3) (x := "inner") (v := .ref f) rfl rfl (by rw [kO]; exact k4) eI iI isc kk gn tb
  obtain ⟨mv₁, st₁⟩ := s1
  obtain ⟨s₁, hs₁⟩ : ∃ s₁, ({ s with heap := h', toks := tk } : Shared) = s₁ := ⟨_, rfl⟩
  rw [hs₁] at mv₁ st₁ ⊢
  have hh₁ : s₁.heap = h' := by rw [← hs₁]
  rw [← hh₁] at hof isc hoc hrec
  dsimp only
  -- the test
  have rdA : ∀ (p : Pos), EvS G W 30 oNames sc (.Name "a" p) _ := fun p => EvS.var (i := 0) (by rfl) (by decide +kernel) (by decide +kernel)
  refine wpAny_execs_cons (wpAny_If ((TsS.value (EvS.var (i := 0) (by rfl) (by decide +kernel) (by decide +kernel)) (fun zq zq => rfl)) A env s₁ _ ro ef st₁.rs st₁.base (.int a) (a != 0) rfl rfl _ fun s₂ x₂ => ?_))
  have st₂ := st₁.ext x₂
  have ret : ∀ (xs' : List AV) (s₃ : Shared) (m' : Str → Option Value) (os' : Nat → List Addr) (va' : Nat → Option Value), xs'.all AV.flat = true → Mov W W s s₃ → StX G W env oNames [.val (.int a), .val (.int n), .mls xs', .unset] s₃ m' os' va' →
      (∀ W' s' m' os' va' flow, Mov W W' s s' → StX G W' env oNames [.val (.int a), .val (.int n), .mls xs', .unset] s' m' os' va' → FlRep G s'.heap (.ret (.lst xs')) flow → Q flow s') →
      wpAny G.M A (execs [.Return (some (.Name "a_digits" p11)) p12] env) Q (fun zq zq => False) s₃ := by
    intro xs' s₃ m' os' va' hfl mv st₃ hQ'
    refine (SsS.cons (k := 30) (StS.retOwn (i := 2) (by rfl) (by decide +kernel)) SsS.nil) A W env s₃ _ m' os' va' ro ef eo st₃ (.ret (.lst xs')) [.val (.int a), .val (.int n), .mls xs', .unset] ?_ _ fun W'' s'' m'' os'' va'' flow mv'' st'' fr => hQ' W'' s'' m'' os'' va'' flow (mv.trans mv'') st'' fr
    show ((if xs'.all AV.flat = true then some (Fl.ret (.lst xs'), [Slot.val (.int a), .val (.int n), .mls xs', .unset]) else none).bind _) = _
    rw [if_pos hfl]; rfl
  by_cases ha0 : a = 0
  · subst ha0
    rw [show ((0 : Int) != 0) = false from rfl, if_neg (by decide)]
    refine wpAny_execs_nil ?_
    dsimp only
    have hr : resI2D 0 n xs ds = xs := by unfold resI2D; rw [if_pos rfl]
    rw [hr] at hQ
    exact ret xs s₂ m os _ (by rw [hxs]; exact flat_intL ds) (mv₁.trans (Mov.ext x₂)) st₂ hQ
  · have hne : (a != 0) = true := by simpa using ha0
    rw [hne, if_pos rfl]
    have hr : resI2D a n xs ds = intL ((dgs n.toNat ds.length a.toNat).map Int.ofNat) := by unfold resI2D; rw [if_neg ha0]
    rw [hr] at hQ
    have hni : interactive env = false := by unfold interactive; rw [ef.kind]; rfl
    obtain ⟨lI₂, _⟩ := st₂.slots 3 "inner" .unset rfl rfl
    obtain ⟨_, cI', eI', iI'⟩ := lI₂.resolve_left (fun q => by have := q.1; rw [kO, k4] at this; cases this)
    rw [eI] at eI'; cases eI'
    have iI' : s₂.heap.IsCell cI (some (.ref f)) := iI'
    refine wpAny_execs_cons (wpAny_Expr (Call_ (wpAny_Name (wpAny_loadName_cell ef.kind (by rw [kO]; exact k4) eI iI' ?_) (by decide +kernel))) hni)
    refine callWith_def hofd ((EvL.cons (EvS.var (i := 0) (by rfl) (by decide +kernel) (by decide +kernel)) (EvL.cons EvS.int (EvL.cons (EvS.len k5 hlen (EvL.cons (EvS.var (i := 2) (by rfl) (by decide +kernel) (by decide +kernel)) EvL.nil (by rfl)) (by rfl)) EvL.nil (by rfl)) (by rfl)) (by rfl)).2 A env s₂ _ _ ro ef st₂.rs st₂.base [.int a, .int 0, .int xs.length] ?_ _ fun vs s₃ x₃ r₃ => ⟨x₃.kept _ _ (x₂.kept _ _ hof (solid_func hofd)) (solid_func hofd), ?_⟩) (starEach_cons (by rfl))
    · have hx : xs.length < 1000000 := by rw [hxs]; simp; lia
      show (some (AV.int a)).bind (fun a' => Option.map (a' :: ·) ((some (AV.int 0)).bind fun b => Option.map (b :: ·) (((some [AV.mut xs]).bind lenV).bind fun c => Option.map (c :: ·) (some [])))) = _
      have : lenV [AV.mut xs] = some (.int xs.length) := by
        show (if xs.length < 1000000 then some (AV.int xs.length) else none) = _
        rw [if_pos hx]
      simp [this]
    · have st₃ := st₂.ext x₃
      refine byG fun X hX => ?_
      obtain ⟨v1, q1, rfl, ⟨t1, rfl⟩, v2, q2, rfl, ⟨t2, rfl⟩, v3, q3, rfl, ⟨t3, rfl⟩, rfl⟩ := r₃
      obtain ⟨lD, D, us, eos, wD, vaD, plD, rlD, _⟩ := st₃.slots 2 "a_digits" (.mls xs) rfl rfl
      rw [vaD] at lD
      obtain ⟨_, cD, eD, iD⟩ := lD.resolve_left (fun q => by have := q.1; rw [kO, k3] at this; cases this)
      obtain ⟨lN, _, vN, eN, ⟨tn, rN⟩, _⟩ := st₃.slots 1 "n" (.val (.int n)) rfl rfl
      rw [eN, rN] at lN
      obtain ⟨_, cN, eN', iN⟩ := lN.resolve_left (fun q => by have := q.1; rw [kO, k2] at this; cases this)
      obtain ⟨lI₃, _⟩ := st₃.slots 3 "inner" .unset rfl rfl
      obtain ⟨_, cI', eI'', iI₃⟩ := lI₃.resolve_left (fun q => by have := q.1; rw [kO, k4] at this; cases this)
      have iI₃ : s₃.heap.IsCell cI' (some (.ref f)) := iI₃
      refine hX ?_
      clear hX
      have clAt : ∀ y c, (y, NameKind.free) ∈ iscope.names → env.cells.lookup y = some c → cl.lookup y = some c := fun y c hy h => by
        obtain ⟨c2, h2⟩ := hcl2 y hy
        have := hcl1 y c2 h2
        rw [h] at this; cases this; exact h2
      have hl1 : 1 ≤ ds.length := by
        rcases Nat.eq_zero_or_pos ds.length with h | h
        · rw [h] at hlt; simp at hlt; lia
        · exact h
      have ins : InS s₃.heap qDig params ibody iscope f cl [("a_digits", .ref D), ("inner", .ref f), ("n", .int (n.toNat : Int) tn)] := by
        refine ⟨?_, ?_⟩
        · have e1 := x₃.kept _ _ (x₂.kept _ _ hof (solid_func hofd)) (solid_func hofd)
          have e2 := x₃.kept _ _ (x₂.kept _ _ hoc (solid_cls hocc)) (solid_cls hocc)
          exact ⟨of, pm, ctv, c', oc, e1, hofd, e2, hocc, CodeRec.keepsK hrec hoc hocc (x₂.trans x₃).kept⟩
        · intro y v hv
          have hm := mem_of_lookup hv
          simp only [List.mem_cons, List.not_mem_nil, or_false, Prod.mk.injEq] at hm
          rcases hm with ⟨rfl, rfl⟩ | ⟨rfl, rfl⟩ | ⟨rfl, rfl⟩
          · exact ⟨cD, clAt _ _ (by rw [hsc]; decide +kernel) eD, iD⟩
          · exact ⟨cI', clAt _ _ (by rw [hsc]; decide +kernel) eI'', iI₃⟩
          · exact ⟨cN, clAt _ _ (by rw [hsc]; decide +kernel) eN', by rw [Int.toNat_of_nonneg (by lia)]; exact iN⟩
      have run := i2d_run (f := f) (cl := cl) n.toNat (by lia) hb hsc hco hgen hfk hbind ds.length hl1 hsm A s₃ G D ds us 0 a.toNat tn t1 t2 t3 (ro.le hdl) st₃.base.noW (st₃.base.above D wD).2 ins plD (by rw [hxs] at rlD; exact RepL.intL_any rlD) (by lia) (by lia) hlt
      have ea : ((a.toNat : Nat) : Int) = a := by lia
      have exl : (((0 + ds.length : Nat)) : Int) = ((xs.length : Nat) : Int) := by rw [hxs]; simp
      rw [ea, exl] at run
      refine run _ fun s₄ us₄ cg pl₄ rl₄ => ?_
      dsimp only
      have hds : (ds.take 0 ++ (dgs n.toNat ds.length a.toNat).map Int.ofNat ++ ds.drop (0 + ds.length)) = (dgs n.toNat ds.length a.toNat).map Int.ofNat := by simp
      rw [hds] at rl₄
      obtain ⟨mv₄, st₄⟩ := st₃.chgList (i := 2) rfl rfl vaD cg pl₄ (xs' := intL ((dgs n.toNat ds.length a.toNat).map Int.ofNat)) (RepL.intL_any rl₄) (firm_intL _)
      refine wpAny_execs_nil ?_
      dsimp only
      exact ret _ s₄ m os _ (flat_intL _) (((mv₁.trans (Mov.ext x₂)).trans (Mov.ext x₃)).trans mv₄) st₄ hQ
end
end Mine
end

section
open PySem PySem.W PyProof.Rows
set_option Elab.async false
set_option tactic.hygienic false
set_option maxRecDepth 100000
set_option linter.unusedVariables false
namespace Mine
noncomputable abbrev jNames : List Str := ["L", "R", "mid", "shift", "n"]
noncomputable abbrev jSc : List (Str × NameKind) := [("L", .local), ("R", .local), ("mid", .local), ("shift", .local), ("digits", .free), ("inner", .free), ("n", .free)]
set_option autoImplicit true in
inductive IsD2I : List Stmt → Prop
  | mk : IsD2I [
      .If (.Compare (.BinOp (.Name "L" p1) .Add (.Constant (.int 1) k1 p2) p3) [.Eq] [.Name "R" p4] p5) [.Return (some (.Subscript (.Name "digits" p6) (.Name "L" p7) p8)) p9] [] p10,
      .Assign [.Name "mid" p13] (.BinOp (.BinOp (.Name "L" p14) .Add (.Name "R" p15) p16) .RShift (.Constant (.int 1) k2 p17) p18) p19,
      .Assign [.Name "shift" p20] (.BinOp (.BinOp (.Name "mid" p21) .Sub (.Name "L" p22) p23) .Mult (.Name "n" p24) p25) p26,
      .Return (some (.BinOp (.BinOp (.Call (.Name "inner" p27) [.Name "mid" p28, .Name "R" p29] [] p30) .LShift (.Name "shift" p31) p32) .Add (.Call (.Name "inner" p33) [.Name "L" p34, .Name "mid" p35] [] p36) p37)) p38]
section
variable {G : Gl} {A : Around} {s : Shared} {E : Value → Shared → Prop} {q : Str} {params : Arguments} {ibody : List Stmt} {iscope : Scope} {f : Addr} {cl : List (Str × Addr)}
theorem InS.ext {s s' : Shared} {cs} (x : InS s.heap q params ibody iscope f cl cs) (e : Ext s s') : InS s'.heap q params ibody iscope f cl cs := x.move fun b o zq s h => e.kept b o h s

theorem cnd62 (L : Nat) (h : L < 1000000) : (decide ((0 : Int) ≤ (L : Int)) && decide ((L : Int) < 2 ^ 62)) = true := by
  have h1 : (L : Int) < 1000000 := by lia
  have h2 : (1000000 : Int) ≤ 2 ^ 62 := by decide +kernel
  rw [decide_eq_true (Int.natCast_nonneg L), decide_eq_true (Int.lt_of_lt_of_le h1 h2)]; rfl
theorem idx_intL (ds : List Nat) (L d : Nat) (h : L < 1000000) (hd : ds[L]? = some d) : idxV (.lst (intL (ds.map Int.ofNat))) (.int L) = some (.int (d : Int)) := by
  have hcnd := cnd62 L h
  simp only [idxV, AV.any?, hcnd, if_true, Int.toNat_natCast]
  simp [intL, hd]
noncomputable def idxF (sl : List Slot) : Option AV := ((fun (sl : List Slot) => sl[0]?.bind Slot.read) sl).bind fun a => ((fun (sl : List Slot) => sl[1]?.bind Slot.read) sl).bind fun b => idxV a b
theorem jt_idx (xs : List AV) (L : Int) (r : AV) (hix : idxV (.lst xs) (.int L) = some r) : idxF [Slot.val (.lst xs), .val (.int L)] = some r := by
  unfold idxF
  simp only [List.getElem?_cons_zero, List.getElem?_cons_succ, Option.bind_some, Slot.read]
  exact hix
noncomputable def jS (L R : Nat) (mid sh : Slot) (n : Nat) : List Slot := [nI L, nI R, mid, sh, nI n]
noncomputable def CallV (G : Gl) (A : Around) (f : Addr) (s : Shared) (a b r : Nat) : Prop := ∀ s' ta tb, Ext s s' → ∀ Q : Value → Shared → Prop, (∀ s'' t, Ext s s'' → Q (.int (r : Int) t) s'') → wpAny G.M A (call (.ref f) [.int (a : Int) ta, .int (b : Int) tb]) Q (fun zq zq => False) s'
theorem callV2 {env : Env} {k : Nat} {sl : List Slot} {p p2 : Pos} {e1 e2 : Expr} {a b r : Nat} {f1 f2 : List Slot → Option AV} {s₀ : Shared} (cx : ICx G A env k jSc s) (fr : FR env jNames sl s.heap) (h1 : EvS G NoW k jNames jSc e1 f1) (h2 : EvS G NoW k jNames jSc e2 f2)
    (n1 : notStar e1 = true) (n2 : notStar e2 = true) (q1 : f1 sl = some (.int a)) (q2 : f2 sl = some (.int b)) (cI f : Addr) (of : Obj) (fd : FuncData) (dI : env.cells.lookup ("inner" : Str) = some cI) (iI : s.heap.IsCell cI (some (.ref f))) (hf : s.heap.get? f = some of) (hd : of.data = .func fd)
    (x : Ext s₀ s) (cv : CallV G A f s₀ a b r) {Q : Value → Shared → Prop} (hQ : ∀ s'' t, Ext s₀ s'' → Q (.int (r : Int) t) s'') : wpAny G.M A (eval (.Call (.Name "inner" p) [e1, e2] [] p2) env) Q (fun zq zq => False) s := by
  have kI : env.kindOf ("inner" : Str) = some .free := by unfold Env.kindOf; rw [cx.ef.names]; rfl
  refine Call_ (wpAny_Name (wpAny_loadName_free cx.ef.kind kI dI iI (callWith_def hd ((EvL.cons h1 (EvL.cons h2 EvL.nil n2) n1).2 A env s _ _ cx.ro cx.ef fr.rs cx.ba [.int a, .int b] (by simp [consV, q1, q2]) _ fun vs s' x' r' => ⟨x'.kept f of hf (solid_func hd), ?_⟩) (starEach_cons n1))) (by decide +kernel))
  obtain ⟨v1, _, rfl, ⟨ta, rfl⟩, v2, _, rfl, ⟨tb, rfl⟩, rfl⟩ := r'
  exact cv s' ta tb (x.trans x') Q hQ
theorem d2i_shl {u d K : Nat} (hu : u < 2 ^ K) (hK : K ≤ 4000) (hd : d < 10000000) : intBin .LShift (u : Int) (d : Int) = some ((u * 2 ^ d : Nat) : Int) := by
  show (if (small ((u : Nat) : Int) && decide ((0 : Int) ≤ (d : Int)) && decide ((d : Int) < 10000000)) = true then some (((u : Nat) : Int) * 2 ^ ((d : Int)).toNat) else none) = _
  rw [if_pos (by rw [small_of_lt hu hK, decide_eq_true (Int.natCast_nonneg _), decide_eq_true (by lia)]; rfl)]
  rw [Int.toNat_natCast, Int.natCast_mul, Int.natCast_pow]; rfl
structure D2I (s0 s1 s2 s3 : Stmt) : Prop where
  if0 : ∀ {G A env k s L R n}, ICx G A env k jSc s → FR env jNames (jS L R .unset .unset n) s.heap → ∀ (cD D : Addr) (us : List Value) (ds : List Nat) (P : Flow → Shared → Prop), env.cells.lookup ("digits" : Str) = some cD → s.heap.IsCell cD (some (.ref D)) → s.heap.PlainList D us.toArray → RepL NoW s.heap (intL (ds.map Int.ofNat)) us → L < 1000000 →
    (∀ d, L + 1 = R → ds[L]? = some d → ∀ s' tv, Ext s s' → P (.ret (.int (d : Int) tv)) s') → (L + 1 = R → L < ds.length) → (L + 1 ≠ R → ∀ s', Ext s s' → P .next s') → wpAny G.M A (exec s0 env) P (fun zq zq => False) s
  mid : ∀ {G A env k s L R n}, ICx G A env k jSc s → FR env jNames (jS L R .unset .unset n) s.heap → Nx G A env jNames s1 s (jS L R (nI ((L + R) / 2)) .unset n)
  sh : ∀ {G A env k s L R n a}, ICx G A env k jSc s → FR env jNames (jS L R (nI (L + a)) .unset n) s.heap → a < 10000000 → n < 10000000 → Nx G A env jNames s2 s (jS L R (nI (L + a)) (nI (n * a)) n)
  ret : ∀ {G A env k s L R n mid d u v K}, ICx G A env k jSc s → FR env jNames (jS L R (nI mid) (nI d) n) s.heap → ∀ (cI f : Addr) (of : Obj) (fd : FuncData) (P : Flow → Shared → Prop), env.cells.lookup ("inner" : Str) = some cI → s.heap.IsCell cI (some (.ref f)) → s.heap.get? f = some of → of.data = .func fd →
    CallV G A f s mid R u → CallV G A f s L mid v → u < 2 ^ K → K ≤ 4000 → d < 10000000 → (∀ s' t, Ext s s' → P (.ret (.int ((u * 2 ^ d + v : Nat) : Int) t)) s') → wpAny G.M A (exec s3 env) P (fun zq zq => False) s
theorem jNd : jNames.Nodup := by decide +kernel
theorem d2i_f0 {env : Env} {k L R n : Nat} {p1 p2 p3 p4 p5 p6 p7 p8 p9 p10 : Pos} {k1 : Nat} (cx : ICx G A env k jSc s) (fr : FR env jNames (jS L R .unset .unset n) s.heap) (cD D : Addr) (us : List Value) (ds : List Nat) (P : Flow → Shared → Prop) (dD : env.cells.lookup ("digits" : Str) = some cD) (iD : s.heap.IsCell cD (some (.ref D))) (hpl : s.heap.PlainList D us.toArray)
    (hrl : RepL NoW s.heap (intL (ds.map Int.ofNat)) us) (hL : L < 1000000) (hb : ∀ d, L + 1 = R → ds[L]? = some d → ∀ s' tv, Ext s s' → P (.ret (.int (d : Int) tv)) s') (hl : L + 1 = R → L < ds.length) (hn : L + 1 ≠ R → ∀ s', Ext s s' → P .next s') :
    wpAny G.M A (exec (.If (.Compare (.BinOp (.Name "L" p1) .Add (.Constant (.int 1) k1 p2) p3) [.Eq] [.Name "R" p4] p5) [.Return (some (.Subscript (.Name "digits" p6) (.Name "L" p7) p8)) p9] [] p10) env) P (fun zq zq => False) s := by
  refine wpAny_If ((TsS.cmp (EvS.bin (EvS.var (i := 0) (by rfl) (by decide +kernel) (by decide +kernel)) EvS.int) (EvS.var (i := 1) (by rfl) (by decide +kernel) (by decide +kernel)) (by rfl)) A env s _ cx.ro cx.ef fr.rs cx.ba (.bool ((L : Int) + 1 == (R : Int))) ((L : Int) + 1 == (R : Int)) rfl rfl _ fun s₂ x₂ => ?_)
  by_cases h : L + 1 = R
  · rw [if_pos (by subst h; simp)]
    have fr₂ := fr.ext x₂
    have rs₂ : RS NoW env ["digits", "L"] [.val (.lst (intL (ds.map Int.ofNat))), .val (.int L)] s₂.heap := by
      intro i y sv hy hs hne
      rcases i with _ | _ | i
      · cases hy; cases hs; exact ⟨_, .inr ⟨.inr (by unfold Env.kindOf; rw [cx.ef.names]; rfl), cD, dD, IsCell.keepsK iD x₂.kept⟩, _, rfl, ⟨D, us, rfl, fun q => q, PlainList.grow x₂.kept hpl, RepL.intL_any hrl⟩, firm_intL _⟩
      · cases hy; cases hs; exact fr₂.rs 0 "L" _ rfl rfl (by simp)
      · cases hy
    obtain ⟨d, hd⟩ : ∃ d, ds[L]? = some d := ⟨_, List.getElem?_eq_getElem (hl h)⟩
    refine wpAny_execs_cons (wpAny_Return_some ?_)
    refine (EvS.idx (EvS.var (i := 0) (by rfl) (by decide +kernel) (by decide +kernel)) (EvS.var (i := 1) (by rfl) (by decide +kernel) (by decide +kernel)) (by rfl) : EvS G NoW k ["digits", "L"] jSc _ idxF) A env s₂ _ cx.ro cx.ef rs₂ (cx.ba.ext x₂) (.int (d : Int)) (jt_idx _ _ _ (idx_intL ds L d hL hd)) _ fun v s₃ x₃ r₃ => ?_
    obtain ⟨tv, rfl⟩ := r₃
    exact hb d h hd s₃ tv (x₂.trans x₃)
  · rw [if_neg (by rw [beq_iff_eq]; lia)]
    exact wpAny_execs_nil (hn h _ x₂)
theorem d2i_facts {b : List Stmt} (hb : IsD2I b) : ∃ s0 s1 s2 s3, b = [s0, s1, s2, s3] ∧ D2I s0 s1 s2 s3 := by
  cases hb
  refine ⟨_, _, _, _, rfl, ⟨d2i_f0, ?_, ?_, ?_⟩⟩
  · intro G A env k s L R n cx fr Q hQ
    exact FR.assign (i := 2) (av := .int (((L + R) / 2 : Nat) : Int)) cx.ro cx.ef cx.ba fr jNd (by rfl) (by rfl) (EvS.bin (EvS.bin (EvS.var (i := 0) (by rfl) (by decide +kernel) (by decide +kernel)) (EvS.var (i := 1) (by rfl) (by decide +kernel) (by decide +kernel))) EvS.int) (fun zq => rfl) cx.hL
      (by show some (AV.int (((L : Int) + (R : Int)).fdiv (2 ^ (1 : Int).toNat))) = _
          rw [i2d_mid]) rfl hQ
  · intro G A env k s L R n a cx fr ha hn Q hQ
    exact FR.assign (i := 3) (av := .int ((n * a : Nat) : Int)) cx.ro cx.ef cx.ba fr jNd (by rfl) (by rfl) (EvS.bin (EvS.bin (EvS.var (i := 2) (by rfl) (by decide +kernel) (by decide +kernel)) (EvS.var (i := 0) (by rfl) (by decide +kernel) (by decide +kernel))) (EvS.var (i := 4) (by rfl) (by decide +kernel) (by decide +kernel))) (fun zq => rfl) cx.hL (i2d_sh L ha hn) rfl hQ
  · intro G A env k s L R n mid d u v K cx fr cI f of fd P dI iI hf hd c1 c2 hu hK hdd hP
    refine wpAny_Return_some (wpAny_BinOp (wpAny_BinOp (callV2 cx fr (EvS.var (i := 2) (by rfl) (by decide +kernel) (by decide +kernel)) (EvS.var (i := 1) (by rfl) (by decide +kernel) (by decide +kernel)) (by rfl) (by rfl) rfl rfl cI f of fd dI iI hf hd (.refl s) c1 fun s₆ t₆ x₆ => ?_)))
    refine (EvS.var (i := 3) (by rfl) (by decide +kernel) (by decide +kernel)) A env s₆ _ cx.ro cx.ef (fr.ext x₆).rs (cx.ba.ext x₆) (.int (d : Int)) rfl _ fun w s₇ x₇ r₇ => ?_
    obtain ⟨ts, rfl⟩ := r₇
    refine intBin_sound (op := .LShift) (r := ((u * 2 ^ d : Nat) : Int)) (d2i_shl hu hK hdd) ?_
    have x₈ : Ext s { s₇ with toks := s₇.toks + 1 } := (x₆.trans x₇).trans Ext.tok
    refine callV2 (s₀ := s) ⟨cx.ro, cx.ef, cx.hL, cx.ba.ext x₈⟩ (fr.ext x₈) (EvS.var (i := 0) (by rfl) (by decide +kernel) (by decide +kernel)) (EvS.var (i := 2) (by rfl) (by decide +kernel) (by decide +kernel)) (by rfl) (by rfl) rfl rfl cI f of fd dI (IsCell.keepsK iI x₈.kept) (x₈.kept _ _ hf (solid_func hd)) hd x₈ c2 fun s₉ t₉ x₉ => ?_
    refine intBin_sound (op := .Add) (r := ((u * 2 ^ d : Nat) : Int) + ((v : Nat) : Int)) rfl ?_
    exact hP _ _ (x₉.trans Ext.tok)
theorem d2i_run (n : Nat) (hn1 : 1 ≤ n) (hb : IsD2I ibody) (hsc : iscope.names = jSc) (hco : iscope.isCoroutine = false) (hgen : iscope.isGenerator = false) (hfk : iscope.kind = .function)
    (hbind : ∀ (cl : List (Str × Addr)) (pm ctv : Value) (c' : Addr) (a b : Value), bindArgs (innerFd "inner" q params ibody iscope cl pm ctv c') ⟨[a, b], []⟩ = pure ((["L", "R"] : List Str).zip [a, b])) :
    ∀ m : Nat, 1 ≤ m → n * m ≤ 3999 → ∀ (A : Around) (s : Shared) (G : Gl) (D : Addr) (ds : List Nat) (us : List Value) (L : Nat) (tn t2 t3 : Tok), Room A m → Base G NoW s →
      InS s.heap q params ibody iscope f cl [("digits", .ref D), ("inner", .ref f), ("n", .int n tn)] → s.heap.PlainList D us.toArray → RepL NoW s.heap (intL (ds.map Int.ofNat)) us → L + m ≤ ds.length → ds.length < 1000000 → (∀ d ∈ ds, d < 2 ^ n) →
      ∀ Q : Value → Shared → Prop, (∀ s' t, Ext s s' → Q (.int ((undgs n ((ds.drop L).take m) : Nat) : Int) t) s') →
      wpAny G.M A (call (.ref f) [.int L t2, .int ((L + m : Nat) : Int) t3]) Q (fun zq zq => False) s := by
  intro m
  induction m using Nat.strongRecOn with
  | ind m ih =>
  intro hm hnm A s G D ds us L tn t2 t3 ro ba ins hpl hrl hle hlen hds Q hQ
  obtain ⟨of, pm, ctv, c', oc, e1, e2, e3, e4, e5⟩ := ins.fn
  obtain ⟨k, rfl⟩ : ∃ k, m = k + 1 := ⟨m - 1, by lia⟩
  obtain ⟨s0, s1, s2, s3, hbe, F⟩ := d2i_facts hb
  refine wpAny_call (codeAny_call_plain (binds := (["L", "R"] : List Str).zip [.int L t2, .int ((L + (k + 1) : Nat) : Int) t3]) ro.limit e1 e2 (NoLimit.keepsK G.top.nolimit ba.keep) e5 rfl (hbind _ _ _ _ _ _) ?_ ?_ (fun h₀ hns hk => ?_) hco hgen hfk)
  · show ∀ y ∈ iscope.names, y.2 ≠ .cell
    rw [hsc]; decide +kernel
  · show ∀ y ∈ (["L", "R"] : List Str).zip [Value.int L t2, .int ((L + (k + 1) : Nat) : Int) t3], iscope.names.lookup y.1 = some .local
    rw [hsc]
    intro y hy
    simp only [List.zip_cons_cons, List.zip_nil_right, List.mem_cons, List.not_mem_nil, or_false] at hy
    rcases hy with rfl | rfl <;> rfl
  obtain ⟨env, hE⟩ : ∃ env, callEnv (innerFd "inner" q params ibody iscope cl pm ctv c') s.heap.objs.size f = env := ⟨_, rfl⟩
  rw [hE]
  have eL : env.locals = s.heap.objs.size := by rw [← hE]; rfl
  have eC : env.cells = cl := by rw [← hE]; rfl
  have eK : ∀ y, env.kindOf y = jSc.lookup y := fun y => by rw [← hE, ← hsc]; rfl
  have kf : FKept s.heap h₀ := hk
  obtain ⟨cD, dD, iD⟩ := ins.cells "digits" (.ref D) (by rfl)
  obtain ⟨cI, dI, iI⟩ := ins.cells "inner" (.ref f) (by rfl)
  obtain ⟨cN, dN, iN⟩ := ins.cells "n" (.int n tn) (by rfl)
  have ef : EnvF env jSc := ⟨by rw [← hE]; exact hfk, by rw [← hE]; rfl, by rw [← hE]; rfl, by rw [← hE]; exact hsc, fun y kd hy hkd => by
    rw [eC]
    have hm := mem_of_lookup hy
    have : (y = "digits" ∨ y = "inner" ∨ y = "n") := by
      simp only [jSc, List.mem_cons, List.not_mem_nil, or_false, Prod.mk.injEq] at hm
      rcases hkd with rfl | rfl <;> simp_all
    rcases this with rfl | rfl | rfl
    · exact ⟨cD, dD⟩
    · exact ⟨cI, dI⟩
    · exact ⟨cN, dN⟩⟩
  have ro' : Room (A.deeper env) k := ro.deeper
  have hLn : s.heap.get? env.locals = none := by rw [eL]; exact get_size _
  have hL0 : G.h₀.get? env.locals = none := ba.gone _ hLn
  rw [← eL] at hns
  have fr : FR env jNames (jS L (L + (k + 1)) .unset .unset n) h₀ := by
    refine .of hns ?_ (Nat.le_refl _)
    simp only [jS, jNames, List.zip_cons_cons, List.zip_nil_right, List.forall_mem_cons, List.not_mem_nil, false_implies, implies_true, and_true]
    exact ⟨.int (.inl ⟨by rw [eK]; rfl, _, hns, rfl⟩), .int (.inl ⟨by rw [eK]; rfl, _, hns, rfl⟩), .inl rfl, .inl rfl, .int (.inr ⟨.inr (by rw [eK]; rfl), cN, by rw [eC]; exact dN, iN.keeps kf⟩)⟩
  have x₁ : Ext s { s with heap := h₀, toks := s.toks + ((["L", "R"] : List Str).zip [Value.int L t2, .int ((L + (k + 1) : Nat) : Int) t3]).length } := Ext.of kf
  obtain ⟨s₁, hs₁⟩ : ∃ s₁, ({ s with heap := h₀, toks := s.toks + ((["L", "R"] : List Str).zip [Value.int L t2, .int ((L + (k + 1) : Nat) : Int) t3]).length } : Shared) = s₁ := ⟨_, rfl⟩
  have hh : s₁.heap = h₀ := by rw [← hs₁]
  rw [hs₁] at x₁ ⊢
  rw [← hh] at fr
  suffices body : ∀ P : Flow → Shared → Prop, (∀ s' t, Ext s s' → P (.ret (.int ((undgs n ((ds.drop L).take (k + 1)) : Nat) : Int) t)) s') → wpAny G.M (A.deeper env) (execs [s0, s1, s2, s3] env) P (fun zq zq => False) s₁ from noE' (hbe ▸ body _ fun s' t x => hQ s' t x)
  clear hE hs₁ hbe hns hk kf hh hQ
  intro P hP
  have toExt : ∀ s', Chg (· = env.locals) s s' → Ext s s' := fun s' x => (x.mono (Y := NoW) fun d h => .inr (by rw [h]; exact hLn)).ext
  have cx : ∀ s', Ext s s' → ICx G (A.deeper env) env k jSc s' := fun s' x => ⟨ro', ef, hL0, ba.ext x⟩
  rw [← eC] at dD dI
  refine wpAny_execs_cons (F.if0 (cx _ x₁) fr cD D us ds _ dD (IsCell.keepsK iD x₁.kept) (PlainList.grow x₁.kept hpl) (RepL.intL_any hrl) (by lia) (fun d h hd s' tv x => ?_) (fun h => by lia) fun h s₂ x₂ => ?_)
  · obtain rfl : k = 0 := by lia
    have hval : undgs n ((ds.drop L).take (0 + 1)) = d := by
      obtain ⟨hL, rfl⟩ := List.getElem?_eq_some_iff.mp hd
      rw [List.drop_eq_getElem_cons hL]
      simp only [Nat.zero_add, List.take_succ_cons, List.take_zero, undgs, Nat.mul_zero, Nat.add_zero]
    rw [← hval]
    exact hP s' tv (x₁.trans x)
  · have hm2 : (k + 1) / 2 ≤ k := by lia
    have hm1 : 1 ≤ (k + 1) / 2 := by lia
    have hmid : (L + (L + (k + 1))) / 2 = L + (k + 1) / 2 := by lia
    obtain ⟨a, ha⟩ : ∃ a, (k + 1) / 2 = a := ⟨_, rfl⟩
    rw [ha] at hm2 hm1 hmid
    obtain ⟨b, hab⟩ : ∃ b, k + 1 = a + b := ⟨k + 1 - a, by lia⟩
    clear ha
    have hb1 : 1 ≤ b := by lia
    have hbk : b ≤ k := by lia
    have hn4 : n ≤ 4000 := Nat.le_trans (Nat.le_trans (Nat.le_of_eq (Nat.mul_one n).symm) (Nat.mul_le_mul_left n hm)) (Nat.le_succ_of_le hnm)
    have ha4 : n * a ≤ 3999 := Nat.le_trans (Nat.mul_le_mul_left n (by lia)) hnm
    have hb4 : n * b ≤ 3999 := Nat.le_trans (Nat.mul_le_mul_left n (by lia)) hnm
    have x₂ := x₁.trans x₂
    refine (F.mid (cx _ x₂) (fr.ext (by assumption))).cons fun s₃ x₃ fr₃ => ?_
    rw [hmid] at fr₃
    have c₃ := (Ext.chg x₂).trans x₃
    refine (F.sh (cx _ (toExt _ c₃)) fr₃ (by lia) (by lia)).cons fun s₄ x₄ fr₄ => ?_
    have x₄ := toExt _ (c₃.trans x₄)
    have hub : undgs n ((ds.drop (L + a)).take b) < 2 ^ (n * b) := by
      have := undgs_lt n ((ds.drop (L + a)).take b) fun d hd => hds d (List.mem_of_mem_drop (List.mem_of_mem_take hd))
      rw [List.length_take, List.length_drop, Nat.min_eq_left (by lia)] at this
      exact this
    have hval : undgs n ((ds.drop (L + a)).take b) * 2 ^ (n * a) + undgs n ((ds.drop L).take a) = undgs n ((ds.drop L).take (k + 1)) := by
      rw [hab, take_split, undgs_append, List.length_take, List.length_drop, Nat.min_eq_left (by lia), Nat.mul_comm (undgs n _), Nat.add_comm]
    have hR : L + (k + 1) = L + a + b := by lia
    rw [hR] at fr₄
    refine wpAny_execs_cons (F.ret (cx _ x₄) fr₄ cI f of _ _ dI (IsCell.keepsK iI x₄.kept) (x₄.kept f of e1 (solid_func e2)) e2
      (fun s' ta tb x Q hQ => ih b (by lia) hb1 hb4 (A.deeper env) s' G D ds us (L + a) tn ta tb (ro'.le hbk) (ba.ext (x₄.trans x)) (ins.ext (x₄.trans x)) (PlainList.grow (x₄.trans x).kept hpl) (RepL.intL_any hrl) (by lia) hlen hds _ fun s'' t y => hQ s'' t (x.trans y))
      (fun s' ta tb x Q hQ => ih a (by lia) hm1 ha4 (A.deeper env) s' G D ds us L tn ta tb (ro'.le hm2) (ba.ext (x₄.trans x)) (ins.ext (x₄.trans x)) (PlainList.grow (x₄.trans x).kept hpl) (RepL.intL_any hrl) (by lia) hlen hds _ fun s'' t y => hQ s'' t (x.trans y))
      hub (Nat.le_succ_of_le hb4) (by lia) fun s' t x => ?_)
    rw [hval]
    exact hP s' t (x₄.trans x)
end
noncomputable def tailD2I : List Slot → Option (Fl × List Slot) := fun sl => match sl with
  | [x, y, z] => (lst? x).bind fun xs => (int? y).bind fun n => (unset? z).bind fun zq => (asInts xs).bind fun ds =>
    if (ds.all fun d => decide (0 ≤ d ∧ d.toNat < 2 ^ n.toNat)) = true ∧ 1 ≤ n ∧ n.toNat * ds.length ≤ 3999 ∧ ds.length ≤ 30 then some (.ret (.int ((undgs n.toNat (ds.map Int.toNat) : Nat) : Int)), [.val (.lst xs), .val (.int n), .unset]) else none
  | _ => none
noncomputable abbrev dNames : List Str := ["digits", "n", "inner"]
theorem toNat_back : ∀ (ds : List Int), (∀ d ∈ ds, 0 ≤ d) → (ds.map Int.toNat).map Int.ofNat = ds
  | [], _ => rfl
  | d :: ds, h => by
    have := h d List.mem_cons_self
    simp only [List.map_cons]
    rw [toNat_back ds fun e he => h e (List.mem_cons_of_mem _ he)]
    congr 1
    show ((d.toNat : Nat) : Int) = d
    lia

theorem tailD2I_some {sl sl' : List Slot} {fl : Fl} (hf : tailD2I sl = some (fl, sl')) : ∃ xs n ds, sl = [.val (.lst xs), .val (.int n), .unset] ∧ asInts xs = some ds ∧ (∀ d ∈ ds, 0 ≤ d ∧ d.toNat < 2 ^ n.toNat) ∧ 1 ≤ n ∧ n.toNat * ds.length ≤ 3999 ∧ ds.length ≤ 30 ∧
    fl = .ret (.int ((undgs n.toNat (ds.map Int.toNat) : Nat) : Int)) ∧ sl' = [.val (.lst xs), .val (.int n), .unset] := by
  unfold tailD2I at hf
  split at hf
  · obtain ⟨xs, h1, hf⟩ := Option.bind_eq_some_iff.mp hf
    obtain ⟨n, h2, hf⟩ := Option.bind_eq_some_iff.mp hf
    obtain ⟨_, h3, hf⟩ := Option.bind_eq_some_iff.mp hf
    obtain ⟨ds, h0, hf⟩ := Option.bind_eq_some_iff.mp hf
    split at hf
    · next hc =>
      cases hf
      rw [lst?_ex h1, int?_ex h2, unset?_ex h3]
      exact ⟨_, _, ds, rfl, h0, fun d hd => by have := List.all_eq_true.mp hc.1 d hd; simpa using this, hc.2.1, hc.2.2.1, hc.2.2.2, rfl, rfl⟩
    · cases hf
  · cases hf
theorem d2i_tail {params : Arguments} {ibody : List Stmt} {iscope : Scope} {pos p1 p2 p3 p4 p5 p6 p7 p8 p9 p10 : Pos} {kd kd' : Nat} {G : Gl} {env : Env} {sc : List (Str × NameKind)}
    (hb : IsD2I ibody) (hsc : iscope.names = jSc) (hco : iscope.isCoroutine = false) (hgen : iscope.isGenerator = false) (hfk : iscope.kind = .function)
    (hbind : ∀ (cl : List (Str × Addr)) (pm ctv : Value) (c' : Addr) (a b : Value), bindArgs (innerFd "inner" qInt params ibody iscope cl pm ctv c') ⟨[a, b], []⟩ = pure ((["L", "R"] : List Str).zip [a, b]))
    (hexec : PlainDefTree "inner" params ibody iscope pos) (de : DefEnv G "_digits2int" qInt pos env)
    (hlen : G.mg ("len" : Str) = none) (k2 : sc.lookup ("n" : Str) = some .cell) (k3 : sc.lookup ("digits" : Str) = some .cell) (k4 : sc.lookup ("inner" : Str) = some .cell) (k5 : sc.lookup ("len" : Str) = some .globalImplicit) :
    SsE env G 30 dNames sc [.FunctionDef "inner" params ibody [] none [] iscope none "inner" pos,
      .Return (some (.IfExp (.Name "digits" p1) (.Call (.Name "inner" p2) [.Constant (.int 0) kd p3, .Call (.Name "len" p4) [.Name "digits" p5] [] p6] [] p7) (.Constant (.int 0) kd' p8) p9)) p10] tailD2I := by
  intro A W s sl m os va ro ef eo st fl sl' hf Q hQ
  refine byG fun X hX => ?_
  obtain ⟨xs, n, ds, rfl, h0, hds, hn, hsm, hdl, rfl, rfl⟩ := tailD2I_some hf
  clear hf
  have hxs := asInts_intL h0
  have hback := toNat_back ds fun d hd => (hds d hd).1
  have kO : ∀ y, env.kindOf y = sc.lookup y := fun y => by unfold Env.kindOf; rw [ef.names]
  obtain ⟨lI, _⟩ := st.slots 2 "inner" .unset rfl rfl
  obtain ⟨_, cI, eI, iI⟩ := lI.resolve_left (fun q => by have := q.1; rw [kO, k4] at this; cases this)
  refine hX ?_
  clear hX
  have hfree : ∀ y ∈ iscope.names, y.2 = .free → ∃ c, env.cells.lookup y.1 = some c := by
    rw [hsc]
    intro y hy hfr
    simp only [jSc, List.mem_cons, List.not_mem_nil, or_false] at hy
    rcases hy with rfl | rfl | rfl | rfl | rfl | rfl | rfl <;> first | (cases hfr; done) | skip
    · exact ef.cells _ _ k3 (.inl rfl)
    · exact ef.cells _ _ k4 (.inl rfl)
    · exact ef.cells _ _ k2 (.inl rfl)
  refine wpAny_execs_cons (def_inner (W := W) (.inr ⟨rfl, rfl⟩) de ef st.base hexec (by cases hb; rfl) hfree (by rw [kO]; exact k4) eI iI (st.wc _ _ eI) fun f of cl pm ctv c' oc h' tk hcl1 hcl2 hof hofd hfn isc hoc hocc hrec tb kk gn => ?_)
  have s1 := st.recell (tk := tk) eo (i := 2) (x := "inner") (v := .ref f) rfl rfl (by rw [kO]; exact k4) eI iI isc kk gn tb
  obtain ⟨mv₁, st₁⟩ := s1
  obtain ⟨s₁, hs₁⟩ : ∃ s₁, ({ s with heap := h', toks := tk } : Shared) = s₁ := ⟨_, rfl⟩
  rw [hs₁] at mv₁ st₁ ⊢
  have hh₁ : s₁.heap = h' := by rw [← hs₁]
  rw [← hh₁] at hof isc hoc hrec
  dsimp only
  have hx1 : xs.length < 1000000 := by rw [hxs]; simp; lia
  have htr : truth (.lst xs) = some (!xs.isEmpty) := by show (if xs.length < 1000000 then some (!xs.isEmpty) else none) = _; rw [if_pos hx1]
  suffices body : ∀ P : Value → Shared → Prop, (∀ (r : Int) (t : Tok) (s' : Shared), r = ((undgs n.toNat (ds.map Int.toNat) : Nat) : Int) → Ext s₁ s' → P (.int r t) s') → wpAny G.M A (eval (.IfExp (.Name "digits" p1) (.Call (.Name "inner" p2) [.Constant (.int 0) kd p3, .Call (.Name "len" p4) [.Name "digits" p5] [] p6] [] p7) (.Constant (.int 0) kd' p8) p9) env) P (fun zq zq => False) s₁ from
    wpAny_execs_cons (wpAny_Return_some (body _ fun r t s' hr x => by subst hr; exact hQ W s' m os _ _ (mv₁.trans (Mov.ext x)) (st₁.ext x) ⟨_, rfl, t, rfl⟩))
  clear hQ hs₁ hh₁ tb kk gn mv₁
  intro P fin
  refine IfExp_ ((TsS.value (EvS.var (i := 0) (by rfl) (by decide +kernel) (by decide +kernel)) (fun zq zq => rfl)) A env s₁ _ ro ef st₁.rs st₁.base (.lst xs) (!xs.isEmpty) rfl htr _ fun s₂ x₂ => ?_)
  have st₂ := st₁.ext x₂
  by_cases he : ds = []
  · subst he
    have hx0 : xs = [] := hxs
    rw [hx0]
    rw [show (![].isEmpty (α := AV)) = false from rfl, if_neg (by decide)]
    refine (EvS.int (G := G) (W := W) (k := 30) (names := dNames) (sc := sc)) A env s₂ _ ro ef st₂.rs st₂.base (.int 0) rfl _ fun v s₃ x₃ r₃ => ?_
    obtain ⟨t, rfl⟩ := r₃
    exact fin 0 t s₃ rfl (x₂.trans x₃)
  · have hne : (!xs.isEmpty) = true := by
      rw [hxs]; cases ds with
      | nil => exact absurd rfl he
      | cons a b => rfl
    rw [hne, if_pos rfl]
    have hl1 : 1 ≤ ds.length := by cases ds with
      | nil => exact absurd rfl he
      | cons a b => simp
    refine byG fun X hX => ?_
    obtain ⟨lI₂, _⟩ := st₂.slots 2 "inner" .unset rfl rfl
    obtain ⟨_, cI', eI', iI'⟩ := lI₂.resolve_left (fun q => by have := q.1; rw [kO, k4] at this; cases this)
    rw [eI] at eI'; cases eI'
    have iI' : s₂.heap.IsCell cI (some (.ref f)) := iI'
    refine hX ?_
    clear hX
    refine Call_ (wpAny_Name (wpAny_loadName_cell ef.kind (by rw [kO]; exact k4) eI iI' ?_) (by decide +kernel))
    have hlen1 : lenV [AV.lst xs] = some (.int xs.length) := by
      show (if xs.length < 1000000 then some (AV.int xs.length) else none) = _
      rw [if_pos hx1]
    refine callWith_def hofd ((EvL.cons EvS.int (EvL.cons (EvS.len k5 hlen (EvL.cons (EvS.var (i := 0) (by rfl) (by decide +kernel) (by decide +kernel)) EvL.nil (by rfl)) (by rfl)) EvL.nil (by rfl)) (by rfl)).2 A env s₂ _ _ ro ef st₂.rs st₂.base [.int 0, .int xs.length] ?_ _ fun vs s₃ x₃ r₃ => ⟨x₃.kept _ _ (x₂.kept _ _ hof (solid_func hofd)) (solid_func hofd), ?_⟩) (starEach_cons (by rfl))
    · show (some (AV.int 0)).bind (fun b => Option.map (b :: ·) (((some [AV.lst xs]).bind lenV).bind fun c => Option.map (c :: ·) (some []))) = _
      simp [hlen1]
    · have st₃ := st₂.ext x₃
      refine byG fun X hX => ?_
      obtain ⟨v2, q2, rfl, ⟨t2, rfl⟩, v3, q3, rfl, ⟨t3, rfl⟩, rfl⟩ := r₃
      obtain ⟨lD, _, vD, eD0, rD, _⟩ := st₃.slots 0 "digits" (.val (.lst xs)) rfl rfl
      obtain ⟨D, us, rfl, _, plD, rlD⟩ := rD
      rw [eD0] at lD
      obtain ⟨_, cD, eD, iD⟩ := lD.resolve_left (fun q => by have := q.1; rw [kO, k3] at this; cases this)
      obtain ⟨lN, _, vN, eN, ⟨tn, rN⟩, _⟩ := st₃.slots 1 "n" (.val (.int n)) rfl rfl
      rw [eN, rN] at lN
      obtain ⟨_, cN, eN', iN⟩ := lN.resolve_left (fun q => by have := q.1; rw [kO, k2] at this; cases this)
      obtain ⟨lI₃, _⟩ := st₃.slots 2 "inner" .unset rfl rfl
      obtain ⟨_, cI', eI'', iI₃⟩ := lI₃.resolve_left (fun q => by have := q.1; rw [kO, k4] at this; cases this)
      have iI₃ : s₃.heap.IsCell cI' (some (.ref f)) := iI₃
      refine hX ?_
      clear hX
      have clAt : ∀ y c, (y, NameKind.free) ∈ iscope.names → env.cells.lookup y = some c → cl.lookup y = some c := fun y c hy h => by
        obtain ⟨c2, h2⟩ := hcl2 y hy
        have := hcl1 y c2 h2
        rw [h] at this; cases this; exact h2
      have ins : InS s₃.heap qInt params ibody iscope f cl [("digits", .ref D), ("inner", .ref f), ("n", .int (n.toNat : Int) tn)] := by
        refine ⟨?_, ?_⟩
        · have e1 := x₃.kept _ _ (x₂.kept _ _ hof (solid_func hofd)) (solid_func hofd)
          have e2 := x₃.kept _ _ (x₂.kept _ _ hoc (solid_cls hocc)) (solid_cls hocc)
          exact ⟨of, pm, ctv, c', oc, e1, hofd, e2, hocc, CodeRec.keepsK hrec hoc hocc (x₂.trans x₃).kept⟩
        · intro y v hv
          have hm := mem_of_lookup hv
          simp only [List.mem_cons, List.not_mem_nil, or_false, Prod.mk.injEq] at hm
          rcases hm with ⟨rfl, rfl⟩ | ⟨rfl, rfl⟩ | ⟨rfl, rfl⟩
          · exact ⟨cD, clAt _ _ (by rw [hsc]; decide +kernel) eD, iD⟩
          · exact ⟨cI', clAt _ _ (by rw [hsc]; decide +kernel) eI'', iI₃⟩
          · exact ⟨cN, clAt _ _ (by rw [hsc]; decide +kernel) eN', by rw [Int.toNat_of_nonneg (by lia)]; exact iN⟩
      have run := d2i_run (f := f) (cl := cl) n.toNat (by lia) hb hsc hco hgen hfk hbind ds.length hl1 hsm A s₃ G D (ds.map Int.toNat) us 0 tn t2 t3 (ro.le hdl) st₃.base.noW ins plD (by rw [hback]; rw [hxs] at rlD; exact RepL.intL_any rlD) (by rw [List.length_map]; lia) (by rw [List.length_map]; lia) (fun d hd => by obtain ⟨e, he, rfl⟩ := List.mem_map.mp hd; exact (hds e he).2)
      have exl : (((0 + ds.length : Nat)) : Int) = ((xs.length : Nat) : Int) := by rw [hxs]; simp
      rw [exl] at run
      refine run _ fun s₄ t₄ x₄ => ?_
      refine fin _ t₄ s₄ ?_ ((x₂.trans x₃).trans x₄)
      rw [List.drop_zero, List.take_of_length_le (by rw [List.length_map]; lia)]
end Mine
end

section
open PySem PySem.W PyProof.Rows
set_option Elab.async false
set_option tactic.hygienic false
set_option maxRecDepth 100000
set_option linter.unusedVariables false
namespace Mine
theorem RepV.flatAny {W W' : Addr → Prop} {h h' : Heap} {a : AV} {v : Value} (f : a.flat = true) (r : RepV W h a v) : RepV W' h' a v := by cases a <;> first | exact r | cases f
theorem RepL.flatAny {W W' : Addr → Prop} {h h' : Heap} : ∀ {xs : List AV} {vs : List Value}, xs.all AV.flat = true → RepL W h xs vs → RepL W' h' xs vs
  | [], _, _, r => r
  | x :: xs, _, f, ⟨v, q, e, a, b⟩ => by
    simp only [List.all_cons, Bool.and_eq_true] at f
    exact ⟨v, q, e, a.flatAny f.1, RepL.flatAny f.2 b⟩
noncomputable def zipVL (fe : List Slot → Option AV) : List AV → List AV → Option (List AV)
  | x :: xs, y :: ys => if x.flat = true ∧ y.flat = true then (fe [.val x, .val y]).bind fun r => if r.flat = true then (zipVL fe xs ys).map (r :: ·) else none else none
  | _, _ => some []
noncomputable def zipV (fe : List Slot → Option AV) : AV → AV → Option AV
  | .lst xs, .lst ys => if xs.length < 1000000 ∧ ys.length < 1000000 then (zipVL fe xs ys).map .lst else none
  | _, _ => none
set_option tactic.hygienic true in
theorem zipV_some {fe : List Slot → Option AV} {a b r : AV} (h : zipV fe a b = some r) : ∃ xs ys out, a = .lst xs ∧ b = .lst ys ∧ (xs.length < 1000000 ∧ ys.length < 1000000) ∧ zipVL fe xs ys = some out ∧ r = .lst out := by
  unfold zipV at h
  split at h
  · next xs ys =>
    split at h
    · next hc =>
      obtain ⟨out, h1, rfl⟩ := Option.map_eq_some_iff.mp h
      exact ⟨xs, ys, out, rfl, rfl, hc, h1, rfl⟩
    · cases h
  · cases h
theorem TB.news {H h h' : Heap} {wr : Addr → Prop} (x : TB H h) (kk : ∀ b o, ¬ wr b → h.get? b = some o → h'.get? b = some o) (hw : ∀ b, wr b → ∃ o, h.get? b = some o ∧ codey o = false) (hm : ¬ wr mainGlobals) : TB H h' :=
  x.but (fun _ ⟨o, es, ep, e, d, r⟩ => ⟨o, es, ep, kk _ _ hm e, d, r⟩) (fun b o s e => kk _ _ (fun m => by obtain ⟨o', e', c⟩ := hw _ m; rw [e] at e'; cases e'; rw [c] at s; cases s) e)
theorem cells_none : ∀ {ns : List (Str × NameKind)} {n : Nat}, (∀ y ∈ ns, y.2 = .local) → cellsFrom n ns [] = []
  | [], _, _ => rfl
  | (x, k) :: r, n, h => by
    have hk : k = .local := h (x, k) List.mem_cons_self
    subst hk
    unfold cellsFrom
    rw [if_neg (by decide)]
    exact cells_none fun y hy => h y (List.mem_cons_of_mem _ hy)
theorem relab_loc {sc ns : List (Str × NameKind)} (h : ∀ y ∈ ns, y.2 = .local) : relab sc ns = ns := by
  unfold relab
  induction ns with
  | nil => rfl
  | cons a r ih =>
    obtain ⟨n, k⟩ := a
    have hk : k = .local := h (n, k) List.mem_cons_self
    rw [List.map_cons, ih fun y hy => h y (List.mem_cons_of_mem _ hy)]
    subst hk; rfl
theorem FR.moveL {env : Env} {names : List Str} {sl : List Slot} {h h' : Heap} (fr : FR env names sl h) (hloc : ∀ (i : Nat) z, names[i]? = some z → env.kindOf z = some .local) (kk : ∀ o, h.get? env.locals = some o → h'.get? env.locals = some o) : FR env names sl h' where
  ns := let ⟨m, o, es, ep, e, r⟩ := fr.ns; ⟨m, o, es, ep, kk _ e, r⟩
  rs := by
    intro j y sv hy hs hne
    obtain ⟨ov, l, r⟩ := fr.rs j y sv hy hs hne
    refine ⟨ov, ?_, ?_⟩
    · rcases l with ⟨q, m, ⟨o, es, ep, e, rr⟩, e'⟩ | ⟨q, _⟩
      · exact .inl ⟨q, m, ⟨o, es, ep, kk _ e, rr⟩, e'⟩
      · rw [hloc j y hy] at q; rcases q with q | q <;> cases q
    · rcases fr.flat j sv hs with rfl | ⟨a', rfl, fa⟩
      · exact absurd rfl hne
      · obtain ⟨u, e, ru, f⟩ := r
        exact ⟨u, e, (by cases a' <;> first | exact ru | cases fa), f⟩
  flat := fr.flat
theorem chg_ns {a : Shared} {h' : Heap} {C : Addr} {m m' : Str → Option Value} (hC : a.heap.Ns C m) (hC' : h'.Ns C m') (sb : Heap.SameBut C a.heap h') (hM : C ≠ mainGlobals) {tk : Nat} : Chg (· = C) a { a with heap := h', toks := tk } := by
  obtain ⟨o, e, c⟩ := codey_ns hC
  exact ⟨h', tk, rfl, fun b o hb e zq => sb.extBut b o hb e, none_but (fun b o hb e => sb.extBut b o hb e) (by obtain ⟨o, e, _⟩ := codey_ns hC'; rw [e]; rfl), fun zq t => t.change (fun b o hb e => sb.extBut b o hb e) hM e c⟩
theorem two_set {sl : List Slot} (h : sl.length = 2) (a b : Slot) : (sl.set 0 a).set 1 b = [a, b] := by
  match sl, h with
  | [_, _], _ => rfl
noncomputable def PEl (M : Model) (A : Around) (elt : Expr) (env : Env) (acc : Value) (J : Shared → Prop) (_ : Unit) (s : Shared) : Prop := wpAny M A (eval elt env) (PApp M A acc J) (fun zq zq => False) s
noncomputable def PLt (M : Model) (A : Around) (target : Expr) (env : Env) (v : Value) (Q : Unit → Shared → Prop) (_ : Unit) (s : Shared) : Prop := wpAny M A (assign target env v) Q (fun zq zq => False) s
noncomputable def PNx2 (M : Model) (A : Around) (target : Expr) (it : Value) (env : Env) (Q : Unit → Shared → Prop) (K : Shared → Prop) (r : Option Value) (s : Shared) : Prop :=
  match r with
  | Option.none => K s
  | some v => wpAny M A (letOwnedTupleGo target it v) (PLt M A target env v Q) (fun zq zq => False) s
theorem loop_pair {prog : Program} {w : World} {A : Around} {s : Shared} {R : Result → Shared → Prop} {elts : List Expr} {x1 : Nat} {tp : Pos} {elt iter : Expr} {scope : Scope} {pos : Pos} {it acc : Value} {env : Env} (I : Nat → Shared → Prop)
    (turn : ∀ n s (J : Shared → Prop), (∀ m s', m < n → I m s' → J s') → I n s → wpAny (model prog w) A (pyNext it) (PNx2 (model prog w) A (.Tuple elts x1 tp) it env (PEl (model prog w) A elt env acc J) (R (.ok .next))) (fun zq zq => False) s)
    (n : Nat) (h : I n s) : codeAny (model prog w) A (.compLoop (.ListComp elt [⟨.Tuple elts x1 tp, iter, [], 0⟩] scope pos) 0 it acc env) R s := by
  refine LCp.codeAny_compLoop_pair I (fun n s' h => wpAny_mono (turn n s' (fun s₅ => ∃ m, m < n ∧ I m s₅) (fun m s' a b => ⟨m, a, b⟩) h) (fun r s₁ h₁ => ?_) fun zq zq f => f.elim) n h
  cases r with
  | none => exact h₁
  | some v =>
    exact wpAny_mono (show wpAny _ _ _ _ _ _ from h₁) (fun zq s₂ h₂ => wpAny_mono (show wpAny _ _ _ _ _ _ from h₂) (fun zq s₃ h₃ => wpAny_mono (show wpAny _ _ _ _ _ _ from h₃) (fun x s₄ h₄ =>
      wpAny_mono (show wpAny _ _ _ _ _ _ from h₄) (fun zq zq h => h) fun zq zq f => f.elim) fun zq zq f => f.elim) fun zq zq f => f.elim) fun zq zq f => f.elim
theorem chg_wr {wr : List Addr} {a : Shared} {h' : Heap} {tk : Nat} (kk : ∀ b o, b ∉ wr → a.heap.get? b = some o → h'.get? b = some o) (e1 : ∀ b ∈ wr, ∃ o, a.heap.get? b = some o ∧ codey o = false)
    (e2 : ∀ b ∈ wr, ∃ o, h'.get? b = some o ∧ codey o = false) (hM : mainGlobals ∉ wr) : Chg (· ∈ wr) a { a with heap := h', toks := tk } :=
  ⟨h', tk, rfl, fun b o hb e zq => kk b o hb e, none_wr kk fun b hb => by obtain ⟨o, e, _⟩ := e2 b hb; rw [e]; rfl, fun zq t => t.news (wr := (· ∈ wr)) kk e1 hM⟩
section
variable {G : Gl} {W : Addr → Prop} {k : Nat} {names : List Str} {sc : List (Str × NameKind)} {A : Around} {s : Shared} {E : Value → Shared → Prop}
noncomputable abbrev ZP (us ws : List Value) (i : Nat) (vals : Array Value) : Prop := ∃ x y, us.toArray[i]? = some x ∧ ws.toArray[i]? = some y ∧ vals = #[x, y]
structure ZSt (fp wr : List Addr) (h : Heap) : Prop where
  w : ∀ b ∈ wr, ∃ o, h.get? b = some o ∧ codey o = false
  t : ∀ b ∈ fp, ∀ o, h.get? b = some o → tabby o = false
structure ZOpen (G : Gl) (A : Around) (s s₂ : Shared) (Z : Addr) (fp wr : List Addr) (n : Nat) (St : Nat → Heap → Prop) (Mid : Nat → Addr → Heap → Prop) (us ws : List Value) (xs ys : List AV) : Prop where
  x : Ext s s₂
  wk : WalksT G.prog G.w A Z fp wr n (ZP us ws) St Mid
  st : St 0 s₂.heap
  fpl : ∀ b ∈ fp, b < s₂.heap.objs.size
  wrn : ∀ b ∈ wr, s.heap.get? b = Option.none
  hws : ∀ i h, St i h → ZSt fp wr h
  r1 : ∃ W h, RepL W h xs us
  r2 : ∃ W h, RepL W h ys ws

theorem zip_next {Z : Addr} {fp wr : List Addr} {n : Nat} {St : Nat → Heap → Prop} {Mid : Nat → Addr → Heap → Prop} {us ws : List Value} (Wk : WalksT G.prog G.w A Z fp wr n (ZP us ws) St Mid)
    (hh : A.handled = Option.none) (hws : ∀ i h, St i h → ZSt fp wr h) (hM : mainGlobals ∉ wr) {i : Nat} (hlt : i < n) (st : St i s.heap) {env : Env} {x y : Str} {px py tp : Pos} {tk : Nat} {Q : Unit → Shared → Prop} {K : Shared → Prop}
    (hQ : ∀ s' v1 v2, us[i]? = some v1 → ws[i]? = some v2 → Chg (· ∈ wr) s s' → St (i + 1) s'.heap → wpAny G.M A (assignInOrder ((assignEach [.Name x px, .Name y py] env).map (·.2)) [v1, v2]) Q (fun zq zq => False) s') :
    wpAny G.M A (pyNext (.ref Z)) (PNx2 G.M A (.Tuple [.Name x px, .Name y py] tk tp) (.ref Z) env Q K) (fun zq zq => False) s := by
  refine Wk.item i s _ _ hlt st fun T vals h₁ tk₁ hPt hge hT hMid kk₁ => ?_
  obtain ⟨v1, v2, hv1, hv2, rfl⟩ := hPt
  show wpAny _ _ (letOwnedTupleGo (.Tuple [.Name x px, .Name y py] tk tp) (.ref Z) (.ref T)) _ _ _
  refine Wk.go _ _ _ i T _ _ _ hMid fun h₂ st₂ kk₂ => ?_
  dsimp only at kk₂
  have hT₂ : h₂.IsTuple T #[v1, v2] := let ⟨o, e, r⟩ := hT; ⟨o, kk₂ _ _ (Wk.apart i T h₁ hMid) e, r⟩
  show wpAny _ _ (assign (.Tuple [.Name x px, .Name y py] tk tp) env (.ref T)) _ _ _
  refine wpAny_assign_Tuple hh hT₂ (by rfl) (by rfl) fun h₃ ext₃ => ?_
  dsimp only at ext₃
  have kp₃ : FKept h₂ h₃ := fun b o e => ext₃ b o (Nat.ne_of_lt (Heap.lt_size e)) e
  have st₃ : St (i + 1) h₃ := Wk.frame _ _ _ st₂ fun b zq o e => kp₃ b o e
  exact hQ _ v1 v2 (by simpa using hv1) (by simpa using hv2) (chg_wr (fun b o hb e => kp₃ b o (kk₂ b o hb (kk₁ b o hb e))) (hws i _ st).w (hws _ _ st₃).w hM) st₃

theorem zip_assign {env : Env} {x y : Str} {px py : Pos} (hxy : (x == y) = false) (kx : env.kindOf x = some .local) (ky : env.kindOf y = some .local) (hk : env.scope.kind = .function) {sl : List Slot} (fr : FR env [x, y] sl s.heap) (hl : sl.length = 2)
    {v1 v2 : Value} {a b : AV} {W1 W2 : Addr → Prop} {g1 g2 : Heap} (r1 : RepV W1 g1 a v1) (f1 : a.flat = true) (r2 : RepV W2 g2 b v2) (f2 : b.flat = true) (hM : env.locals ≠ mainGlobals) {Q : Unit → Shared → Prop}
    (hQ : ∀ s', Chg (· = env.locals) s s' → FR env [x, y] [.val a, .val b] s'.heap → Q () s') :
    wpAny G.M A (assignInOrder ((assignEach [.Name x px, .Name y py] env).map (·.2)) [v1, v2]) Q (fun zq zq => False) s := by
  have hkf : (env.scope.kind == .class || (env.scope.kind == .module && env.locals != env.globals)) = false := by rw [hk]; rfl
  have nd : ([x, y] : List Str).Nodup := by
    have : x ≠ y := by simpa using hxy
    simp [this]
  obtain ⟨m₃, ns₃⟩ := fr.ns
  show wpAny G.M A (do holding [v2] (PySem.assign (.Name x px) env v1); assignInOrder [PySem.assign (.Name y py) env] [v2]) _ _ _
  refine wpAny_bind (wpAny_holding (wpAny_assign_Name (wpAny_storeName_local kx ns₃ (fun h₄ ns₄ sb₄ => ?_) hkf)))
  have fr₄ := fr.store (i := 0) (a := a) nd rfl kx ns₃ ns₄ sb₄ (r1.flatAny f1) f1
  show wpAny G.M A (do holding [] (PySem.assign (.Name y py) env v2); assignInOrder [] []) _ _ _
  refine wpAny_bind (wpAny_holding (wpAny_assign_Name (wpAny_storeName_local ky ns₄ (fun h₅ ns₅ sb₅ => ?_) hkf)))
  have fr₅ := fr₄.store (i := 1) (a := b) nd rfl ky ns₄ ns₅ sb₅ (r2.flatAny f2) f2
  rw [two_set hl] at fr₅
  exact wpAny_pure (hQ _ ((chg_ns ns₃ ns₄ sb₄ hM).trans (chg_ns ns₄ ns₅ sb₅ hM)) fr₅)

inductive ZLI (X : Addr → Prop) (s₃ : Shared) (env : Env) (x y : Str) (D : Addr) (St : Nat → Heap → Prop) (fe : List Slot → Option AV) (n : Nat) (xs ys out : List AV) : Nat → Shared → Prop
  | mk (s' : Shared) (i : Nat) (done : List AV) (vs : List Value) (sl : List Slot) (rest : List AV) (cg : Chg X s₃ s') (hi : i ≤ n) (st : St i s'.heap) (pl : s'.heap.PlainList D (List.toArray vs)) (fr : FR env [x, y] sl s'.heap) (l2 : sl.length = 2)
      (rl : RepL NoW s'.heap done vs) (fl : done.all AV.flat = true) (hr : zipVL fe (xs.drop i) (ys.drop i) = some rest) (hro : done ++ rest = out) (hle : done.length ≤ i) : ZLI X s₃ env x y D St fe n xs ys out (n + 1 - i) s'

theorem zipVL_next {fe : List Slot → Option AV} {xs ys : List AV} {i : Nat} {rest : List AV} (hx : i < xs.length) (hy : i < ys.length) (h : zipVL fe (xs.drop i) (ys.drop i) = some rest) :
    xs[i].flat = true ∧ ys[i].flat = true ∧ ∃ r rest', fe [.val xs[i], .val ys[i]] = some r ∧ r.flat = true ∧ zipVL fe (xs.drop (i + 1)) (ys.drop (i + 1)) = some rest' ∧ rest = r :: rest' := by
  rw [List.drop_eq_getElem_cons hx, List.drop_eq_getElem_cons hy] at h
  unfold zipVL at h
  split at h
  · next c =>
    obtain ⟨r, h1, h2⟩ := Option.bind_eq_some_iff.mp h
    split at h2
    · next c2 =>
      obtain ⟨t, h3, h4⟩ := Option.map_eq_some_iff.mp h2
      exact ⟨c.1, c.2, r, t, h1, c2, h3, h4.symm⟩
    · cases h2
  · cases h
theorem zipVL_end {fe : List Slot → Option AV} {xs ys : List AV} (h : xs = [] ∨ ys = []) : zipVL fe xs ys = some [] := by
  rcases h with rfl | rfl
  · rfl
  · cases xs <;> rfl

theorem zip_turn {Z D : Addr} {fp wr : List Addr} {n : Nat} {St : Nat → Heap → Prop} {Mid : Nat → Addr → Heap → Prop} {us ws : List Value} {xs ys out : List AV} {X : Addr → Prop} {s₃ : Shared} {env : Env} {x y : Str} {px py tp : Pos} {tk : Nat}
    {elt : Expr} {fe : List Slot → Option AV} {scn : List (Str × NameKind)} {W1 W2 : Addr → Prop} {g1 g2 : Heap} {K : Shared → Prop}
    (ro : Room A k) (ef : EnvF env scn) (kx : env.kindOf x = some .local) (ky : env.kindOf y = some .local) (hxy : (x == y) = false) (ce : EvS G NoW k [x, y] scn elt fe)
    (Wk : WalksT G.prog G.w A Z fp wr n (ZP us ws) St Mid) (hws : ∀ i h, St i h → ZSt fp wr h) (hfp : ∀ b ∈ fp, b ≠ D ∧ b ≠ env.locals) (hDC : D ≠ env.locals)
    (r1 : RepL W1 g1 xs us) (r2 : RepL W2 g2 ys ws) (hX : ∀ b, (b ∈ wr ∨ b = D ∨ b = env.locals) → X b) (hM : ∀ b, X b → b ≠ mainGlobals) (baAt : ∀ s₉, Chg X s₃ s₉ → Base G NoW s₉)
    (hnx : n ≤ xs.length) (hny : n ≤ ys.length) (hn : n = xs.length ∨ n = ys.length) (hsz : n < 1000000)
    (hK : ∀ s' h₁ tk₁ vs, Chg X s₃ s' → (∀ b o, b ∉ wr → s'.heap.get? b = some o → h₁.get? b = some o) → (∀ H, TB H s'.heap → TB H h₁) → h₁.PlainList D (List.toArray vs) → (∃ m, h₁.Ns env.locals m) → RepL NoW h₁ out vs → out.all AV.flat = true → K { s' with heap := h₁, toks := tk₁ }) :
    ∀ n' s (J : Shared → Prop), (∀ m s', m < n' → ZLI X s₃ env x y D St fe n xs ys out m s' → J s') → ZLI X s₃ env x y D St fe n xs ys out n' s →
      wpAny G.M A (pyNext (.ref Z)) (PNx2 G.M A (.Tuple [.Name x px, .Name y py] tk tp) (.ref Z) env (PEl G.M A elt env (.ref D) J) K) (fun zq zq => False) s := by
  rintro _ s J hJ ⟨_, i, done, vs, sl, rest, cg, hi, st, pl, fr, l2, rl, hfl, hr, hro, hle⟩
  have hMw : mainGlobals ∉ wr := fun h => hM _ (hX _ (.inl h)) rfl
  have nC : env.locals ∉ wr := fun h => (hfp _ (Wk.sub _ h)).2 rfl
  have nD : D ∉ wr := fun h => (hfp _ (Wk.sub _ h)).1 rfl
  have hloc : ∀ (i : Nat) z, ([x, y] : List Str)[i]? = some z → env.kindOf z = some .local := fun i z hz => by
    rcases i with _ | _ | i
    · cases hz; exact kx
    · cases hz; exact ky
    · cases hz
  have hdone : done.length = vs.length := rl.length.symm
  by_cases hlt : i < n
  · have hix : i < xs.length := Nat.lt_of_lt_of_le hlt hnx
    have hiy : i < ys.length := Nat.lt_of_lt_of_le hlt hny
    obtain ⟨fx, fy, r, rest', hfe, hrf, hr', rfl⟩ := zipVL_next hix hiy hr
    refine zip_next Wk ro.handled hws hMw hlt st fun s₁ v1 v2 hv1 hv2 c₁ st₁ => ?_
    obtain ⟨u1, hu1, ru1⟩ := r1.get (List.getElem?_eq_getElem hix)
    obtain ⟨u2, hu2, ru2⟩ := r2.get (List.getElem?_eq_getElem hiy)
    obtain rfl := Option.some.inj (hv1.symm.trans hu1)
    obtain rfl := Option.some.inj (hv2.symm.trans hu2)
    have fr₁ : FR env [x, y] sl s₁.heap := fr.moveL hloc fun o e => c₁.kept _ _ nC e (by
      obtain ⟨m, o', es, ep, e', d, _⟩ := fr.ns
      rw [e'] at e; cases e
      exact solid_dict d)
    have pl₁ : s₁.heap.PlainList D (List.toArray vs) := let ⟨n, e⟩ := pl; ⟨n, c₁.kept _ _ nD e rfl⟩
    refine zip_assign hxy kx ky ef.kind fr₁ l2 ru1 fx ru2 fy (hM _ (hX _ (.inr (.inr rfl)))) fun s₂ c₂ fr₂ => ?_
    have pl₂ : s₂.heap.PlainList D (List.toArray vs) := let ⟨n, e⟩ := pl₁; ⟨n, c₂.kept _ _ hDC e rfl⟩
    have st₂ : St (i + 1) s₂.heap := Wk.frame _ _ _ st₁ fun b hb o e => c₂.kept b o (hfp b hb).2 e ((hws _ _ st₁).t b hb o e)
    have cgs : Chg X s₃ s₂ := (cg.trans (c₁.mono fun d h => .inl (hX d (.inl h)))).trans (c₂.mono fun d h => .inl (hX d (.inr (.inr h))))
    refine noE (ce A env _ _ ro ef fr₂.rs (baAt _ cgs) r hfe _ fun u s₆ x₆ r₆ => ?_)
    have pl₆ := PlainList.grow x₆.kept pl₂
    have st₆ : St (i + 1) s₆.heap := Wk.frame _ _ _ st₂ fun b hb o e => x₆.kept b o e ((hws _ _ st₂).t b hb o e)
    have fr₆ := fr₂.ext x₆
    show wpAny _ _ (call (.builtin "list.append") [.ref D, u]) _ _ _
    refine noE (wpAny_list_append_plain (hsz := by rw [List.size_toArray, ← hdone, sizeLine_eq]; lia) pl₆ fun h₇ pl₇ sb₇ => ?_)
    have c₇ : Chg (· = D) s₆ { s₆ with heap := h₇ } := chg_list (tk := s₆.toks) pl₆ pl₇ sb₇ (hM D (hX _ (.inr (.inl rfl))))
    refine hJ (n + 1 - (i + 1)) _ (by lia) (.mk _ (i + 1) (done ++ [r]) (vs ++ [u]) _ rest' ((cgs.trans (Ext.chg x₆)).trans (c₇.mono fun d h => .inl (hX d (.inr (.inl h))))) hlt ?_ (by simpa using pl₇)
      (fr₆.moveL hloc fun o e => sb₇.extBut _ _ (Ne.symm hDC) e) rfl ((RepL.flatAny hfl rl).append (RepL.one (r₆.flatAny hrf))) (by simp [hfl, hrf]) hr' (by rw [List.append_assoc]; exact hro) (by simp; lia))
    exact Wk.frame _ _ _ st₆ fun b hb o e => sb₇.extBut b o (hfp b hb).1 e
  · obtain rfl : i = n := Nat.le_antisymm hi (Nat.le_of_not_lt hlt)
    have hend : xs.drop i = [] ∨ ys.drop i = [] := hn.imp (fun h => List.drop_eq_nil_of_le (Nat.le_of_eq h.symm)) fun h => List.drop_eq_nil_of_le (Nat.le_of_eq h.symm)
    rw [zipVL_end hend] at hr
    cases hr
    rw [List.append_nil] at hro
    subst hro
    refine Wk.done _ _ _ st fun h₁ tk₁ kk₁ => ?_
    obtain ⟨m, o, es, ep, e, q⟩ := fr.ns
    exact hK s h₁ tk₁ vs cg kk₁ (fun H t => t.news (wr := (· ∈ wr)) kk₁ (hws _ _ st).w hMw) (let ⟨n, e⟩ := pl; ⟨n, kk₁ _ _ nD e⟩) ⟨m, o, es, ep, kk₁ _ _ nC e, q⟩ (RepL.flatAny hfl rl) hfl
theorem zip_ext {wr : List Addr} {X : Addr → Prop} {C : Addr} {s s₃ s' : Shared} {h₁ h' : Heap} {tk₁ : Nat} {m} (xs₃ : Ext s s₃) (gX : ∀ b, X b → s.heap.get? b = Option.none) (cg : Chg X s₃ s') (hw : ∀ b ∈ wr, X b) (hC : X C) (hM : C ≠ mainGlobals)
    (kk₁ : ∀ b o, b ∉ wr → s'.heap.get? b = some o → h₁.get? b = some o) (tb₁ : ∀ H, TB H s'.heap → TB H h₁) (ns : h₁.Ns C m) (sb : Heap.SameBut C h₁ h') : Ext s { s' with heap := h', toks := tk₁ } := by
  obtain ⟨oC, eC, cC⟩ := codey_ns ns
  obtain ⟨hA, tA, eA, _⟩ := id cg
  obtain ⟨hB, tB, eB, _⟩ := id xs₃
  refine ⟨h', tk₁, by rw [eA, eB], fun b o e hs => ?_, fun b e => ?_, fun H t => (tb₁ H (cg.tb (xs₃.tb t))).change (fun b o hb e => sb.extBut b o hb e) hM eC cC⟩
  · have nX : ¬ X b := fun h => by rw [gX b h] at e; cases e
    exact sb.extBut b o (fun q => nX (q ▸ hC)) (kk₁ b o (fun q => nX (hw b q)) (cg.kept b o nX (xs₃.kept b o e hs) hs))
  · by_cases hb : X b
    · exact gX b hb
    · refine xs₃.gone (cg.gone ?_)
      have e2 : h₁.get? b = Option.none := by rw [← sb.2 b (fun q => hb (q ▸ hC))]; exact e
      cases q : s'.heap.get? b with
      | none => rfl
      | some o => rw [kk₁ b o (fun m => hb (hw b m)) q] at e2; cases e2
theorem notab {h : Heap} {b : Addr} {o o' : Obj} (e : h.get? b = some o') (t : tabby o' = false) (e' : h.get? b = some o) : tabby o = false := by rw [e] at e'; cases e'; exact t
theorem zst {h : Heap} {Z TI TO I1 I2 l1 l2 : Addr} {xs ys : Array Value} {i : Nat} (st : IsZip h Z TI TO .none ∧ IsPair h TI (.ref I1) (.ref I2) ∧ (∃ a b, IsPair h TO a b) ∧ h.IsListIter I1 l1 i ∧ h.IsListIter I2 l2 i ∧ h.IsList l1 xs ∧ h.IsList l2 ys) :
    (∀ b ∈ [Z, TI, TO, I1, I2, l1, l2], b < h.objs.size) ∧ ZSt [Z, TI, TO, I1, I2, l1, l2] [Z, TO, I1, I2] h := by
  obtain ⟨s1, s2, ⟨_, _, s3⟩, ⟨o4, s4, c4, d4⟩, ⟨o5, s5, c5, d5⟩, ⟨o6, s6, c6, _⟩, ⟨o7, s7, c7, _⟩⟩ := st
  simp only [List.forall_mem_cons, List.not_mem_nil, false_implies, implies_true, and_true]
  refine ⟨⟨Heap.lt_size s1, Heap.lt_size s2, Heap.lt_size s3, Heap.lt_size s4, Heap.lt_size s5, Heap.lt_size s6, Heap.lt_size s7⟩, ?_, ?_⟩
  · simp only [List.forall_mem_cons, List.not_mem_nil, false_implies, implies_true, and_true]
    exact ⟨⟨_, s1, rfl⟩, ⟨_, s3, rfl⟩, ⟨o4, s4, by unfold codey; rw [d4, c4]; rfl⟩, ⟨o5, s5, by unfold codey; rw [d5, c5]; rfl⟩⟩
  · simp only [List.forall_mem_cons, List.not_mem_nil, false_implies, implies_true, and_true]
    exact ⟨fun zq => notab s1 rfl, fun zq => notab s2 rfl, fun zq => notab s3 rfl, fun zq => notab s4 (solid_cls c4), fun zq => notab s5 (solid_cls c5), fun zq => notab s6 (solid_cls c6), fun zq => notab s7 (solid_cls c7)⟩
theorem zip_open {p q : Pos} {e1 e2 : Expr} {f1 f2 : List Slot → Option AV} {env : Env} {sl : List Slot} {xs ys : List AV} (hg : sc.lookup ("zip" : Str) = some .globalImplicit) (hm : G.mg ("zip" : Str) = Option.none) (h1 : EvS G W k names sc e1 f1) (h2 : EvS G W k names sc e2 f2)
    (hn1 : notStar e1 = true) (hn2 : notStar e2 = true) (hn3 : ∀ env pos, ((backTo pos (starEach [e2] env)).any (·.1)) = false) (ro : Room A k) (ef : EnvF env sc) (rs : RS W env names sl s.heap) (ba : Base G W s) (q1 : f1 sl = some (.lst xs)) (q2 : f2 sl = some (.lst ys)) {Q : Value → Shared → Prop}
    (hQ : ∀ Z fp wr St Mid us ws s₂, ZOpen G A s s₂ Z fp wr (min xs.length ys.length) St Mid us ws xs ys → Q (.ref Z) s₂) :
    wpAny G.M A (eval (.Call (.Name ("zip" : Str) p) [e1, e2] [] q) env) (fun xv s₁ => wpAny G.M A (pyIter xv) Q (fun zq zq => False) s₁) (fun zq zq => False) s := by
  refine builtin_call (v := .type "zip") hg (by decide +kernel) (by decide +kernel) hm (by kernel_rfl) (.inr ⟨_, rfl⟩) (EvL.cons h1 (EvL.cons h2 EvL.nil hn2) hn1) hn1 hn3 ro ef rs ba (avs := [.lst xs, .lst ys]) (by simp [consV, q1, q2]) fun vs0 s₁ x₁ r₁ => ?_
  obtain ⟨v1, _, rfl, ⟨l1, us, rfl, _, hl1, rl1⟩, v2, _, rfl, ⟨l2, ws, rfl, _, hl2, rl2⟩, rfl⟩ := r₁
  refine call_zip_2 hl1.isList hl2.isList fun h₂ hz hTI hTO hi1 hi2 hsz hk₂ => ?_
  obtain ⟨n1, e1'⟩ := hl1
  obtain ⟨n2, e2'⟩ := hl2
  have ap := zipApart_new (n := s₁.heap.objs.size) (Heap.lt_size e1') (Heap.lt_size e2')
  have hmin : min us.toArray.size ws.toArray.size = min xs.length ys.length := by rw [← rl1.length, ← rl2.length]; rfl
  have Wk := WalksT.zip2 (prog := G.prog) (w := G.w) (A := A) ro.handled _ _ _ _ _ l1 l2 ap us.toArray ws.toArray
  have gN : ∀ d : Addr, s₁.heap.objs.size ≤ d → s.heap.get? d = Option.none := fun d hd => x₁.gone (by
    cases q : s₁.heap.get? d with
    | none => rfl
    | some o => exact absurd (Nat.lt_of_lt_of_le (Heap.lt_size q) hd) (Nat.lt_irrefl _))
  have e1'' := hk₂ _ _ e1'
  have e2'' := hk₂ _ _ e2'
  rw [hmin] at Wk
  generalize s₁.heap.objs.size = N at *
  as_aux_lemma =>
  have st0 := And.intro hz (And.intro hTI (And.intro (⟨_, _, hTO⟩ : ∃ a b, IsPair h₂ (N + 3) a b) (And.intro hi1 (And.intro hi2 (And.intro (⟨_, e1'', rfl, _, rfl⟩ : h₂.IsList l1 us.toArray) (⟨_, e2'', rfl, _, rfl⟩ : h₂.IsList l2 ws.toArray))))))
  refine Wk.self 0 _ _ _ st0 (hQ _ _ _ _ _ us ws _ ⟨x₁.trans (Ext.of hk₂), Wk, st0, (zst st0).1, ?_, fun i h st => (zst st).2, ⟨_, _, rl1⟩, ⟨_, _, rl2⟩⟩)
  simp only [List.forall_mem_cons, List.not_mem_nil, false_implies, implies_true, and_true]
  exact ⟨gN _ (Nat.le_add_right _ _), gN _ (Nat.le_add_right _ _), gN _ (Nat.le_refl _), gN _ (Nat.le_add_right _ _)⟩
theorem EvB.zip {x y : Str} {px py tp p q pos : Pos} {tk : Nat} {e1 e2 elt : Expr} {scope : Scope} {f1 f2 fe : List Slot → Option AV} (hloc : scope.names.all (fun z => z.2 == .local && scope.names.lookup z.1 == some .local) = true) (hlx : scope.names.lookup x = some .local) (hly : scope.names.lookup y = some .local) (hxy : (x == y) = false) (hsk : scope.kind = .function)
    (hg : sc.lookup ("zip" : Str) = some .globalImplicit) (hm : G.mg ("zip" : Str) = Option.none) (h1 : EvS G W k names sc e1 f1) (h2 : EvS G W k names sc e2 f2) (hn1 : notStar e1 = true) (hn2 : notStar e2 = true) (hn3 : ∀ env pos, ((backTo pos (starEach [e2] env)).any (·.1)) = false)
    (ce : EvS G NoW k [x, y] scope.names elt fe) (hs : ∀ env v, foldedSetIterable (.Call (.Name ("zip" : Str) p) [e1, e2] [] q) env v = pure v) :
    EvB true G W k names sc (.ListComp elt [⟨.Tuple [.Name x px, .Name y py] tk tp, .Call (.Name ("zip" : Str) p) [e1, e2] [] q, [], 0⟩] scope pos) (fun sl => (f1 sl).bind fun a => (f2 sl).bind fun b => zipV fe a b) := by
  intro A env s sl ro ef rs ba av hf Q hQ
  obtain ⟨a, q1, hf⟩ := Option.bind_eq_some_iff.mp hf
  obtain ⟨b, q2, hf⟩ := Option.bind_eq_some_iff.mp hf
  obtain ⟨xs, ys, out, rfl, rfl, hlen, hout, rfl⟩ := zipV_some hf
  have hl1' : ∀ z ∈ scope.names, z.2 = .local := fun z hz => by have := List.all_eq_true.mp hloc z hz; simp only [Bool.and_eq_true, beq_iff_eq] at this; exact this.1
  have hl2' : ∀ z ∈ scope.names, scope.names.lookup z.1 = some .local := fun z hz => by have := List.all_eq_true.mp hloc z hz; simp only [Bool.and_eq_true, beq_iff_eq] at this; exact this.2
  obtain ⟨cl, hclos, -, -⟩ := closure_is (scope := scope) (env := env) (fun z hz hk => by rw [hl1' z hz] at hk; cases hk)
  rw [eval_ListComp]
  refine wpAny_comprehension_free (use := none) rfl (hs env) hclos hsk (fun z hz hk => hl2' z hz) ?_
  refine zip_open hg hm h1 h2 hn1 hn2 hn3 ro ef rs ba q1 q2 fun Z fp wr St Mid us ws s₂ zo => ?_
  refine wpAny_newObj_type (newEnv_comp ?_)
  dsimp only
  have hkindOf : ∀ C z, (compEnvC scope cl C env).kindOf z = scope.names.lookup z := fun C z => by
    show (relabel scope env).names.lookup z = _
    rw [relabel_names ef, relab_loc hl1']
  have ef' : ∀ C, EnvF (compEnvC scope cl C env) scope.names := fun C => ⟨hsk, ef.globals, ef.builtins, by rw [show (compEnvC scope cl C env).scope.names = _ from relabel_names ef, relab_loc hl1'], fun z kd hz hkd => by
    have hm : kd = .local := hl1' _ (mem_of_lookup hz)
    subst hm
    rcases hkd with h | h <;> cases h⟩
  generalize hH2 : s₂.heap.push { cls := .type "list", dict := Option.none, data := .seq ([] : List Value).toArray } = H2
  have hC : H2.objs.size = s₂.heap.objs.size + 1 := by rw [← hH2, Heap.size_push]
  generalize hH3 : H2.push { cls := .type "dict", data := .dict #[] } = H3
  have k23 : FKept s₂.heap H3 := fun b o e => by rw [← hH3]; exact Heap.get?_push_of_some _ (by rw [← hH2]; exact Heap.get?_push_of_some _ e)
  have k24 : FKept s₂.heap (pushCells H3 scope.names) := fun b o e => pushCells_keeps _ _ _ _ (k23 b o e)
  have hD4 : (pushCells H3 scope.names).PlainList s₂.heap.objs.size (List.toArray []) := ⟨_, pushCells_keeps _ _ _ _ (by rw [← hH3]; exact Heap.get?_push_of_some _ (by rw [← hH2]; exact Heap.get?_push_size _ rfl))⟩
  have hC4 : (pushCells H3 scope.names).Ns H2.objs.size (fun zq => Option.none) := by
    have := (Heap.Ns.new H2 (.type "dict"))
    rw [hH3] at this
    exact this.keeps (pushCells_keeps _ _)
  have hcells : cellsFrom (H2.objs.size + 1) scope.names [] = [] := cells_none hl1'
  rw [hcells, List.nil_append]
  have gNew : ∀ d : Addr, s₂.heap.objs.size ≤ d → s.heap.get? d = Option.none := fun d hd => zo.x.gone (by
    cases q : s₂.heap.get? d with
    | none => rfl
    | some o => exact absurd (Nat.lt_of_lt_of_le (Heap.lt_size q) hd) (Nat.lt_irrefl _))
  have gD : s.heap.get? s₂.heap.objs.size = Option.none := gNew _ (Nat.le_refl _)
  have gC : s.heap.get? H2.objs.size = Option.none := gNew _ (by rw [hC]; exact Nat.le_succ _)
  have hDC : s₂.heap.objs.size ≠ H2.objs.size := by rw [hC]; exact Nat.ne_of_lt (Nat.lt_succ_self _)
  have hfp : ∀ b ∈ fp, b ≠ s₂.heap.objs.size ∧ b ≠ H2.objs.size := fun b hb => ⟨Nat.ne_of_lt (zo.fpl b hb), by rw [hC]; exact Nat.ne_of_lt (Nat.lt_succ_of_lt (zo.fpl b hb))⟩
  suffices loop : ∀ s₃ : Shared, (∃ tk, s₃ = { s₂ with heap := pushCells H3 scope.names, toks := tk }) →
      codeAny G.M A (.compLoop (.ListComp elt [⟨.Tuple [.Name x px, .Name y py] tk tp, .Call (.Name ("zip" : Str) p) [e1, e2] [] q, [], 0⟩] scope pos) 0 (.ref Z) (.ref s₂.heap.objs.size) (compEnvC scope cl H2.objs.size env)) (compPost G.M A (fun zq zq => False) Option.none Q (.ref s₂.heap.objs.size) H2.objs.size) s₃ from
    codeAny_compStart_list (loop _ ⟨s₂.toks, rfl⟩) (zo.wk.self 0 _ _ _ (zo.wk.frame 0 _ _ zo.st fun b zq o e => k24 b o e) (loop _ ⟨s₂.toks, rfl⟩))
  have hkindOf := hkindOf H2.objs.size
  have ef' := ef' H2.objs.size
  have hlC : (compEnvC scope cl H2.objs.size env).locals = H2.objs.size := rfl
  clear hC hcells k23 hH2 hH3
  generalize compEnvC scope cl H2.objs.size env = env' at *
  generalize pushCells H3 scope.names = H4 at *
  generalize s₂.heap.objs.size = D at *
  generalize H2.objs.size = C at *
  subst hlC
  as_aux_lemma =>
  rintro s₃ ⟨tk0, hs₃⟩
  have hh₃ : s₃.heap = H4 := by rw [hs₃]
  have x₃ : Ext s₂ s₃ := by rw [hs₃]; exact Ext.of k24
  have xs₃ := zo.x.trans x₃
  obtain ⟨_, _, rl1⟩ := zo.r1
  obtain ⟨_, _, rl2⟩ := zo.r2
  have hM : ∀ d, s.heap.get? d = Option.none → d ≠ mainGlobals := fun d h e => by
    obtain ⟨mg, o, _, _, e', _⟩ := ba.tb.main
    rw [e, e'] at h; cases h
  obtain ⟨X, hX⟩ : ∃ X : Addr → Prop, X = fun b => b ∈ wr ∨ b = D ∨ b = env'.locals := ⟨_, rfl⟩
  have hX1 : ∀ b, (b ∈ wr ∨ b = D ∨ b = env'.locals) → X b := fun b h => by rw [hX]; exact h
  have gX : ∀ b, X b → s.heap.get? b = Option.none := fun b h => by
    rw [hX] at h
    rcases h with h | rfl | rfl
    · exact zo.wrn b h
    · exact gD
    · exact gC
  clear hX
  refine loop_pair (ZLI X s₃ env' x y D St fe (min xs.length ys.length) xs ys out)
    (zip_turn ro ef' ((hkindOf x).trans hlx) ((hkindOf y).trans hly) hxy ce zo.wk zo.hws hfp hDC rl1 rl2 hX1 (fun b h => hM b (gX b h)) (fun s₉ c => ((ba.noW).ext xs₃).chg c fun d h => ba.gone d (gX d h)) (Nat.min_le_left ..) (Nat.min_le_right ..) (by lia) (by lia) ?_)
    (min xs.length ys.length + 1)
    (.mk s₃ 0 [] [] [.unset, .unset] out (.refl _) (Nat.zero_le _) (zo.wk.frame 0 _ _ zo.st fun b zq o e => by rw [hh₃]; exact k24 b o e) (by rw [hh₃]; exact hD4) ⟨⟨_, by rw [hh₃]; exact hC4⟩, fun i z sv hz hsv hne => ?_, fun i sv hsv => ?_⟩ rfl rfl rfl hout rfl (Nat.le_refl _))
  · intro s' h₁ tk₁ vs cg kk₁ tb₁ pl ns rl hfl
    obtain ⟨m, nsC⟩ := ns
    refine ⟨m, nsC, fun h' sb => hQ _ { s' with heap := h', toks := tk₁ } (zip_ext (s' := s') xs₃ gX cg (fun b h => hX1 b (.inl h)) (hX1 _ (.inr (.inr rfl))) (hM _ gC) kk₁ tb₁ nsC sb) ⟨D, vs, rfl, ba.new gD, let ⟨n, e⟩ := pl; ⟨n, sb.extBut _ _ hDC e⟩, RepL.flatAny hfl rl⟩ fun zq => ⟨D, rfl, gD⟩⟩
  · rcases i with _ | _ | i
    · cases hsv; exact absurd rfl hne
    · cases hsv; exact absurd rfl hne
    · cases hsv
  · rcases i with _ | _ | i
    · cases hsv; exact .inl rfl
    · cases hsv; exact .inl rfl
    · cases hsv
end
end Mine
end

section
open PySem PySem.W PyProof.Rows
set_option Elab.async false
set_option tactic.hygienic false
set_option maxRecDepth 100000
set_option autoImplicit false
set_option linter.unusedVariables false


namespace Mine
noncomputable abbrev SF := List Slot → Option (Fl × List Slot)
noncomputable def recAt (g : Str) : DefRec := ((recsOf q1).find? (fun d => d.name == g)).getD ⟨g, { posonlyargs := [], args := [], vararg := none, kwonlyargs := [], kw_defaults := [], kwarg := none, defaults := [] }, [], P1.main.scope, ⟨0, 0, 0, 0⟩⟩
noncomputable def dSub : DefRec := recAt "_substitution_cost"
noncomputable def nSub : List Str := ["ch_a", "ch_b"]

structure Ok1 (G : Gl) : Prop where
  q : G.q = q1
  loose : G.loose = [("b3_exceptions" : Str)]
  dd : G.dd = data1
theorem Ok1.at {G : Gl} (o : Ok1 G) (h : Heap) (hk : Kept G.h₀ h) : Ok1 (G.at h hk) := ⟨o.q, o.loose, o.dd⟩
noncomputable def pk {k : Nat} {names : List Str} {sc : List (Str × NameKind)} {st : List Stmt} {f : SF} (h : ∀ G, Ok1 G → SsS G k names sc st f) : {f : SF // ∀ G, Ok1 G → SsS G k names sc st f} := ⟨f, h⟩
theorem Ok1.noName {G : Gl} (o : Ok1 G) (x : Str) (h : (!(startupNames.contains x) && !(["b3_exceptions"] : List Str).contains x && !((recsOf q1).map (·.name)).contains x && !((litsOf q1).map (·.1)).contains x && !((clssOf q1 [("b3_exceptions" : Str)]).map (·.name)).contains x) = true) : G.mg x = none := by
  simp only [Bool.and_eq_true, Bool.not_eq_true', List.contains_eq_mem, decide_eq_false_iff_not] at h
  refine G.top.free x h.1.1.1.1 ?_ ?_ ?_ ?_
  · rw [o.loose]; exact h.1.1.1.2
  · rw [o.q]; exact h.1.1.2
  · rw [o.q]; exact h.1.2
  · rw [o.q, o.loose]; exact h.2
theorem Ok1.contract {lvl : Nat} {d : DefRec} {ps names : List Str} {g : Str} (D : DefOk d ps names) (hm : d ∈ recsOf q1) (hg : d.name = g) (b : {f : SF // ∀ G, Ok1 G → SsS G lvl names d.scope.names d.body f}) {fn : List AV → Option AV}
    (he : ∀ avs r, fn avs = some r → callV b.1 names.length ps.length avs = some r) (G : Gl) (o : Ok1 G) : Fn G g (lvl + 1) fn := by
  have F := Fn.of (G := G) (by rw [o.q]; exact hm) D (fun h hk => b.2 (G.at h hk) (o.at h hk))
  rw [hg] at F
  exact ⟨F.place, fun a hm A s vs avs r ro kk H tb rl hf Q hQ => F.runs a hm A s vs avs r ro kk H tb rl (he avs r hf) Q hQ⟩

set_option maxHeartbeats 2000000 in
noncomputable def sub_ : {f : SF // ∀ G, Ok1 G → SsS G 0 nSub dSub.scope.names dSub.body f} :=
    pk fun G o => (SsS.cons (StS.ite (fun W => TsS.cmp (EvS.var (i := 0) (by rfl) (by decide +kernel) (by decide +kernel)) (EvS.var (i := 1) (by rfl) (by decide +kernel) (by decide +kernel)) (by rfl))
       (SsS.cons (StS.ret fun W => EvS.int) SsS.nil) SsS.nil)
     (SsS.cons (StS.ite (fun W => TsS.cmp (EvS.lower (EvS.var (i := 0) (by rfl) (by decide +kernel) (by decide +kernel)) (fun zq => by rfl) (by decide +kernel)) (EvS.lower (EvS.var (i := 1) (by rfl) (by decide +kernel) (by decide +kernel)) (fun zq => by rfl) (by decide +kernel)) (by rfl))
      (SsS.cons (StS.ret fun W => EvS.gint (i := 1) (by decide +kernel) (by rw [o.q]; kernel_rfl) (by decide +kernel)) SsS.nil) SsS.nil)
     (SsS.cons (StS.ret fun W => EvS.gint (i := 2) (by decide +kernel) (by rw [o.q]; kernel_rfl) (by decide +kernel)) SsS.nil)))
theorem sub_ok : DefOk dSub nSub nSub where
  bind := fun pm code doc vals h => by
    obtain ⟨a, b, rfl⟩ := vlen2 h
    kernel_rfl
  pre := rfl
  nodup := by decide +kernel
  kinds := by decide +kernel
  free := by decide +kernel
  co := by kernel_rfl
  gen := by kernel_rfl
  fn := by kernel_rfl
theorem rec_mem (g : Str) (h : ((recsOf q1).find? (fun d => d.name == g)).isSome = true) : recAt g ∈ recsOf q1 ∧ (recAt g).name = g := by
  unfold recAt
  cases e : (recsOf q1).find? (fun d => d.name == g) with
  | none => rw [e] at h; cases h
  | some d => exact ⟨List.mem_of_find?_eq_some e, by have := List.find?_some e; simpa using this⟩
noncomputable def subV : List AV → Option AV
  | [.str a, .str b] => if a.length < 100000 ∧ b.length < 100000 then some (.int (if a = b then 0 else if Txt.lower a = Txt.lower b then 1 else 2)) else none
  | _ => none
theorem read_val (x : AV) : (Slot.val x).read = some x := rfl
theorem eq_strs (a b : Str) : cmpV .Eq (.str a) (.str b) = some (a == b) := rfl
theorem truth_bool (b : Bool) : truth (.bool b) = some b := rfl
theorem flat_int (i : Int) : flatV (.int i) = some (.int i) := rfl
theorem lower_str (x : Str) (h : x.length < 100000) : lowerV (.str x) = some (.str (Txt.lower x)) := by show (if x.length < 100000 then some (AV.str (Txt.lower x)) else Option.none) = _; rw [if_pos h]
set_option tactic.hygienic true in
theorem sub_eq (avs : List AV) (r : AV) (h : subV avs = some r) : callV sub_.1 nSub.length nSub.length avs = some r := by
  unfold subV at h
  split at h
  · next a b =>
    split at h
    · next hc =>
      cases h
      have la := lower_str a hc.1
      have lb := lower_str b hc.2
      have e0 : callV sub_.1 nSub.length nSub.length [.str a, .str b] = (sub_.1 [.val (.str a), .val (.str b)]).bind fun r => match r.1 with
        | .ret a => if a.firm = true then some a else none
        | .next => some .none
        | _ => none := by unfold callV; rw [if_pos (by simp [nSub, firmL, AV.firm])]; rfl
      rw [e0]
      simp only [sub_, pk, seqF, ifF, retF, read_val, eq_strs, truth_bool, flat_int, la, lb, Option.bind_some, Option.map_some, List.getElem?_cons_zero, List.getElem?_cons_succ]
      by_cases e : a = b
      · subst e; simp [AV.firm]
      · by_cases e' : Txt.lower a = Txt.lower b
        · simp [e, e', AV.firm, read_val, eq_strs, truth_bool, flat_int, la, lb]
        · simp [e, e', AV.firm, read_val, eq_strs, truth_bool, flat_int, la, lb]
    · cases h
  · cases h
theorem sub_fn (G : Gl) (o : Ok1 G) : Fn G "_substitution_cost" 1 subV :=
  Ok1.contract sub_ok (rec_mem "_substitution_cost" (by kernel_rfl)).1 (rec_mem "_substitution_cost" (by kernel_rfl)).2 sub_ sub_eq G o
end Mine
end

section
open PySem PySem.W PyProof.Rows
set_option Elab.async false
set_option tactic.hygienic false
set_option maxRecDepth 100000
set_option autoImplicit false
set_option linter.unusedVariables false
set_option linter.unusedSimpArgs false


namespace Mine
section
variable {G : Gl} {W : Addr → Prop} {k : Nat} {names : List Str} {sc : List (Str × NameKind)}
theorem EvS.b3 {dd : List (Int × Str)} (hdd : G.dd = dd) {e : Expr} {p apos q : Pos} {f : List Slot → Option AV} (hg : sc.lookup ("b3_exceptions" : Str) = some .globalImplicit) (he : EvS G W k names sc e f) (hn : notStar e = true) (hl : (apos.endLine == q.line) = true) :
    EvS G W k names sc (.Call (.Attribute (.Name ("b3_exceptions" : Str) p) ("get" : Str) apos) [e] [] q) (fun sl => (f sl).bind (getV dd)) := by
  subst hdd; exact EvS.b3get hg he hn hl
end
noncomputable def dMap : DefRec := recAt "map_table_b3"
noncomputable def nMap : List Str := ["code", "r"]
set_option maxHeartbeats 2000000 in
noncomputable def map_ : {f : SF // ∀ G, Ok1 G → SsS G 0 nMap dMap.scope.names dMap.body f} :=
    pk fun G o => SsS.cons (StS.assign (i := 1) (by rfl) (fun W => EvS.b3 o.dd (by decide +kernel) (EvS.ord (by decide +kernel) (o.noName _ (by kernel_rfl)) (EvL.cons (EvS.var (i := 0) (by rfl) (by decide +kernel) (by decide +kernel)) EvL.nil (by rfl)) (by rfl)) (by rfl) (by decide +kernel)) (fun zq => by rfl))
     (SsS.cons (StS.ite (fun W => TsS.cmp (EvS.var (i := 1) (by rfl) (by decide +kernel) (by decide +kernel)) EvS.none (by rfl)) (SsS.cons (StS.ret fun W => EvS.var (i := 1) (by rfl) (by decide +kernel) (by decide +kernel)) SsS.nil) SsS.nil)
     (SsS.cons (StS.ret fun W => EvS.lower (EvS.var (i := 0) (by rfl) (by decide +kernel) (by decide +kernel)) (fun zq => by rfl) (by decide +kernel)) SsS.nil))
theorem map_ok : DefOk dMap ["code"] nMap where
  bind := fun pm code doc vals h => by
    obtain ⟨a, rfl⟩ := vlen1 h
    kernel_rfl
  pre := rfl
  nodup := by decide +kernel
  kinds := by decide +kernel
  free := by decide +kernel
  co := by kernel_rfl
  gen := by kernel_rfl
  fn := by kernel_rfl
noncomputable def b3 (c : Nat) : Str := match data1.lookup (c : Int) with
  | some v => v
  | none => Txt.lower ⟨#[c]⟩
noncomputable def b3V : List AV → Option AV
  | [.str ⟨⟨[c]⟩⟩] => some (.str (b3 c))
  | _ => none
theorem ord_one (c : Nat) : ordV [.str ⟨⟨[c]⟩⟩] = some (.int c) := rfl
theorem get_int (dd : List (Int × Str)) (i : Int) : getV dd (.int i) = some (match dd.lookup i with | some v => .str v | none => .none) := rfl
theorem isnot_none : cmpV .IsNot .none .none = some false := rfl
theorem isnot_str (s : Str) : cmpV .IsNot (.str s) .none = some true := rfl
theorem flat_str (s : Str) : flatV (.str s) = some (.str s) := rfl
theorem putS_two (a b : Slot) (sv : Slot) : putS [a, b] 1 sv = some [a, sv] := rfl
set_option tactic.hygienic true in
theorem map_eq (avs : List AV) (r : AV) (h : b3V avs = some r) : callV map_.1 nMap.length 1 avs = some r := by
  unfold b3V at h
  split at h
  · next c =>
    cases h
    have e0 : callV map_.1 nMap.length 1 [.str ⟨⟨[c]⟩⟩] = (map_.1 [.val (.str ⟨⟨[c]⟩⟩), .unset]).bind fun r => match r.1 with
      | .ret a => if a.firm = true then some a else none
      | .next => some .none
      | _ => none := by unfold callV; rw [if_pos (by simp [firmL, AV.firm])]; rfl
    have lo := lower_str ⟨⟨[c]⟩⟩ (by show 1 < 100000; decide)
    rw [e0]
    simp only [map_, pk, seqF, ifF, retF, setF, consV, read_val, Option.bind_some, Option.map_some, List.getElem?_cons_zero, List.getElem?_cons_succ, ord_one, get_int]
    unfold b3
    cases hd : data1.lookup (c : Int) with
    | none => simp [AV.firm, putS_two, read_val, isnot_none, truth_bool, lo, flat_str]
    | some v => simp [AV.firm, putS_two, read_val, isnot_str, truth_bool, flat_str]
  · cases h
theorem map_fn (G : Gl) (o : Ok1 G) : Fn G "map_table_b3" 1 b3V :=
  Ok1.contract map_ok (rec_mem "map_table_b3" (by kernel_rfl)).1 (rec_mem "map_table_b3" (by kernel_rfl)).2 map_ map_eq G o
end Mine
end

section
open PySem PySem.W PyProof.Rows
set_option Elab.async false
set_option tactic.hygienic false
set_option maxRecDepth 100000
set_option autoImplicit false
set_option linter.unusedVariables false
set_option linter.unusedSimpArgs false


namespace Mine
theorem no_inter {env : Env} {sc : List (Str × NameKind)} (ef : EnvF env sc) : interactive env = false := by
  unfold interactive; rw [ef.kind]; rfl
noncomputable def dFig : DefRec := recAt "_law_figures"
noncomputable def nFig : List Str := ["number", "size", "row", "place"]
set_option maxHeartbeats 2000000 in
noncomputable def fig_ : {f : SF // ∀ G, Ok1 G → SsS G 0 nFig dFig.scope.names dFig.body f} :=
    pk fun G o => SsS.cons (StS.assignNew (md := 1) (i := 2) (by decide) (by rfl) (fun W => EvB.list EvL.nil) (fun zq => by rfl))
     (SsS.cons (StS.for (i := 3) (by rfl) (fun W => EvI.range (by decide +kernel) (o.noName _ (by kernel_rfl)) (EvL.cons (EvS.var (i := 1) (by rfl) (by decide +kernel) (by decide +kernel)) EvL.nil (by rfl)) (by rfl) (fun zq zq => by rfl))
        (SsS.cons (StS.append (i := 2) (by rfl) (by decide +kernel) (fun W => EvS.bin (EvS.var (i := 0) (by rfl) (by decide +kernel) (by decide +kernel)) EvS.int) (by rfl) (by decide +kernel) (fun env ef => no_inter ef))
         (SsS.cons (StS.assign (i := 0) (by rfl) (fun W => EvS.bin (EvS.var (i := 0) (by rfl) (by decide +kernel) (by decide +kernel)) EvS.int) (fun zq => by rfl)) SsS.nil)) (fun zq zq => by rfl))
     (SsS.cons (StS.retOwn (i := 2) (by rfl) (by decide +kernel)) SsS.nil))
theorem fig_ok : DefOk dFig ["number", "size"] nFig where
  bind := fun pm code doc vals h => by
    obtain ⟨a, b, rfl⟩ := vlen2 h
    kernel_rfl
  pre := rfl
  nodup := by decide +kernel
  kinds := by decide +kernel
  free := by decide +kernel
  co := by kernel_rfl
  gen := by kernel_rfl
  fn := by kernel_rfl
noncomputable def figs : Nat → Int → List Int
  | 0, _ => []
  | n + 1, x => x.fmod 3 :: figs n (x.fdiv 3)
noncomputable def figV : List AV → Option AV
  | [.int x, .int n] => if 0 ≤ n ∧ n < 1000 then some (.lst ((figs n.toNat x).map .int)) else none
  | _ => none
theorem seqF_next {f g : SF} {sl sl' : List Slot} (h : f sl = some (.next, sl')) : seqF f g sl = g sl' := by unfold seqF; rw [h]; rfl
theorem seqF_ret {f g : SF} {sl sl' : List Slot} {a : AV} (h : f sl = some (.ret a, sl')) : seqF f g sl = some (.ret a, sl') := by unfold seqF; rw [h]; rfl
theorem call_ret {f : SF} {n np : Nat} {avs : List AV} {a : AV} {sl' : List Slot} (h1 : avs.length = np) (h2 : firmL avs = true) (h : f (avs.map .val ++ List.replicate (n - np) .unset) = some (.ret a, sl')) (ha : a.firm = true) : callV f n np avs = some a := by
  unfold callV; rw [if_pos ⟨h1, h2⟩, h]; show (if a.firm = true then _ else _) = _; rw [if_pos ha]
theorem for_fig (B : SF) (hB : ∀ (x n : Int) (ys : List AV) (p : AV), ys.length < 5000 → B [.val (.int x), .val (.int n), .mls ys, .val p] = some (.next, [.val (.int (x.fdiv 3)), .val (.int n), .mls (ys ++ [.int (x.fmod 3)]), .val p])) :
    ∀ (l : List Int) (x n : Int) (ys : List AV) (sv : Slot), ys.length + l.length < 5000 → ∃ x' sv', forF 3 B (l.map .int) [.val (.int x), .val (.int n), .mls ys, sv] = some (.next, [.val (.int x'), .val (.int n), .mls (ys ++ (figs l.length x).map .int), sv'])
  | [], x, n, ys, sv, _ => ⟨x, sv, by simp [forF, figs]⟩
  | i :: l, x, n, ys, sv, h => by
    simp only [List.length_cons] at h
    obtain ⟨x', sv', e⟩ := for_fig B hB l (x.fdiv 3) n (ys ++ [.int (x.fmod 3)]) (.val (.int i)) (by simp; lia)
    refine ⟨x', sv', ?_⟩
    rw [List.map_cons]
    unfold forF
    rw [if_pos (by rfl)]
    have e1 : putS [.val (.int x), .val (.int n), .mls ys, sv] 3 (.val (.int i)) = some [.val (.int x), .val (.int n), .mls ys, .val (.int i)] := rfl
    rw [e1, Option.bind_some, hB x n ys (.int i) (by lia), Option.bind_some]
    dsimp only
    rw [e]
    simp [figs]
theorem flat_ints (l : List Int) : (l.map AV.int).all AV.flat = true := by
  induction l with
  | nil => rfl
  | cons a l ih => simp [AV.flat]
theorem firm_ints (l : List Int) : firmL (l.map AV.int) = true := by
  induction l with
  | nil => rfl
  | cons a l ih => simp [firmL, AV.firm, ih]
set_option tactic.hygienic true in
theorem fig_eq (avs : List AV) (r : AV) (h : figV avs = some r) : callV fig_.1 nFig.length 2 avs = some r := by
  unfold figV at h
  split at h
  · next x n =>
    split at h
    · next hc =>
      cases h
      have e1 : rangeV [.int n] = some ((List.range n.toNat).map fun i => .int ((0 : Int) + (i : Nat))) := by
        unfold rangeV
        show (if -1000000 < n ∧ n < 1000000 then some (countUp 0 n) else none) = _
        rw [if_pos (by lia)]
        simp [countUp]
      have e2 : ((List.range n.toNat).map fun i => AV.int ((0 : Int) + (i : Nat))) = ((List.range n.toNat).map fun i => ((0 : Int) + (i : Nat))).map .int := by rw [List.map_map]; rfl
      obtain ⟨x', sv', e3⟩ := for_fig (seqF (appendF 2 fun sl => (sl[0]?.bind Slot.read).bind fun a => (some (AV.int 3)).bind fun b => binV Operator.Mod a b) (seqF (setF 0 fun sl => (sl[0]?.bind Slot.read).bind fun a => (some (AV.int 3)).bind fun b => binV Operator.FloorDiv a b) fun sl => some (Fl.next, sl)))
        (fun x n ys p hl => by
          have h3 : small 3 = true := by decide +kernel
          have m : binV Operator.Mod (.int x) (.int 3) = some (.int (x.fmod 3)) := rfl
          have d : binV Operator.FloorDiv (.int x) (.int 3) = some (.int (x.fdiv 3)) := by
            show ((if (3 : Int) ≠ 0 ∧ small 3 = true then some (x.fdiv 3) else none).map AV.int) = _
            rw [if_pos ⟨by decide, h3⟩]; rfl
          simp only [seqF, appendF, setF, List.getElem?_cons_zero, List.getElem?_cons_succ, Option.bind_some, read_val, m, mls?]
          rw [if_pos ⟨rfl, by lia⟩]
          simp only [Option.bind_some, List.set_cons_zero, List.set_cons_succ, List.getElem?_cons_zero, read_val, d]
          rfl)
        ((List.range n.toNat).map fun i => ((0 : Int) + (i : Nat))) x n [] .unset (by simp; lia)
      have e4 : (newF 1 2 fun sl => ((some []).bind fun xs => if xs.length < 1000000 then some (AV.lst xs) else Option.none).bind numsOnly) [.val (.int x), .val (.int n), .unset, .unset] = some (.next, [.val (.int x), .val (.int n), .mls [], .unset]) := rfl
      refine call_ret (sl' := [.val (.int x'), .val (.int n), .mls ((figs n.toNat x).map .int), sv']) rfl (by simp [firmL, AV.firm]) ?_ (firm_ints _)
      show fig_.1 [.val (.int x), .val (.int n), .unset, .unset] = _
      simp only [fig_, pk]
      refine (seqF_next e4).trans ?_
      refine (seqF_next (sl' := [.val (.int x'), .val (.int n), .mls ((figs n.toNat x).map .int), sv']) ?_).trans ?_
      · show (rangeV [.int n]).bind _ = _
        rw [e1, Option.bind_some, e2]
        rw [List.nil_append, List.length_map, List.length_range] at e3
        exact e3
      · refine seqF_ret ?_
        show (if ((figs n.toNat x).map AV.int).all AV.flat = true then _ else _) = _
        rw [if_pos (flat_ints _)]
    · cases h
  · cases h
theorem fig_fn (G : Gl) (o : Ok1 G) : Fn G "_law_figures" 1 figV :=
  Ok1.contract fig_ok (rec_mem "_law_figures" (by kernel_rfl)).1 (rec_mem "_law_figures" (by kernel_rfl)).2 fig_ fig_eq G o
end Mine
end

section
open PySem PySem.W PyProof.Rows
set_option Elab.async false
set_option tactic.hygienic false
set_option maxRecDepth 100000
set_option autoImplicit false
set_option linter.unusedVariables false
set_option linter.unusedSimpArgs false


namespace Mine
noncomputable def dTxt : DefRec := recAt "_law_text"
noncomputable def nTxt : List Str := ["word", "forms"]
set_option maxHeartbeats 2000000 in
noncomputable def txt_ : {f : SF // ∀ G, Ok1 G → SsS G 0 nTxt dTxt.scope.names dTxt.body f} :=
    pk fun G o => SsS.cons (StS.assign (i := 1) (by rfl) (fun W => EvS.list (EvL.cons EvS.str (EvL.cons EvS.str (EvL.cons EvS.str (EvL.cons EvS.str EvL.nil (by rfl)) (by rfl)) (by rfl)) (by rfl))) (fun zq => by rfl))
     (SsS.cons (StS.ret fun W => EvS.join EvS.str (EvB.plain (EvB.comp (fr := false) [0, 1] (by decide +kernel) (by rfl)
        (EvI.range (by decide +kernel) (o.noName _ (by kernel_rfl)) (EvL.cons (EvS.len (by decide +kernel) (o.noName _ (by kernel_rfl)) (EvL.cons (EvS.var (i := 0) (by rfl) (by decide +kernel) (by decide +kernel)) EvL.nil (by rfl)) (by rfl)) EvL.nil (by rfl)) (by rfl) (fun zq zq => by rfl))
        (fun W => TestsS.nil)
        (fun W => EvS.b (EvS.idx (EvS.idx (EvS.var (i := 2) (by rfl) (by decide +kernel) (by decide +kernel)) (EvS.var (i := 0) (by rfl) (by decide +kernel) (by decide +kernel)) (by rfl)) (EvS.idx (EvS.var (i := 1) (by rfl) (by decide +kernel) (by decide +kernel)) (EvS.var (i := 0) (by rfl) (by decide +kernel) (by decide +kernel)) (by rfl)) (by rfl)))
        (fun zq zq => by rfl))) (by rfl) (fun zq => by rfl) (by decide +kernel)) SsS.nil)
theorem txt_ok : DefOk dTxt ["word"] nTxt where
  bind := fun pm code doc vals h => by
    obtain ⟨a, rfl⟩ := vlen1 h
    kernel_rfl
  pre := rfl
  nodup := by decide +kernel
  kinds := by decide +kernel
  free := by decide +kernel
  co := by kernel_rfl
  gen := by kernel_rfl
  fn := by kernel_rfl
end Mine
end

section
open PySem PySem.W PyProof.Rows
set_option Elab.async false
set_option tactic.hygienic false
set_option maxRecDepth 100000
set_option autoImplicit false
set_option linter.unusedVariables false


namespace Mine
noncomputable def forms : List (List Nat) := [[107, 75, 0x212A], [0x3B8, 0x398, 0x3F4], [0x3C9, 0x3A9, 0x2126], [0xE5, 0xC5, 0x212B]]
noncomputable def signOf (p : Nat) (w : Int) : Nat := ((forms[p]?).bind fun x => x[w.toNat]?).getD 0
noncomputable def txtFrom : Nat → List Int → List Nat
  | _, [] => []
  | p, w :: ws => signOf p w :: txtFrom (p + 1) ws
noncomputable def txtOf (ws : List Int) : Str := ⟨(txtFrom 0 ws).toArray⟩
noncomputable def allWords : Nat → List (List Int)
  | 0 => [[]]
  | n + 1 => (allWords n).flatMap fun w => [0 :: w, 1 :: w, 2 :: w]
theorem txt_all2 : (allWords 2).all (fun ws => match callV txt_.1 2 1 [.lst (ws.map .int)] with | some (.str x) => decide (x = txtOf ws) | _ => false) = true := by kernel_rfl
theorem txt_all3 : (allWords 3).all (fun ws => match callV txt_.1 2 1 [.lst (ws.map .int)] with | some (.str x) => decide (x = txtOf ws) | _ => false) = true := by kernel_rfl
theorem txt_all4 : (allWords 4).all (fun ws => match callV txt_.1 2 1 [.lst (ws.map .int)] with | some (.str x) => decide (x = txtOf ws) | _ => false) = true := by kernel_rfl
theorem mem_words : ∀ (n : Nat) (ws : List Int), ws.length = n → (∀ w ∈ ws, 0 ≤ w ∧ w < 3) → ws ∈ allWords n
  | 0, [], _, _ => List.mem_singleton.mpr rfl
  | n + 1, w :: ws, h, hw => by
    refine List.mem_flatMap.mpr ⟨ws, mem_words n ws (by simpa using h) fun x hx => hw x (List.mem_cons_of_mem _ hx), ?_⟩
    have := hw w List.mem_cons_self
    rcases (by lia : w = 0 ∨ w = 1 ∨ w = 2) with rfl | rfl | rfl <;> simp
theorem asInts_eq : ∀ {xs : List AV} {ws : List Int}, asInts xs = some ws → xs = ws.map .int
  | [], _, e => by cases e; rfl
  | x :: xs, _, e => by
    cases x <;> first | (simp [asInts] at e; done) | skip
    case int i =>
    obtain ⟨ms, h1, rfl⟩ := Option.map_eq_some_iff.mp e
    rw [asInts_eq h1]; rfl
noncomputable def txtV : List AV → Option AV
  | [.lst xs] => (asInts xs).bind fun ws => if (ws.length = 2 ∨ ws.length = 3 ∨ ws.length = 4) ∧ (ws.all fun w => decide (0 ≤ w ∧ w < 3)) = true then some (.str (txtOf ws)) else none
  | _ => none
set_option tactic.hygienic true in
theorem txt_eq (avs : List AV) (r : AV) (h : txtV avs = some r) : callV txt_.1 nTxt.length 1 avs = some r := by
  unfold txtV at h
  split at h
  · next xs =>
    obtain ⟨ws, h1, h2⟩ := Option.bind_eq_some_iff.mp h
    split at h2
    · next hc =>
      cases h2
      have e := asInts_eq h1
      subst e
      have hw : ∀ w ∈ ws, 0 ≤ w ∧ w < 3 := fun w hw => by have := List.all_eq_true.mp hc.2 w hw; simpa using this
      have key : ∀ n, ws.length = n → (allWords n).all (fun ws => match callV txt_.1 2 1 [.lst (ws.map .int)] with | some (.str x) => decide (x = txtOf ws) | _ => false) = true → callV txt_.1 2 1 [.lst (ws.map .int)] = some (.str (txtOf ws)) := by
        intro n hn ha
        have := List.all_eq_true.mp ha ws (mem_words n ws hn hw)
        revert this
        generalize callV txt_.1 2 1 [.lst (ws.map .int)] = q
        intro this
        split at this
        · rw [of_decide_eq_true this]
        · cases this
      rcases hc.1 with hn | hn | hn
      · exact key 2 hn txt_all2
      · exact key 3 hn txt_all3
      · exact key 4 hn txt_all4
    · cases h2
  · cases h
theorem txt_fn (G : Gl) (o : Ok1 G) : Fn G "_law_text" 1 txtV :=
  Ok1.contract txt_ok (rec_mem "_law_text" (by kernel_rfl)).1 (rec_mem "_law_text" (by kernel_rfl)).2 txt_ txt_eq G o
end Mine
end

section
open PySem PySem.W PyProof.Rows
set_option Elab.async false
set_option tactic.hygienic false
set_option maxRecDepth 100000
set_option autoImplicit false
set_option linter.unusedVariables false
set_option linter.unusedSimpArgs false


namespace Mine
noncomputable def dDiv : DefRec := recAt "_div2n1n"
noncomputable def nDiv : List Str := ["a", "b", "n"]
set_option maxHeartbeats 2000000 in
noncomputable def div_ : {f : SF // ∀ G, Ok1 G → SsS G 0 nDiv dDiv.scope.names dDiv.body f} :=
    pk fun G o => SsS.cons (StS.ite (fun W => TsS.cmp (EvS.bin (EvS.bits (EvS.var (i := 0) (by rfl) (by decide +kernel) (by decide +kernel)) (fun zq => by rfl) (by decide +kernel)) (EvS.var (i := 2) (by rfl) (by decide +kernel) (by decide +kernel))) (EvS.gint (i := 4000) (by decide +kernel) (by rw [o.q]; kernel_rfl) (by decide +kernel)) (by rfl))
      (SsS.cons (StS.retNew fun W => EvB.divmod (by decide +kernel) (o.noName _ (by kernel_rfl)) (EvL.cons (EvS.var (i := 0) (by rfl) (by decide +kernel) (by decide +kernel)) (EvL.cons (EvS.var (i := 1) (by rfl) (by decide +kernel) (by decide +kernel)) EvL.nil (by rfl)) (by rfl)) (by rfl) (fun zq zq => by rfl)) SsS.nil) SsS.nil)
     SsS.never
theorem div_ok : DefOk dDiv nDiv nDiv where
  bind := fun pm code doc vals h => by
    obtain ⟨a, b, c, rfl⟩ := vlen3 h
    kernel_rfl
  pre := rfl
  nodup := by decide +kernel
  kinds := by decide +kernel
  free := by decide +kernel
  co := by kernel_rfl
  gen := by kernel_rfl
  fn := by kernel_rfl
noncomputable def divV : List AV → Option AV
  | [.int a, .int b, .int n] => if (Builtin.Int.intBits a : Int) - n ≤ 4000 ∧ b ≠ 0 ∧ small b = true then some (.tup [.int (a.fdiv b), .int (a.fmod b)]) else none
  | _ => none
set_option tactic.hygienic true in
theorem div_eq (avs : List AV) (r : AV) (h : divV avs = some r) : callV div_.1 nDiv.length nDiv.length avs = some r := by
  unfold divV at h
  split at h
  · next a b n =>
    split at h
    · next hc =>
      cases h
      refine call_ret (sl' := [.val (.int a), .val (.int b), .val (.int n)]) rfl (by simp [firmL, AV.firm]) ?_ (by simp [firmL, AV.firm])
      show div_.1 [.val (.int a), .val (.int b), .val (.int n)] = _
      simp only [div_, pk]
      have d : divmodV [.int a, .int b] = some (.tup [.int (a.fdiv b), .int (a.fmod b)]) := by
        show (if b ≠ 0 ∧ small b = true then _ else _) = _
        rw [if_pos hc.2]
      have c : cmpV .LtE (.int ((Builtin.Int.intBits a : Int) - n)) (.int 4000) = some true := by
        show some (decide _) = _
        rw [decide_eq_true hc.1]
      refine seqF_ret (sl' := [.val (.int a), .val (.int b), .val (.int n)]) ?_
      show ((Option.map AV.bool (cmpV .LtE (.int ((Builtin.Int.intBits a : Int) - n)) (.int 4000))).bind fun x => (truth x).bind fun b' => if b' = true then _ else _) = _
      rw [c]
      show seqF (retF fun sl => ((consV (fun sl => sl[0]?.bind Slot.read) (consV (fun sl => sl[1]?.bind Slot.read) fun x => some []) sl).bind divmodV).bind flatLV) (fun sl => some (Fl.next, sl)) [.val (.int a), .val (.int b), .val (.int n)] = _
      refine seqF_ret ?_
      show (((divmodV [.int a, .int b]).bind flatLV).map _) = _
      rw [d]
      rfl
    · cases h
  · cases h
theorem div_fn (G : Gl) (o : Ok1 G) : Fn G "_div2n1n" 1 divV :=
  Ok1.contract div_ok (rec_mem "_div2n1n" (by kernel_rfl)).1 (rec_mem "_div2n1n" (by kernel_rfl)).2 div_ div_eq G o
end Mine
end

section
open PySem PySem.W PyProof.Rows
set_option Elab.async false
set_option tactic.hygienic false
set_option maxRecDepth 100000
set_option autoImplicit false
set_option linter.unusedVariables false
namespace Mine
theorem SsE.cons {env : Env} {G : Gl} {k : Nat} {names : List Str} {sc : List (Str × NameKind)} {st : Stmt} {r : List Stmt} {f g : SF} (h : StS G k names sc st f) (hr : SsE env G k names sc r g) : SsE env G k names sc (st :: r) (seqF f g) := by
  intro A W s sl m os va ro ef eo x fl sl' hf Q hQ
  obtain ⟨⟨fl1, sl1⟩, h1, h2⟩ := Option.bind_eq_some_iff.mp hf
  refine wpAny_execs_cons (h A W env s sl m os va ro ef eo x fl1 sl1 h1 _ fun W' s' m' os' va' flow mv st' fr => ?_)
  cases fl1 with
  | next =>
    cases (show flow = .next from fr)
    exact hr A W' s' sl1 m' os' va' ro ef eo st' fl sl' h2 Q fun W'' s'' m'' os'' va'' flow mv' => hQ W'' s'' m'' os'' va'' flow (mv.trans mv')
  | ret a => obtain ⟨v, rfl, rv⟩ := fr; cases h2; exact hQ W' s' m' os' va' _ mv st' ⟨v, rfl, rv⟩
  | brk => cases (show flow = .brk from fr); cases h2; exact hQ W' s' m' os' va' _ mv st' rfl
  | cont => cases (show flow = .cont from fr); cases h2; exact hQ W' s' m' os' va' _ mv st' rfl
noncomputable def pkE {d : DefRec} {k : Nat} {names : List Str} {f : SF} (h : ∀ G env, Ok1 G → CallEnvOf G d env → SsE env G k names d.scope.names d.body f) : {f : SF // ∀ G env, Ok1 G → CallEnvOf G d env → SsE env G k names d.scope.names d.body f} := ⟨f, h⟩
theorem Ok1.contractE {lvl : Nat} {d : DefRec} {ps names : List Str} {g : Str} (D : DefOk d ps names) (hm : d ∈ recsOf q1) (hg : d.name = g) (b : {f : SF // ∀ G env, Ok1 G → CallEnvOf G d env → SsE env G lvl names d.scope.names d.body f}) {fn : List AV → Option AV}
    (he : ∀ avs r, fn avs = some r → callV b.1 names.length ps.length avs = some r) (G : Gl) (o : Ok1 G) : Fn G g (lvl + 1) fn := by
  have F := Fn.of' (G := G) (by rw [o.q]; exact hm) D (fun h hk env ce => b.2 (G.at h hk) env (o.at h hk) ce)
  rw [hg] at F
  exact ⟨F.place, fun a hm A s vs avs r ro kk H tb rl hf Q hQ => F.runs a hm A s vs avs r ro kk H tb rl (he avs r hf) Q hQ⟩
theorem CallEnvOf.defEnv {G : Gl} {d : DefRec} {env : Env} {name q : Str} {pos : Pos} (ce : CallEnvOf G d env) (hn : d.name = name) (hk : (env.kindOf "inner" == some .globalExplicit) = false) (hq : name ++ ".<locals>." ++ "inner" = q) (hp : innerPos (.stmts d.body) = some pos) : DefEnv G name q pos env := by
  obtain ⟨e1, c, a, o, fd, h1, h2, h3, h4, h5, h6⟩ := ce
  refine ⟨?_, c, a, o, fd, h1, by rw [← hn]; exact h2, h3, h4, h5, by rw [h6]; exact hp⟩
  unfold qualnameIn
  rw [hk, e1, hn]
  exact hq
noncomputable def dI2D : DefRec := recAt "_int2digits"
theorem CallEnvOf.kind {G : Gl} {d : DefRec} {env : Env} {sc} (ef : EnvF env sc) (x : Str) (h : (sc.lookup x == some .globalExplicit) = false) : (env.kindOf x == some .globalExplicit) = false := by unfold Env.kindOf; rw [ef.names]; exact h
set_option maxHeartbeats 2000000 in
noncomputable def i2d_ : {f : SF // ∀ G env, Ok1 G → CallEnvOf G dI2D env → SsE env G 30 oNames dI2D.scope.names dI2D.body f} :=
    pkE fun G env o ce => SsE.cons (StS.assignNew (md := 1) (i := 2) (by decide) (by rfl) (fun W => EvB.rep (EvS.list (EvL.cons EvS.int EvL.nil (by rfl))) (EvS.bin (EvS.bin (EvS.bin (EvS.bits (EvS.var (i := 0) (by rfl) (by decide +kernel) (by decide +kernel)) (fun zq => by rfl) (by decide +kernel)) (EvS.var (i := 1) (by rfl) (by decide +kernel) (by decide +kernel))) EvS.int) (EvS.var (i := 1) (by rfl) (by decide +kernel) (by decide +kernel)))) (fun zq => by rfl))
      (fun A W s sl m os va ro ef => i2d_tail (lvl := 0) (by exact .mk) (by rfl) (by rfl) (by rfl) (by rfl) (fun zq zq zq zq zq zq zq => by rfl) (fun zq => by rfl) (ce.defEnv (by rfl) (CallEnvOf.kind (G := G) (d := dI2D) ef _ (by decide +kernel)) (by rfl) (by rfl)) (o.noName _ (by kernel_rfl)) (by decide +kernel) (by decide +kernel) (by decide +kernel) (by decide +kernel) (by decide +kernel) A W s sl m os va ro ef)
theorem i2d_ok : DefOk dI2D ["a", "n"] oNames where
  bind := fun pm code doc vals h => by
    obtain ⟨a, b, rfl⟩ := vlen2 h
    kernel_rfl
  pre := rfl
  nodup := by decide +kernel
  kinds := by decide +kernel
  free := by decide +kernel
  co := by kernel_rfl
  gen := by kernel_rfl
  fn := by kernel_rfl
noncomputable def ndig (a n : Int) : Nat := (Builtin.Int.intBits a + n.toNat - 1) / n.toNat
noncomputable def i2dV : List AV → Option AV
  | [.int a, .int n] => if 0 ≤ a ∧ 1 ≤ n ∧ n.toNat * ndig a n ≤ 4000 ∧ ndig a n ≤ 30 ∧ n < 100000 then some (.lst (intL ((dgs n.toNat (ndig a n) a.toNat).map Int.ofNat))) else none
  | _ => none
theorem lt_bits (a : Int) (ha : 0 ≤ a) : a.toNat < 2 ^ Builtin.Int.intBits a := by
  unfold Builtin.Int.intBits
  by_cases h : a = 0
  · subst h; decide
  · rw [if_neg (by simpa using h)]
    have : a.natAbs = a.toNat := by lia
    rw [this]
    exact Nat.lt_log2_self
theorem ndig_le (a n : Int) (hn : 1 ≤ n) : Builtin.Int.intBits a ≤ n.toNat * ndig a n := by
  unfold ndig
  have h1 : 1 ≤ n.toNat := by lia
  generalize Builtin.Int.intBits a = b
  generalize n.toNat = n at *
  have := Nat.div_add_mod (b + n - 1) n
  have h2 := Nat.mod_lt (b + n - 1) h1
  lia
set_option tactic.hygienic true in
theorem i2d_eq (avs : List AV) (r : AV) (h : i2dV avs = some r) : callV i2d_.1 oNames.length 2 avs = some r := by
  unfold i2dV at h
  split at h
  · next a n =>
    split at h
    · next hc =>
      cases h
      obtain ⟨ha, hn, h1, h2, h3⟩ := hc
      have hnd : ndig a n * 1 < 1000000 := by lia
      have e0 : ((Builtin.Int.intBits a : Int) + n - 1).fdiv n = (ndig a n : Int) := by
        rw [Int.fdiv_eq_ediv_of_nonneg _ (by lia)]
        unfold ndig
        rw [Int.natCast_ediv]
        congr 1 <;> lia
      have hsn : small n = true := by
        have : n = ((n.toNat : Nat) : Int) := by lia
        rw [this]; exact small_nat (by lia)
      have e1 : binV .FloorDiv (.int ((Builtin.Int.intBits a : Int) + n - 1)) (.int n) = some (.int (ndig a n)) := by
        show ((if n ≠ 0 ∧ small n = true then some (((Builtin.Int.intBits a : Int) + n - 1).fdiv n) else none).map AV.int) = _
        rw [if_pos ⟨by lia, hsn⟩, e0]; rfl
      have e2 : repV (.lst [.int 0]) (.int (ndig a n)) = some (.lst (intL (List.replicate (ndig a n) 0))) := by
        show (if [AV.int 0].length * ((ndig a n : Nat) : Int).toNat < 1000000 ∧ ((ndig a n : Nat) : Int) < 1000000 ∧ -1000000 < ((ndig a n : Nat) : Int) then some (AV.lst (List.replicate ((ndig a n : Nat) : Int).toNat [AV.int 0]).flatten) else none) = _
        rw [if_pos ⟨by simp; lia, by lia, by lia⟩, Int.toNat_natCast]
        congr 2
        induction ndig a n with
        | zero => rfl
        | succ k ih => rw [List.replicate_succ, List.flatten_cons, ih, List.replicate_succ]; rfl
      have e3 : numsOnly (.lst (intL (List.replicate (ndig a n) 0))) = some (intL (List.replicate (ndig a n) 0)) := by
        show (if (asInts (intL (List.replicate (ndig a n) 0))).isSome = true then _ else _) = _
        rw [show asInts (intL (List.replicate (ndig a n) 0)) = some (List.replicate (ndig a n) 0) from asInts_map _]; rfl
      refine call_ret (sl' := [.val (.int a), .val (.int n), .mls (resI2D a n (intL (List.replicate (ndig a n) 0)) (List.replicate (ndig a n) 0)), .unset]) rfl (by simp [firmL, AV.firm]) ?_ (firm_intL _)
      show i2d_.1 [.val (.int a), .val (.int n), .unset, .unset] = _
      have hres : resI2D a n (intL (List.replicate (ndig a n) 0)) (List.replicate (ndig a n) 0) = intL ((dgs n.toNat (ndig a n) a.toNat).map Int.ofNat) := by
        unfold resI2D
        rw [List.length_replicate]
        split
        · next h =>
          subst h
          have : ndig 0 n = 0 := by
            unfold ndig
            rw [show Builtin.Int.intBits 0 = 0 from rfl, Nat.zero_add]
            exact Nat.div_eq_of_lt (by lia)
          rw [this]; rfl
        · rfl
      refine (seqF_next (sl' := [.val (.int a), .val (.int n), .mls (intL (List.replicate (ndig a n) 0)), .unset]) ?_).trans ?_
      · show ((((binV .FloorDiv (.int ((Builtin.Int.intBits a : Int) + n - 1)) (.int n)).bind fun b => repV (.lst [.int 0]) b).bind numsOnly).bind _) = _
        rw [e1, Option.bind_some, e2, Option.bind_some, e3, Option.bind_some, if_pos (firm_intL _)]
        rfl
      · show ((asInts (intL (List.replicate (ndig a n) 0))).bind fun ds => _) = _
        rw [show asInts (intL (List.replicate (ndig a n) 0)) = some (List.replicate (ndig a n) 0) from asInts_map _, Option.bind_some, List.length_replicate]
        rw [if_pos ⟨ha, hn, Nat.lt_of_lt_of_le (lt_bits a ha) (Nat.pow_le_pow_right (by decide) (ndig_le a n hn)), h1, h2⟩, hres]
    · cases h
  · cases h
theorem i2d_fn (G : Gl) (o : Ok1 G) : Fn G "_int2digits" 31 i2dV :=
  Ok1.contractE i2d_ok (rec_mem "_int2digits" (by kernel_rfl)).1 (rec_mem "_int2digits" (by kernel_rfl)).2 i2d_ i2d_eq G o
end Mine
end

section
open PySem PySem.W PyProof.Rows
set_option Elab.async false
set_option tactic.hygienic false
set_option maxRecDepth 100000
set_option autoImplicit false
set_option linter.unusedVariables false
namespace Mine
noncomputable def dD2I : DefRec := recAt "_digits2int"
set_option maxHeartbeats 2000000 in
noncomputable def d2i_ : {f : SF // ∀ G env, Ok1 G → CallEnvOf G dD2I env → SsE env G 30 dNames dD2I.scope.names dD2I.body f} :=
    pkE fun G env o ce => (fun A W s sl m os va ro ef => d2i_tail (by exact .mk) (by rfl) (by rfl) (by rfl) (by rfl) (fun zq zq zq zq zq zq => by rfl) (fun zq => by rfl) (ce.defEnv (by rfl) (CallEnvOf.kind (G := G) (d := dD2I) ef _ (by decide +kernel)) (by rfl) (by rfl)) (o.noName _ (by kernel_rfl)) (by decide +kernel) (by decide +kernel) (by decide +kernel) (by decide +kernel) A W s sl m os va ro ef)
theorem d2i_ok : DefOk dD2I ["digits", "n"] dNames where
  bind := fun pm code doc vals h => by
    obtain ⟨a, b, rfl⟩ := vlen2 h
    kernel_rfl
  pre := rfl
  nodup := by decide +kernel
  kinds := by decide +kernel
  free := by decide +kernel
  co := by kernel_rfl
  gen := by kernel_rfl
  fn := by kernel_rfl
noncomputable def d2iV : List AV → Option AV
  | [.lst xs, .int n] => (asInts xs).bind fun ds => if (ds.all fun d => decide (0 ≤ d ∧ d.toNat < 2 ^ n.toNat)) = true ∧ 1 ≤ n ∧ n.toNat * ds.length ≤ 3999 ∧ ds.length ≤ 30 then some (.int ((undgs n.toNat (ds.map Int.toNat) : Nat) : Int)) else none
  | _ => none
set_option tactic.hygienic true in
theorem d2i_eq (avs : List AV) (r : AV) (h : d2iV avs = some r) : callV d2i_.1 dNames.length 2 avs = some r := by
  unfold d2iV at h
  split at h
  · next xs n =>
    obtain ⟨ds, h0, h⟩ := Option.bind_eq_some_iff.mp h
    split at h
    · next hc =>
      cases h
      have hf : firmL [AV.lst xs, .int n] = true := by rw [asInts_intL h0]; simp only [firmL, AV.firm]; rw [firm_intL]; rfl
      refine call_ret (sl' := [.val (.lst xs), .val (.int n), .unset]) rfl hf ?_ rfl
      show ((asInts xs).bind fun ds => _) = _
      rw [h0, Option.bind_some, if_pos hc]
    · cases h
  · cases h
theorem d2i_fn (G : Gl) (o : Ok1 G) : Fn G "_digits2int" 31 d2iV :=
  Ok1.contractE d2i_ok (rec_mem "_digits2int" (by kernel_rfl)).1 (rec_mem "_digits2int" (by kernel_rfl)).2 d2i_ d2i_eq G o
end Mine
end

section
open PySem PySem.W PyProof.Rows
set_option Elab.async false
set_option tactic.hygienic false
set_option maxRecDepth 100000
set_option autoImplicit false
set_option linter.unusedVariables false
namespace Mine
noncomputable def dDmp : DefRec := recAt "_divmod_pos"
noncomputable def nDmp : List Str := ["a", "b", "n", "a_digits", "r", "q_digits", "a_digit", "q_digit", "q"]
set_option maxHeartbeats 4000000 in
noncomputable def dmp_ : {f : SF // ∀ G, Ok1 G → SsS G 31 nDmp dDmp.scope.names dDmp.body f} :=
    pk fun G o => (SsS.cons (StS.assign (i := 2) (by rfl) (fun W => (EvS.bits (EvS.var (i := 1) (by rfl) (by decide +kernel) (by decide +kernel)) (fun zq => by rfl) (by decide +kernel))) (fun zq => by rfl))
 (SsS.cons (StS.assign (i := 3) (by rfl) (fun W => (EvS.call (i2d_fn G o) (by decide) (by decide +kernel) (by decide +kernel) (EvL.cons (EvS.var (i := 0) (by rfl) (by decide +kernel) (by decide +kernel)) (EvL.cons (EvS.var (i := 2) (by rfl) (by decide +kernel) (by decide +kernel)) EvL.nil (by rfl)) (by rfl)) (by rfl))) (fun zq => by rfl))
 (SsS.cons (StS.assign (i := 4) (by rfl) (fun W => EvS.int) (fun zq => by rfl))
 (SsS.cons (StS.assignNew (md := 1) (i := 5) (by decide) (by rfl) (fun W => (EvB.list EvL.nil)) (fun zq => by rfl))
 (SsS.cons (StS.for (i := 6) (by rfl) (fun W => (EvI.rev (by decide +kernel) (o.noName _ (by kernel_rfl)) (EvS.var (i := 3) (by rfl) (by decide +kernel) (by decide +kernel)) (by rfl)))
 (SsS.cons (StS.unpack (is := [7, 4]) (xs := [(_, _), (_, _)]) (by rfl) (by rfl) (fun W => (EvS.call (div_fn G o) (by decide) (by decide +kernel) (by decide +kernel) (EvL.cons (EvS.bin (EvS.bin (EvS.var (i := 4) (by rfl) (by decide +kernel) (by decide +kernel)) (EvS.var (i := 2) (by rfl) (by decide +kernel) (by decide +kernel))) (EvS.var (i := 6) (by rfl) (by decide +kernel) (by decide +kernel))) (EvL.cons (EvS.var (i := 1) (by rfl) (by decide +kernel) (by decide +kernel)) (EvL.cons (EvS.var (i := 2) (by rfl) (by decide +kernel) (by decide +kernel)) EvL.nil (by rfl)) (by rfl)) (by rfl)) (by rfl))) (fun zq => by rfl) (fun zq => by rfl))
 (SsS.cons (StS.append (i := 5) (by rfl) (by decide +kernel) (fun W => (EvS.var (i := 7) (by rfl) (by decide +kernel) (by decide +kernel))) (by rfl) (by decide +kernel) (fun env ef => no_inter ef))
 SsS.nil)) (fun zq zq => by rfl))
 (SsS.cons (StS.reverse (i := 5) (by rfl) (by decide +kernel) (by decide +kernel) (fun env ef => no_inter ef))
 (SsS.cons (StS.assign (i := 8) (by rfl) (fun W => (EvS.call (d2i_fn G o) (by decide) (by decide +kernel) (by decide +kernel) (EvL.cons (EvS.var (i := 5) (by rfl) (by decide +kernel) (by decide +kernel)) (EvL.cons (EvS.var (i := 2) (by rfl) (by decide +kernel) (by decide +kernel)) EvL.nil (by rfl)) (by rfl)) (by rfl))) (fun zq => by rfl))
 (SsS.cons (StS.retNew fun W => (EvB.tuple (EvL.cons (EvS.var (i := 8) (by rfl) (by decide +kernel) (by decide +kernel)) (EvL.cons (EvS.var (i := 4) (by rfl) (by decide +kernel) (by decide +kernel)) EvL.nil (by rfl)) (by rfl))))
 SsS.nil))))))))
theorem dmp_ok : DefOk dDmp ["a", "b"] nDmp where
  bind := fun pm code doc vals h => by
    obtain ⟨a, b, rfl⟩ := vlen2 h
    kernel_rfl
  pre := rfl
  nodup := by decide +kernel
  kinds := by decide +kernel
  free := by decide +kernel
  co := by kernel_rfl
  gen := by kernel_rfl
  fn := by kernel_rfl
noncomputable abbrev nat (a : Nat) : AV := .int (a : Int)
noncomputable abbrev nats (l : List Nat) : List AV := intL (l.map Int.ofNat)
theorem setF_eq {i : Nat} {f : List Slot → Option AV} {sl sl' : List Slot} {av : AV} (h : f sl = some av) (hf : av.firm = true) (hp : putS sl i (.val av) = some sl') : setF i f sl = some (.next, sl') := by
  unfold setF; rw [h, Option.bind_some, if_pos hf, hp]; rfl
theorem unpackF_eq {is : List Nat} {f : List Slot → Option (List AV)} {sl sl' : List Slot} {xs : List AV} (h : f sl = some xs) (hp : putMany sl is xs = some sl') : unpackF is f sl = some (.next, sl') := by
  unfold unpackF; rw [h, Option.bind_some, hp]; rfl
theorem forF_next {i : Nat} {f : SF} {x : AV} {r : List AV} {sl sl1 sl2 : List Slot} (hx : x.firm = true) (hp : putS sl i (.val x) = some sl1) (hf : f sl1 = some (.next, sl2)) : forF i f (x :: r) sl = forF i f r sl2 := by
  rw [forF, if_pos hx, hp, Option.bind_some, hf]; rfl
theorem forF_ret {i : Nat} {f : SF} {x a : AV} {r : List AV} {sl sl1 sl2 : List Slot} (hx : x.firm = true) (hp : putS sl i (.val x) = some sl1) (hf : f sl1 = some (.ret a, sl2)) : forF i f (x :: r) sl = some (.ret a, sl2) := by
  rw [forF, if_pos hx, hp, Option.bind_some, hf]; rfl
theorem asInts_nats (l : List Nat) : asInts (nats l) = some (l.map Int.ofNat) := asInts_map _
theorem freeze_intL (l : List Int) : freezeL (intL l) = intL l := by
  induction l with
  | nil => rfl
  | cons a l ih => show freezeL (.int a :: intL l) = _; unfold freezeL; rw [ih]; rfl
theorem map_ofNat_toNat (l : List Nat) : (l.map Int.ofNat).map Int.toNat = l := by
  induction l with
  | nil => rfl
  | cons a l ih => simp only [List.map_cons, ih]; rfl
theorem bits_lt {x k : Nat} (h : x < 2 ^ k) : Builtin.Int.intBits (x : Int) ≤ k := by
  unfold Builtin.Int.intBits
  split
  · exact Nat.zero_le _
  · next h0 =>
    have hx : x ≠ 0 := fun e => h0 (by rw [e]; rfl)
    show x.log2 + 1 ≤ k
    exact (Nat.log2_lt hx).mpr h
theorem div_nat (v b n : Nat) (hb : 0 < b) (hs : small (b : Int) = true) (hv : v < 2 ^ (n + n)) (hn : n ≤ 4000) : divV [nat v, nat b, nat n] = some (.tup [nat (v / b), nat (v % b)]) := by
  show (if (Builtin.Int.intBits (v : Int) : Int) - (n : Int) ≤ 4000 ∧ (b : Int) ≠ 0 ∧ small (b : Int) = true then some (AV.tup [.int ((v : Int).fdiv b), .int ((v : Int).fmod b)]) else none) = _
  have := bits_lt hv
  rw [if_pos ⟨by lia, by lia, hs⟩, Int.fdiv_eq_ediv_of_nonneg _ (Int.natCast_nonneg b), Int.fmod_eq_emod_of_nonneg _ (Int.natCast_nonneg b)]
  rfl
theorem for_dmp (n b : Nat) (hb : 0 < b) (B : SF) (A0 : AV) (L : List AV)
    (hB : ∀ (r d : Nat) (qs : List Nat) (sv : Slot), r < b → d < 2 ^ n → qs.length < 5000 → B [.val A0, .val (nat b), .val (nat n), .val (.lst L), .val (nat r), .mls (nats qs), .val (nat d), sv, .unset] =
      some (.next, [.val A0, .val (nat b), .val (nat n), .val (.lst L), .val (nat ((r * 2 ^ n + d) % b)), .mls (nats (qs ++ [(r * 2 ^ n + d) / b])), .val (nat d), .val (nat ((r * 2 ^ n + d) / b)), .unset])) :
    ∀ (l : List Nat) (r : Nat) (qs : List Nat) (sv6 sv7 : Slot), r < b → (∀ d ∈ l, d < 2 ^ n) → qs.length + l.length < 5000 → ∃ sv6' sv7', forF 6 B (nats l) [.val A0, .val (nat b), .val (nat n), .val (.lst L), .val (nat r), .mls (nats qs), sv6, sv7, .unset] =
      some (.next, [.val A0, .val (nat b), .val (nat n), .val (.lst L), .val (nat (ldiv n b l r qs).1), .mls (nats (ldiv n b l r qs).2), sv6', sv7', .unset])
  | [], r, qs, sv6, sv7, _, _, _ => ⟨sv6, sv7, rfl⟩
  | d :: l, r, qs, sv6, sv7, hr, hl, hq => by
    simp only [List.length_cons] at hq
    obtain ⟨s6, s7, e⟩ := for_dmp n b hb B A0 L hB l ((r * 2 ^ n + d) % b) (qs ++ [(r * 2 ^ n + d) / b]) (.val (nat d)) (.val (nat ((r * 2 ^ n + d) / b))) (Nat.mod_lt _ hb) (fun x hx => hl x (List.mem_cons_of_mem _ hx)) (by simp; lia)
    refine ⟨s6, s7, ?_⟩
    exact (forF_next rfl rfl (hB r d qs sv7 hr (hl d List.mem_cons_self) (by lia))).trans e
noncomputable def dmpV : List AV → Option AV
  | [.int a, .int b] => if 0 ≤ a ∧ 1 ≤ b ∧ small b = true ∧ Builtin.Int.intBits b * ndig a (Builtin.Int.intBits b) ≤ 3999 ∧ ndig a (Builtin.Int.intBits b) ≤ 30 ∧ Builtin.Int.intBits b ≤ 3900 then some (.tup [nat (a.toNat / b.toNat), nat (a.toNat % b.toNat)]) else none
  | _ => none
theorem dmp_nat (a b : Nat) (hb : 0 < b) (hs : small (b : Int) = true) (h1 : Builtin.Int.intBits (b : Int) * ndig a (Builtin.Int.intBits (b : Int)) ≤ 3999) (h2 : ndig a (Builtin.Int.intBits (b : Int)) ≤ 30) (h3 : Builtin.Int.intBits (b : Int) ≤ 3900) :
    ∃ sl', dmp_.1 [.val (nat a), .val (nat b), .unset, .unset, .unset, .unset, .unset, .unset, .unset] = some (.ret (.tup [nat (a / b), nat (a % b)]), sl') := by
  have hbn : b < 2 ^ Builtin.Int.intBits (b : Int) := lt_bits (b : Int) (Int.natCast_nonneg b)
  generalize hN : Builtin.Int.intBits (b : Int) = n at *
  have hn1 : 1 ≤ n := by
    rcases Nat.eq_zero_or_pos n with h | h
    · rw [h] at hbn; simp at hbn; lia
    · exact h
  have hla : a < 2 ^ (n * ndig a n) := Nat.lt_of_lt_of_le (lt_bits (a : Int) (Int.natCast_nonneg a)) (Nat.pow_le_pow_right (by decide) (ndig_le a n (by lia)))
  have hdl : ∀ d ∈ dgs n (ndig a n) a, d < 2 ^ n := by
    intro d hd
    have key : ∀ m x, ∀ d ∈ dgs n m x, d < 2 ^ n := by
      intro m
      induction m with
      | zero => intro x d h; cases h
      | succ m ih =>
        intro x d h
        rcases List.mem_cons.mp h with rfl | h
        · exact Nat.mod_lt _ (Nat.two_pow_pos _)
        · exact ih _ d h
    exact key _ _ d hd
  generalize hds : dgs n (ndig a n) a = ds at *
  have hdlen : ds.length = ndig a n := by rw [← hds, dgs_len]
  have spec := ldiv_spec n b hb ds.reverse 0 [] 0 (by simp) (by simp [undgs]) (by simp) (fun d hd => hdl d (by simpa using hd))
  have hval : undgs n ds = a := by rw [← hds]; exact undgs_dgs n _ _ hla
  rw [List.reverse_reverse, hval] at spec
  simp only [Nat.mul_zero, Nat.add_zero, List.length_nil, Nat.zero_add, List.length_reverse] at spec
  obtain ⟨sp1, sp2, sp3, sp4⟩ := spec
  have i2 : i2dV [nat a, nat n] = some (.lst (nats ds)) := by
    show (if (0 : Int) ≤ (a : Int) ∧ (1 : Int) ≤ (n : Int) ∧ ((n : Int)).toNat * ndig a n ≤ 4000 ∧ ndig a n ≤ 30 ∧ (n : Int) < 100000 then some (AV.lst (intL ((dgs ((n : Int)).toNat (ndig a n) ((a : Int)).toNat).map Int.ofNat))) else none) = _
    rw [if_pos ⟨by lia, by lia, by rw [Int.toNat_natCast]; lia, h2, by lia⟩, Int.toNat_natCast, Int.toNat_natCast, hds]
  obtain ⟨s6, s7, loop⟩ := for_dmp n b hb (seqF (unpackF [7, 4] fun sl => (((consV (fun sl => ((((sl[4]?.bind Slot.read).bind fun a => (sl[2]?.bind Slot.read).bind fun b => binV .LShift a b)).bind fun a => (sl[6]?.bind Slot.read).bind fun b => binV .Add a b)) (consV (fun sl => sl[1]?.bind Slot.read) (consV (fun sl => sl[2]?.bind Slot.read) fun zq => some []))) sl).bind fun avs => divV (freezeL avs)).bind tupOf)
      (seqF (appendF 5 fun sl => sl[7]?.bind Slot.read) fun sl => some (.next, sl))) (nat a) (nats ds) (fun r d qs sv hr hd hq => by
        have hv : r * 2 ^ n + d < 2 ^ (n + n) := by
          have : (r + 1) * 2 ^ n ≤ 2 ^ n * 2 ^ n := Nat.mul_le_mul_right _ (by lia)
          rw [Nat.add_mul, Nat.one_mul] at this
          rw [Nat.pow_add]; lia
        have e1 : binV .LShift (nat r) (nat n) = some (nat (r * 2 ^ n)) := by
          show (if (small (r : Int) && decide ((0 : Int) ≤ (n : Int)) && decide ((n : Int) < 10000000)) = true then some ((r : Int) * 2 ^ ((n : Int)).toNat) else none).map AV.int = _
          rw [if_pos (by rw [small_of_lt (Nat.lt_trans hr hbn) (by lia), decide_eq_true (Int.natCast_nonneg _), decide_eq_true (by lia)]; rfl), Int.toNat_natCast]
          show some (AV.int _) = some (AV.int _)
          rw [Int.natCast_mul, Int.natCast_pow]; rfl
        have e2 : binV .Add (nat (r * 2 ^ n)) (nat d) = some (nat (r * 2 ^ n + d)) := by
          show some (AV.int (((r * 2 ^ n : Nat) : Int) + (d : Int))) = _
          rw [← Int.natCast_add]
        have e3 := div_nat (r * 2 ^ n + d) b n hb hs hv (by lia)
        refine (seqF_next (sl' := [.val (nat a), .val (nat b), .val (nat n), .val (.lst (nats ds)), .val (nat ((r * 2 ^ n + d) % b)), .mls (nats qs), .val (nat d), .val (nat ((r * 2 ^ n + d) / b)), .unset]) ?_).trans ?_
        · refine unpackF_eq (xs := [nat ((r * 2 ^ n + d) / b), nat ((r * 2 ^ n + d) % b)]) ?_ rfl
          show ((((binV .LShift (nat r) (nat n)).bind fun a => binV .Add a (nat d)).bind fun v => some [v, nat b, nat n]).bind fun avs => divV (freezeL avs)).bind tupOf = _
          rw [e1, Option.bind_some, e2, Option.bind_some, Option.bind_some, show freezeL [nat (r * 2 ^ n + d), nat b, nat n] = [nat (r * 2 ^ n + d), nat b, nat n] from rfl, e3]
          rfl
        · refine (seqF_next (sl' := [.val (nat a), .val (nat b), .val (nat n), .val (.lst (nats ds)), .val (nat ((r * 2 ^ n + d) % b)), .mls (nats (qs ++ [(r * 2 ^ n + d) / b])), .val (nat d), .val (nat ((r * 2 ^ n + d) / b)), .unset]) ?_).trans rfl
          show (if _ ∧ (nats qs).length < 1000000 then some (Fl.next, _) else none) = _
          rw [if_pos ⟨rfl, by simp [nats, intL]; lia⟩]
          simp [nats, intL])
      ds.reverse 0 [] .unset .unset hb (fun d hd => hdl d (by simpa using hd)) (by simp; lia)
  have n2i : d2iV [.lst (nats (ldiv n b ds.reverse 0 []).2.reverse), nat n] = some (nat (a / b)) := by
    show ((asInts (nats (ldiv n b ds.reverse 0 []).2.reverse)).bind fun ds => _) = _
    rw [asInts_nats, Option.bind_some, map_ofNat_toNat, Int.toNat_natCast, sp2, if_pos]
    refine ⟨?_, by lia, ?_, ?_⟩
    · rw [List.all_eq_true]
      intro x hx
      obtain ⟨q, hq, rfl⟩ := List.mem_map.mp hx
      refine decide_eq_true ⟨Int.natCast_nonneg q, ?_⟩
      show q < _
      exact sp3 q (by simpa using hq)
    · rw [List.length_map, List.length_reverse, sp4, hdlen]; exact h1
    · rw [List.length_map, List.length_reverse, sp4, hdlen]; exact h2
  refine ⟨[.val (nat a), .val (nat b), .val (nat n), .val (.lst (nats ds)), .val (nat (a % b)), .mls (nats (ldiv n b ds.reverse 0 []).2.reverse), s6, s7, .val (nat (a / b))], ?_⟩
  rw [sp1] at loop
  unfold dmp_ pk
  dsimp only
  refine (seqF_next (sl' := [.val (nat a), .val (nat b), .val (nat n), .unset, .unset, .unset, .unset, .unset, .unset]) ?_).trans ?_
  · refine setF_eq (av := nat n) ?_ rfl rfl
    show some (AV.int (Builtin.Int.intBits (b : Int) : Int)) = _
    rw [hN]
  refine (seqF_next (sl' := [.val (nat a), .val (nat b), .val (nat n), .val (.lst (nats ds)), .unset, .unset, .unset, .unset, .unset]) ?_).trans ?_
  · exact setF_eq (av := .lst (nats ds)) i2 (firm_intL _) rfl
  refine (seqF_next (sl' := [.val (nat a), .val (nat b), .val (nat n), .val (.lst (nats ds)), .val (nat 0), .unset, .unset, .unset, .unset]) ?_).trans ?_
  · exact setF_eq (av := nat 0) rfl rfl rfl
  refine (seqF_next (sl' := [.val (nat a), .val (nat b), .val (nat n), .val (.lst (nats ds)), .val (nat 0), .mls (nats []), .unset, .unset, .unset]) rfl).trans ?_
  refine (seqF_next (sl' := [.val (nat a), .val (nat b), .val (nat n), .val (.lst (nats ds)), .val (nat (a % b)), .mls (nats (ldiv n b ds.reverse 0 []).2), s6, s7, .unset]) ?_).trans ?_
  · show forF 6 _ (nats ds).reverse _ = _
    rw [show (nats ds).reverse = nats ds.reverse by simp [nats, intL]]
    exact loop
  refine (seqF_next (sl' := [.val (nat a), .val (nat b), .val (nat n), .val (.lst (nats ds)), .val (nat (a % b)), .mls (nats (ldiv n b ds.reverse 0 []).2.reverse), s6, s7, .unset]) ?_).trans ?_
  · show (if (nats (ldiv n b ds.reverse 0 []).2).length < 1000000 then some (Fl.next, _) else none) = _
    rw [if_pos (by simp [nats, intL, sp4, hdlen]; lia)]
    simp [nats, intL]
  refine (seqF_next (sl' := [.val (nat a), .val (nat b), .val (nat n), .val (.lst (nats ds)), .val (nat (a % b)), .mls (nats (ldiv n b ds.reverse 0 []).2.reverse), s6, s7, .val (nat (a / b))]) ?_).trans ?_
  · refine setF_eq (av := nat (a / b)) ?_ rfl rfl
    show d2iV [AV.lst (freezeL (nats (ldiv n b ds.reverse 0 []).2.reverse)), nat n] = _
    rw [show freezeL (nats (ldiv n b ds.reverse 0 []).2.reverse) = nats (ldiv n b ds.reverse 0 []).2.reverse from freeze_intL _]
    exact n2i
  · rfl
set_option tactic.hygienic true in
theorem dmp_eq (avs : List AV) (r : AV) (h : dmpV avs = some r) : callV dmp_.1 nDmp.length 2 avs = some r := by
  unfold dmpV at h
  split at h
  · next a b =>
    split at h
    · next hc =>
      cases h
      obtain ⟨ha, hb, hs, h1, h2, h3⟩ := hc
      have ea : ((a.toNat : Nat) : Int) = a := by lia
      have eb : ((b.toNat : Nat) : Int) = b := by lia
      obtain ⟨sl', e⟩ := dmp_nat a.toNat b.toNat (by lia) (by rw [eb]; exact hs) (by rw [eb, ea]; exact h1) (by rw [eb, ea]; exact h2) (by rw [eb]; exact h3)
      rw [show nat a.toNat = .int a by show AV.int _ = _; rw [ea], show nat b.toNat = .int b by show AV.int _ = _; rw [eb]] at e
      exact call_ret rfl rfl e rfl
    · cases h
  · cases h
theorem dmp_fn (G : Gl) (o : Ok1 G) : Fn G "_divmod_pos" 32 dmpV :=
  Ok1.contract dmp_ok (rec_mem "_divmod_pos" (by kernel_rfl)).1 (rec_mem "_divmod_pos" (by kernel_rfl)).2 dmp_ dmp_eq G o
end Mine
end

section
open PySem PySem.W PyProof.Rows
set_option Elab.async false
set_option tactic.hygienic false
set_option maxRecDepth 100000
set_option autoImplicit false
set_option linter.unusedVariables false
namespace Mine
noncomputable def dIdm : DefRec := recAt "int_divmod"
noncomputable def nIdm : List Str := ["a", "b", "q", "r"]
theorem idm_ok : DefOk dIdm ["a", "b"] nIdm where
  bind := fun pm code doc vals h => by
    obtain ⟨a, b, rfl⟩ := vlen2 h
    kernel_rfl
  pre := rfl
  nodup := by decide +kernel
  kinds := by decide +kernel
  free := by decide +kernel
  co := by kernel_rfl
  gen := by kernel_rfl
  fn := by kernel_rfl
set_option maxHeartbeats 4000000 in
noncomputable def idm1_ : {f : SF // ∀ G, Ok1 G → SsS G 32 nIdm dIdm.scope.names dIdm.body f} :=
    pk fun G o => (SsS.cons (StS.ite (fun W => (TsS.cmp (EvS.var (i := 1) (by rfl) (by decide +kernel) (by decide +kernel)) EvS.int (by rfl)))
 SsS.never
 (SsS.cons (StS.ite (fun W => (TsS.cmp (EvS.var (i := 1) (by rfl) (by decide +kernel) (by decide +kernel)) EvS.int (by rfl)))
 SsS.never
 (SsS.cons (StS.ite (fun W => (TsS.cmp (EvS.var (i := 0) (by rfl) (by decide +kernel) (by decide +kernel)) EvS.int (by rfl)))
 SsS.never
 (SsS.cons (StS.retNew fun W => (EvB.call (dmp_fn G o) (by decide) (by decide +kernel) (by decide +kernel) (EvL.cons (EvS.var (i := 0) (by rfl) (by decide +kernel) (by decide +kernel)) (EvL.cons (EvS.var (i := 1) (by rfl) (by decide +kernel) (by decide +kernel)) EvL.nil (by rfl)) (by rfl)) (by rfl)))
 SsS.nil))
 SsS.nil))
 SsS.nil))
 SsS.nil)
theorem ifF_true {c : List Slot → Option AV} {f g : SF} {sl : List Slot} {a : AV} (h : c sl = some a) (ht : truth a = some true) : ifF c f g sl = f sl := by unfold ifF; rw [h, Option.bind_some, ht]; rfl
theorem ifF_false {c : List Slot → Option AV} {f g : SF} {sl : List Slot} {a : AV} (h : c sl = some a) (ht : truth a = some false) : ifF c f g sl = g sl := by unfold ifF; rw [h, Option.bind_some, ht]; rfl
theorem truth_b (b : Bool) : truth (.bool b) = some b := rfl
theorem eq0 (b : Int) : (Option.map AV.bool (cmpV .Eq (.int b) (.int 0))) = some (.bool (b == 0)) := rfl
theorem lt0 (b : Int) : (Option.map AV.bool (cmpV .Lt (.int b) (.int 0))) = some (.bool (decide (b < 0))) := rfl
noncomputable abbrev dmpOk (a b : Int) : Prop := small b = true ∧ Builtin.Int.intBits b * ndig a (Builtin.Int.intBits b) ≤ 3999 ∧ ndig a (Builtin.Int.intBits b) ≤ 30 ∧ Builtin.Int.intBits b ≤ 3900
theorem dmpV_eq {a b : Int} (ha : 0 ≤ a) (hb : 1 ≤ b) (h : dmpOk a b) : dmpV [.int a, .int b] = some (.tup [.int (a / b), .int (a % b)]) := by
  show (if 0 ≤ a ∧ 1 ≤ b ∧ small b = true ∧ Builtin.Int.intBits b * ndig a (Builtin.Int.intBits b) ≤ 3999 ∧ ndig a (Builtin.Int.intBits b) ≤ 30 ∧ Builtin.Int.intBits b ≤ 3900 then some (AV.tup [nat (a.toNat / b.toNat), nat (a.toNat % b.toNat)]) else none) = _
  rw [if_pos ⟨ha, hb, h⟩]
  congr 3
  · show AV.int _ = _
    rw [Int.natCast_ediv, Int.toNat_of_nonneg ha, Int.toNat_of_nonneg (by lia)]
  · congr 1
    show AV.int _ = _
    rw [Int.natCast_emod, Int.toNat_of_nonneg ha, Int.toNat_of_nonneg (by lia)]
noncomputable def idm1V : List AV → Option AV
  | [.int a, .int b] => if 0 ≤ a ∧ 1 ≤ b ∧ dmpOk a b then some (.tup [.int (a / b), .int (a % b)]) else none
  | _ => none
set_option tactic.hygienic true in
theorem idm1_eq (avs : List AV) (r : AV) (h : idm1V avs = some r) : callV idm1_.1 nIdm.length 2 avs = some r := by
  unfold idm1V at h
  split at h
  · next a b =>
    split at h
    · next hc =>
      cases h
      obtain ⟨ha, hb, hg⟩ := hc
      refine call_ret (sl' := [.val (.int a), .val (.int b), .unset, .unset]) rfl rfl ?_ rfl
      show idm1_.1 [.val (.int a), .val (.int b), .unset, .unset] = _
      unfold idm1_ pk
      dsimp only
      refine seqF_ret ((ifF_false (eq0 b) (by rw [show (b == 0) = false by simp; lia]; rfl)).trans (seqF_ret ((ifF_false (lt0 b) (by rw [decide_eq_false (by lia)]; rfl)).trans (seqF_ret ((ifF_false (lt0 a) (by rw [decide_eq_false (by lia)]; rfl)).trans (seqF_ret ?_))))))
      show ((((dmpV [.int a, .int b]).bind newOnly).bind flatLV).map _) = _
      rw [dmpV_eq ha hb hg]; rfl
    · cases h
  · cases h
theorem idm1_fn (G : Gl) (o : Ok1 G) : Fn G "int_divmod" 33 idm1V :=
  Ok1.contract idm_ok (rec_mem "int_divmod" (by kernel_rfl)).1 (rec_mem "int_divmod" (by kernel_rfl)).2 idm1_ idm1_eq G o
set_option maxHeartbeats 4000000 in
noncomputable def idm2_ : {f : SF // ∀ G, Ok1 G → SsS G 33 nIdm dIdm.scope.names dIdm.body f} :=
    pk fun G o => (SsS.cons (StS.ite (fun W => (TsS.cmp (EvS.var (i := 1) (by rfl) (by decide +kernel) (by decide +kernel)) EvS.int (by rfl)))
 SsS.never
 (SsS.cons (StS.ite (fun W => (TsS.cmp (EvS.var (i := 1) (by rfl) (by decide +kernel) (by decide +kernel)) EvS.int (by rfl)))
 SsS.never
 (SsS.cons (StS.ite (fun W => (TsS.cmp (EvS.var (i := 0) (by rfl) (by decide +kernel) (by decide +kernel)) EvS.int (by rfl)))
 (SsS.cons (StS.unpack (is := [2, 3]) (xs := [(_, _), (_, _)]) (by rfl) (by rfl) (fun W => (EvS.call (idm1_fn G o) (by decide) (by decide +kernel) (by decide +kernel) (EvL.cons (EvS.un (EvS.var (i := 0) (by rfl) (by decide +kernel) (by decide +kernel))) (EvL.cons (EvS.var (i := 1) (by rfl) (by decide +kernel) (by decide +kernel)) EvL.nil (by rfl)) (by rfl)) (by rfl))) (fun zq => by rfl) (fun zq => by rfl))
 (SsS.cons (StS.retNew fun W => (EvB.tuple (EvL.cons (EvS.un (EvS.var (i := 2) (by rfl) (by decide +kernel) (by decide +kernel))) (EvL.cons (EvS.bin (EvS.var (i := 1) (by rfl) (by decide +kernel) (by decide +kernel)) (EvS.un (EvS.var (i := 3) (by rfl) (by decide +kernel) (by decide +kernel)))) EvL.nil (by rfl)) (by rfl))))
 SsS.nil))
 (SsS.cons (StS.retNew fun W => (EvB.call (dmp_fn G o) (by decide) (by decide +kernel) (by decide +kernel) (EvL.cons (EvS.var (i := 0) (by rfl) (by decide +kernel) (by decide +kernel)) (EvL.cons (EvS.var (i := 1) (by rfl) (by decide +kernel) (by decide +kernel)) EvL.nil (by rfl)) (by rfl)) (by rfl)))
 SsS.nil))
 SsS.nil))
 SsS.nil))
 SsS.nil)

noncomputable def idm2V : List AV → Option AV
  | [.int a, .int b] => if 1 ≤ b ∧ dmpOk (if a < 0 then -a - 1 else a) b then some (.tup [.int (a / b), .int (a % b)]) else none
  | _ => none
theorem neg_div {a b : Int} (hb : 1 ≤ b) : a / b = -((-a - 1) / b) - 1 ∧ a % b = b + (-((-a - 1) % b) - 1) := by
  have h1 := Int.mul_ediv_add_emod (-a - 1) b
  have h2 := Int.emod_nonneg (-a - 1) (show b ≠ 0 by lia)
  have h3 := Int.emod_lt_of_pos (-a - 1) (show 0 < b by lia)
  refine (Int.ediv_emod_unique (by lia)).mpr ⟨?_, by lia, by lia⟩
  have e : b * (-((-a - 1) / b) - 1) = -(b * ((-a - 1) / b)) - b := by rw [Int.mul_sub, Int.mul_neg, Int.mul_one]
  rw [e]; lia
set_option tactic.hygienic true in
theorem idm2_eq (avs : List AV) (r : AV) (h : idm2V avs = some r) : callV idm2_.1 nIdm.length 2 avs = some r := by
  unfold idm2V at h
  split at h
  · next a b =>
    by_cases hc : 1 ≤ b ∧ dmpOk (if a < 0 then -a - 1 else a) b
    · rw [if_pos hc] at h
      cases h
      obtain ⟨hb, hg⟩ := hc
      by_cases ha : a < 0
      · rw [if_pos ha] at hg
        obtain ⟨e1, e2⟩ := neg_div (a := a) hb
        refine call_ret (sl' := [.val (.int a), .val (.int b), .val (.int ((-a - 1) / b)), .val (.int ((-a - 1) % b))]) rfl rfl ?_ rfl
        show idm2_.1 [.val (.int a), .val (.int b), .unset, .unset] = _
        unfold idm2_ pk
        dsimp only
        refine seqF_ret ((ifF_false (eq0 b) (by rw [show (b == 0) = false by simp; lia]; rfl)).trans (seqF_ret ((ifF_false (lt0 b) (by rw [decide_eq_false (by lia)]; rfl)).trans (seqF_ret ((ifF_true (lt0 a) (by rw [decide_eq_true (by lia)]; rfl)).trans ?_)))))
        refine (seqF_next (sl' := [.val (.int a), .val (.int b), .val (.int ((-a - 1) / b)), .val (.int ((-a - 1) % b))]) ?_).trans ?_
        · refine unpackF_eq (xs := [.int ((-a - 1) / b), .int ((-a - 1) % b)]) ?_ rfl
          show (idm1V [.int (-a - 1), .int b]).bind tupOf = _
          show (if 0 ≤ -a - 1 ∧ 1 ≤ b ∧ dmpOk (-a - 1) b then some (AV.tup [.int ((-a - 1) / b), .int ((-a - 1) % b)]) else none).bind tupOf = _
          rw [if_pos ⟨by lia, hb, hg⟩]; rfl
        · refine seqF_ret ?_
          rw [e1, e2]; rfl
      · rw [if_neg ha] at hg
        refine call_ret (sl' := [.val (.int a), .val (.int b), .unset, .unset]) rfl rfl ?_ rfl
        show idm2_.1 [.val (.int a), .val (.int b), .unset, .unset] = _
        unfold idm2_ pk
        dsimp only
        refine seqF_ret ((ifF_false (eq0 b) (by rw [show (b == 0) = false by simp; lia]; rfl)).trans (seqF_ret ((ifF_false (lt0 b) (by rw [decide_eq_false (by lia)]; rfl)).trans (seqF_ret ((ifF_false (lt0 a) (by rw [decide_eq_false (by lia)]; rfl)).trans (seqF_ret ?_))))))
        show ((((dmpV [.int a, .int b]).bind newOnly).bind flatLV).map _) = _
        rw [dmpV_eq (by lia) hb hg]; rfl
    · rw [if_neg hc] at h; cases h
  · cases h
theorem idm2_fn (G : Gl) (o : Ok1 G) : Fn G "int_divmod" 34 idm2V :=
  Ok1.contract idm_ok (rec_mem "int_divmod" (by kernel_rfl)).1 (rec_mem "int_divmod" (by kernel_rfl)).2 idm2_ idm2_eq G o
set_option maxHeartbeats 4000000 in
noncomputable def idm3_ : {f : SF // ∀ G, Ok1 G → SsS G 34 nIdm dIdm.scope.names dIdm.body f} :=
    pk fun G o => (SsS.cons (StS.ite (fun W => (TsS.cmp (EvS.var (i := 1) (by rfl) (by decide +kernel) (by decide +kernel)) EvS.int (by rfl)))
 SsS.never
 (SsS.cons (StS.ite (fun W => (TsS.cmp (EvS.var (i := 1) (by rfl) (by decide +kernel) (by decide +kernel)) EvS.int (by rfl)))
 (SsS.cons (StS.unpack (is := [2, 3]) (xs := [(_, _), (_, _)]) (by rfl) (by rfl) (fun W => (EvS.call (idm2_fn G o) (by decide) (by decide +kernel) (by decide +kernel) (EvL.cons (EvS.un (EvS.var (i := 0) (by rfl) (by decide +kernel) (by decide +kernel))) (EvL.cons (EvS.un (EvS.var (i := 1) (by rfl) (by decide +kernel) (by decide +kernel))) EvL.nil (by rfl)) (by rfl)) (by rfl))) (fun zq => by rfl) (fun zq => by rfl))
 (SsS.cons (StS.retNew fun W => (EvB.tuple (EvL.cons (EvS.var (i := 2) (by rfl) (by decide +kernel) (by decide +kernel)) (EvL.cons (EvS.un (EvS.var (i := 3) (by rfl) (by decide +kernel) (by decide +kernel))) EvL.nil (by rfl)) (by rfl))))
 SsS.nil))
 (SsS.cons (StS.ite (fun W => (TsS.cmp (EvS.var (i := 0) (by rfl) (by decide +kernel) (by decide +kernel)) EvS.int (by rfl)))
 (SsS.cons (StS.unpack (is := [2, 3]) (xs := [(_, _), (_, _)]) (by rfl) (by rfl) (fun W => (EvS.call (idm2_fn G o) (by decide) (by decide +kernel) (by decide +kernel) (EvL.cons (EvS.un (EvS.var (i := 0) (by rfl) (by decide +kernel) (by decide +kernel))) (EvL.cons (EvS.var (i := 1) (by rfl) (by decide +kernel) (by decide +kernel)) EvL.nil (by rfl)) (by rfl)) (by rfl))) (fun zq => by rfl) (fun zq => by rfl))
 (SsS.cons (StS.retNew fun W => (EvB.tuple (EvL.cons (EvS.un (EvS.var (i := 2) (by rfl) (by decide +kernel) (by decide +kernel))) (EvL.cons (EvS.bin (EvS.var (i := 1) (by rfl) (by decide +kernel) (by decide +kernel)) (EvS.un (EvS.var (i := 3) (by rfl) (by decide +kernel) (by decide +kernel)))) EvL.nil (by rfl)) (by rfl))))
 SsS.nil))
 (SsS.cons (StS.retNew fun W => (EvB.call (dmp_fn G o) (by decide) (by decide +kernel) (by decide +kernel) (EvL.cons (EvS.var (i := 0) (by rfl) (by decide +kernel) (by decide +kernel)) (EvL.cons (EvS.var (i := 1) (by rfl) (by decide +kernel) (by decide +kernel)) EvL.nil (by rfl)) (by rfl)) (by rfl)))
 SsS.nil))
 SsS.nil))
 SsS.nil))
 SsS.nil)

noncomputable abbrev idmOk (a b : Int) : Prop := b ≠ 0 ∧ dmpOk (if (if b < 0 then -a else a) < 0 then -(if b < 0 then -a else a) - 1 else (if b < 0 then -a else a)) (if b < 0 then -b else b)
noncomputable def idmV : List AV → Option AV
  | [.int a, .int b] => if idmOk a b then some (.tup [.int (a.fdiv b), .int (a.fmod b)]) else none
  | _ => none
theorem neg_fdiv {a b : Int} (hb : b < 0) : a.fdiv b = -a / -b ∧ a.fmod b = -(-a % -b) := by
  have h1 : a.fdiv b = -a / -b := by
    rw [← Int.neg_fdiv_neg, Int.fdiv_eq_ediv_of_nonneg _ (by lia)]
  refine ⟨h1, ?_⟩
  have h2 := Int.mul_fdiv_add_fmod a b
  have h3 := Int.mul_ediv_add_emod (-a) (-b)
  rw [h1] at h2
  rw [Int.neg_mul] at h3
  lia
set_option tactic.hygienic true in
theorem idm3_eq (avs : List AV) (r : AV) (h : idmV avs = some r) : callV idm3_.1 nIdm.length 2 avs = some r := by
  unfold idmV at h
  split at h
  · next a b =>
    split at h
    · next hc =>
      cases h
      obtain ⟨hb0, hg⟩ := hc
      by_cases hb : b < 0
      · simp only [if_pos hb] at hg
        obtain ⟨e1, e2⟩ := neg_fdiv (a := a) hb
        refine call_ret (sl' := [.val (.int a), .val (.int b), .val (.int (-a / -b)), .val (.int (-a % -b))]) rfl rfl ?_ rfl
        show idm3_.1 [.val (.int a), .val (.int b), .unset, .unset] = _
        unfold idm3_ pk
        dsimp only
        refine seqF_ret ((ifF_false (eq0 b) (by rw [show (b == 0) = false by simp; lia]; rfl)).trans (seqF_ret ((ifF_true (lt0 b) (by rw [decide_eq_true (by lia)]; rfl)).trans ?_)))
        refine (seqF_next (sl' := [.val (.int a), .val (.int b), .val (.int (-a / -b)), .val (.int (-a % -b))]) ?_).trans ?_
        · refine unpackF_eq (xs := [.int (-a / -b), .int (-a % -b)]) ?_ rfl
          show (if 1 ≤ -b ∧ dmpOk (if -a < 0 then -(-a) - 1 else -a) (-b) then some (AV.tup [.int (-a / -b), .int (-a % -b)]) else none).bind tupOf = _
          rw [if_pos ⟨by lia, hg⟩]; rfl
        · refine seqF_ret ?_
          rw [e1, e2]; rfl
      · simp only [if_neg hb] at hg
        have hb1 : 1 ≤ b := by lia
        have e1 : a.fdiv b = a / b := Int.fdiv_eq_ediv_of_nonneg _ (by lia)
        have e2 : a.fmod b = a % b := Int.fmod_eq_emod_of_nonneg _ (by lia)
        by_cases ha : a < 0
        · rw [if_pos ha] at hg
          obtain ⟨e3, e4⟩ := neg_div (a := a) hb1
          refine call_ret (sl' := [.val (.int a), .val (.int b), .val (.int ((-a - 1) / b)), .val (.int ((-a - 1) % b))]) rfl rfl ?_ rfl
          show idm3_.1 [.val (.int a), .val (.int b), .unset, .unset] = _
          unfold idm3_ pk
          dsimp only
          refine seqF_ret ((ifF_false (eq0 b) (by rw [show (b == 0) = false by simp; lia]; rfl)).trans (seqF_ret ((ifF_false (lt0 b) (by rw [decide_eq_false (by lia)]; rfl)).trans (seqF_ret ((ifF_true (lt0 a) (by rw [decide_eq_true (by lia)]; rfl)).trans ?_)))))
          refine (seqF_next (sl' := [.val (.int a), .val (.int b), .val (.int ((-a - 1) / b)), .val (.int ((-a - 1) % b))]) ?_).trans ?_
          · refine unpackF_eq (xs := [.int ((-a - 1) / b), .int ((-a - 1) % b)]) ?_ rfl
            show (if 1 ≤ b ∧ dmpOk (if -a - 1 < 0 then -(-a - 1) - 1 else -a - 1) b then some (AV.tup [.int ((-a - 1) / b), .int ((-a - 1) % b)]) else none).bind tupOf = _
            rw [if_neg (show ¬ -a - 1 < 0 by lia), if_pos ⟨by lia, hg⟩]; rfl
          · refine seqF_ret ?_
            rw [e1, e2, e3, e4]; rfl
        · rw [if_neg ha] at hg
          refine call_ret (sl' := [.val (.int a), .val (.int b), .unset, .unset]) rfl rfl ?_ rfl
          show idm3_.1 [.val (.int a), .val (.int b), .unset, .unset] = _
          unfold idm3_ pk
          dsimp only
          refine seqF_ret ((ifF_false (eq0 b) (by rw [show (b == 0) = false by simp; lia]; rfl)).trans (seqF_ret ((ifF_false (lt0 b) (by rw [decide_eq_false (by lia)]; rfl)).trans (seqF_ret ((ifF_false (lt0 a) (by rw [decide_eq_false (by lia)]; rfl)).trans (seqF_ret ?_))))))
          show ((((dmpV [.int a, .int b]).bind newOnly).bind flatLV).map _) = _
          rw [dmpV_eq (by lia) hb1 hg, e1, e2]; rfl
    · cases h
  · cases h
theorem idm_fn (G : Gl) (o : Ok1 G) : Fn G "int_divmod" 35 idmV :=
  Ok1.contract idm_ok (rec_mem "int_divmod" (by kernel_rfl)).1 (rec_mem "int_divmod" (by kernel_rfl)).2 idm3_ idm3_eq G o
end Mine
end

section
open PySem PySem.W PyProof.Rows
set_option Elab.async false
set_option tactic.hygienic false
set_option maxRecDepth 100000
set_option autoImplicit false
set_option linter.unusedVariables false
namespace Mine
noncomputable def dLev : DefRec := recAt "_levenshtein_distance"
noncomputable def nLev : List Str := ["a", "b", "max_cost", "pre", "post", "row", "result", "bindex", "bchar", "distance", "minimum", "index", "substitute", "insert_delete"]
set_option maxHeartbeats 4000000 in
noncomputable def lev_ : {f : SF // ∀ G, Ok1 G → SsS G 1 nLev dLev.scope.names dLev.body f} :=
    pk fun G o => (SsS.cons (StS.ite (fun W => (TsS.cmp (EvS.var (i := 0) (by rfl) (by decide +kernel) (by decide +kernel)) (EvS.var (i := 1) (by rfl) (by decide +kernel) (by decide +kernel)) (by rfl)))
 (SsS.cons (StS.ret fun W => EvS.int)
 SsS.nil)
 SsS.nil)
 (SsS.cons (StS.assign (i := 3) (by rfl) (fun W => EvS.int) (fun zq => by rfl))
 (SsS.cons (StS.while 30 (fun W => (TsS.and (TsS.value (EvS.slice (EvS.var (i := 0) (by rfl) (by decide +kernel) (by decide +kernel)) (EvP.yes (EvS.var (i := 3) (by rfl) (by decide +kernel) (by decide +kernel))) EvP.no (by rfl)) (fun zq zq => by rfl)) (TsS.and (TsS.value (EvS.slice (EvS.var (i := 1) (by rfl) (by decide +kernel) (by decide +kernel)) (EvP.yes (EvS.var (i := 3) (by rfl) (by decide +kernel) (by decide +kernel))) EvP.no (by rfl)) (fun zq zq => by rfl)) (TsS.one (TsS.cmp (EvS.idx (EvS.var (i := 0) (by rfl) (by decide +kernel) (by decide +kernel)) (EvS.var (i := 3) (by rfl) (by decide +kernel) (by decide +kernel)) (by rfl)) (EvS.idx (EvS.var (i := 1) (by rfl) (by decide +kernel) (by decide +kernel)) (EvS.var (i := 3) (by rfl) (by decide +kernel) (by decide +kernel)) (by rfl)) (by rfl))))))
 (SsS.cons (StS.aug (i := 3) (by rfl) (fun W => EvS.int))
 SsS.nil))
 (SsS.cons (StS.assign (i := 0) (by rfl) (fun W => (EvS.slice (EvS.var (i := 0) (by rfl) (by decide +kernel) (by decide +kernel)) (EvP.yes (EvS.var (i := 3) (by rfl) (by decide +kernel) (by decide +kernel))) EvP.no (by rfl))) (fun zq => by rfl))
 (SsS.cons (StS.assign (i := 1) (by rfl) (fun W => (EvS.slice (EvS.var (i := 1) (by rfl) (by decide +kernel) (by decide +kernel)) (EvP.yes (EvS.var (i := 3) (by rfl) (by decide +kernel) (by decide +kernel))) EvP.no (by rfl))) (fun zq => by rfl))
 (SsS.cons (StS.assign (i := 4) (by rfl) (fun W => EvS.int) (fun zq => by rfl))
 (SsS.cons (StS.while 30 (fun W => (TsS.and (TsS.value (EvS.slice (EvS.var (i := 0) (by rfl) (by decide +kernel) (by decide +kernel)) EvP.no (EvP.yes (EvS.or (EvS.var (i := 4) (by rfl) (by decide +kernel) (by decide +kernel)) (EvS.one EvS.none))) (by rfl)) (fun zq zq => by rfl)) (TsS.and (TsS.value (EvS.slice (EvS.var (i := 1) (by rfl) (by decide +kernel) (by decide +kernel)) EvP.no (EvP.yes (EvS.or (EvS.var (i := 4) (by rfl) (by decide +kernel) (by decide +kernel)) (EvS.one EvS.none))) (by rfl)) (fun zq zq => by rfl)) (TsS.one (TsS.cmp (EvS.idx (EvS.var (i := 0) (by rfl) (by decide +kernel) (by decide +kernel)) (EvS.bin (EvS.var (i := 4) (by rfl) (by decide +kernel) (by decide +kernel)) EvS.int) (by rfl)) (EvS.idx (EvS.var (i := 1) (by rfl) (by decide +kernel) (by decide +kernel)) (EvS.bin (EvS.var (i := 4) (by rfl) (by decide +kernel) (by decide +kernel)) EvS.int) (by rfl)) (by rfl))))))
 (SsS.cons (StS.aug (i := 4) (by rfl) (fun W => EvS.int))
 SsS.nil))
 (SsS.cons (StS.assign (i := 0) (by rfl) (fun W => (EvS.slice (EvS.var (i := 0) (by rfl) (by decide +kernel) (by decide +kernel)) EvP.no (EvP.yes (EvS.or (EvS.var (i := 4) (by rfl) (by decide +kernel) (by decide +kernel)) (EvS.one EvS.none))) (by rfl))) (fun zq => by rfl))
 (SsS.cons (StS.assign (i := 1) (by rfl) (fun W => (EvS.slice (EvS.var (i := 1) (by rfl) (by decide +kernel) (by decide +kernel)) EvP.no (EvP.yes (EvS.or (EvS.var (i := 4) (by rfl) (by decide +kernel) (by decide +kernel)) (EvS.one EvS.none))) (by rfl))) (fun zq => by rfl))
 (SsS.cons (StS.ite (fun W => (TsS.or (TsS.not (TsS.value (EvS.var (i := 0) (by rfl) (by decide +kernel) (by decide +kernel)) (fun zq zq => by rfl))) (TsS.one (TsS.not (TsS.value (EvS.var (i := 1) (by rfl) (by decide +kernel) (by decide +kernel)) (fun zq zq => by rfl))))))
 (SsS.cons (StS.ret fun W => (EvS.bin (EvS.gint (i := 2) (by decide +kernel) (by rw [o.q]; kernel_rfl) (by decide +kernel)) (EvS.bin (EvS.len (by decide +kernel) (o.noName _ (by kernel_rfl)) (EvL.cons (EvS.var (i := 0) (by rfl) (by decide +kernel) (by decide +kernel)) EvL.nil (by rfl)) (by rfl)) (EvS.len (by decide +kernel) (o.noName _ (by kernel_rfl)) (EvL.cons (EvS.var (i := 1) (by rfl) (by decide +kernel) (by decide +kernel)) EvL.nil (by rfl)) (by rfl)))))
 SsS.nil)
 SsS.nil)
 (SsS.cons (StS.ite (fun W => (TsS.or (TsS.cmp (EvS.len (by decide +kernel) (o.noName _ (by kernel_rfl)) (EvL.cons (EvS.var (i := 0) (by rfl) (by decide +kernel) (by decide +kernel)) EvL.nil (by rfl)) (by rfl)) (EvS.gint (i := 40) (by decide +kernel) (by rw [o.q]; kernel_rfl) (by decide +kernel)) (by rfl)) (TsS.one (TsS.cmp (EvS.len (by decide +kernel) (o.noName _ (by kernel_rfl)) (EvL.cons (EvS.var (i := 1) (by rfl) (by decide +kernel) (by decide +kernel)) EvL.nil (by rfl)) (by rfl)) (EvS.gint (i := 40) (by decide +kernel) (by rw [o.q]; kernel_rfl) (by decide +kernel)) (by rfl)))))
 (SsS.cons (StS.ret fun W => (EvS.bin (EvS.var (i := 2) (by rfl) (by decide +kernel) (by decide +kernel)) EvS.int))
 SsS.nil)
 SsS.nil)
 (SsS.cons (StS.ite (fun W => (TsS.cmp (EvS.len (by decide +kernel) (o.noName _ (by kernel_rfl)) (EvL.cons (EvS.var (i := 1) (by rfl) (by decide +kernel) (by decide +kernel)) EvL.nil (by rfl)) (by rfl)) (EvS.len (by decide +kernel) (o.noName _ (by kernel_rfl)) (EvL.cons (EvS.var (i := 0) (by rfl) (by decide +kernel) (by decide +kernel)) EvL.nil (by rfl)) (by rfl)) (by rfl)))
 SsS.never
 SsS.nil)
 (SsS.cons (StS.ite (fun W => (TsS.cmp (EvS.bin (EvS.bin (EvS.len (by decide +kernel) (o.noName _ (by kernel_rfl)) (EvL.cons (EvS.var (i := 1) (by rfl) (by decide +kernel) (by decide +kernel)) EvL.nil (by rfl)) (by rfl)) (EvS.len (by decide +kernel) (o.noName _ (by kernel_rfl)) (EvL.cons (EvS.var (i := 0) (by rfl) (by decide +kernel) (by decide +kernel)) EvL.nil (by rfl)) (by rfl))) (EvS.gint (i := 2) (by decide +kernel) (by rw [o.q]; kernel_rfl) (by decide +kernel))) (EvS.var (i := 2) (by rfl) (by decide +kernel) (by decide +kernel)) (by rfl)))
 (SsS.cons (StS.ret fun W => (EvS.bin (EvS.var (i := 2) (by rfl) (by decide +kernel) (by decide +kernel)) EvS.int))
 SsS.nil)
 SsS.nil)
 (SsS.cons (StS.assignNew (md := 1) (i := 5) (by decide) (by rfl) (fun W => (EvB.listRange (by decide +kernel) (o.noName _ (by kernel_rfl)) (by decide +kernel) (o.noName _ (by kernel_rfl)) (EvL.cons (EvS.gint (i := 2) (by decide +kernel) (by rw [o.q]; kernel_rfl) (by decide +kernel)) (EvL.cons (EvS.bin (EvS.gint (i := 2) (by decide +kernel) (by rw [o.q]; kernel_rfl) (by decide +kernel)) (EvS.bin (EvS.len (by decide +kernel) (o.noName _ (by kernel_rfl)) (EvL.cons (EvS.var (i := 0) (by rfl) (by decide +kernel) (by decide +kernel)) EvL.nil (by rfl)) (by rfl)) EvS.int)) (EvL.cons (EvS.gint (i := 2) (by decide +kernel) (by rw [o.q]; kernel_rfl) (by decide +kernel)) EvL.nil (by rfl)) (by rfl)) (by rfl)) (by rfl) (fun zq zq => by rfl))) (fun zq => by rfl))
 (SsS.cons (StS.assign (i := 6) (by rfl) (fun W => EvS.int) (fun zq => by rfl))
 (SsS.cons (StS.for (i := 7) (by rfl) (fun W => (EvI.range (by decide +kernel) (o.noName _ (by kernel_rfl)) (EvL.cons (EvS.len (by decide +kernel) (o.noName _ (by kernel_rfl)) (EvL.cons (EvS.var (i := 1) (by rfl) (by decide +kernel) (by decide +kernel)) EvL.nil (by rfl)) (by rfl)) EvL.nil (by rfl)) (by rfl) (fun zq zq => by rfl)))
 (SsS.cons (StS.assign (i := 8) (by rfl) (fun W => (EvS.idx (EvS.var (i := 1) (by rfl) (by decide +kernel) (by decide +kernel)) (EvS.var (i := 7) (by rfl) (by decide +kernel) (by decide +kernel)) (by rfl))) (fun zq => by rfl))
 (SsS.cons (StS.assign2 (i := 9) (j := 6) (by rfl) (by rfl) (fun W => (EvS.bin (EvS.var (i := 7) (by rfl) (by decide +kernel) (by decide +kernel)) (EvS.gint (i := 2) (by decide +kernel) (by rw [o.q]; kernel_rfl) (by decide +kernel)))) (fun zq => by rfl))
 (SsS.cons (StS.assign (i := 10) (by rfl) (fun W => EvS.int) (fun zq => by rfl))
 (SsS.cons (StS.for (i := 11) (by rfl) (fun W => (EvI.range (by decide +kernel) (o.noName _ (by kernel_rfl)) (EvL.cons (EvS.len (by decide +kernel) (o.noName _ (by kernel_rfl)) (EvL.cons (EvS.var (i := 0) (by rfl) (by decide +kernel) (by decide +kernel)) EvL.nil (by rfl)) (by rfl)) EvL.nil (by rfl)) (by rfl) (fun zq zq => by rfl)))
 (SsS.cons (StS.assign (i := 12) (by rfl) (fun W => (EvS.bin (EvS.var (i := 9) (by rfl) (by decide +kernel) (by decide +kernel)) (EvS.call (sub_fn G o) (by decide) (by decide +kernel) (by decide +kernel) (EvL.cons (EvS.var (i := 8) (by rfl) (by decide +kernel) (by decide +kernel)) (EvL.cons (EvS.idx (EvS.var (i := 0) (by rfl) (by decide +kernel) (by decide +kernel)) (EvS.var (i := 11) (by rfl) (by decide +kernel) (by decide +kernel)) (by rfl)) EvL.nil (by rfl)) (by rfl)) (by rfl)))) (fun zq => by rfl))
 (SsS.cons (StS.assign (i := 9) (by rfl) (fun W => (EvS.idx (EvS.var (i := 5) (by rfl) (by decide +kernel) (by decide +kernel)) (EvS.var (i := 11) (by rfl) (by decide +kernel) (by decide +kernel)) (by rfl))) (fun zq => by rfl))
 (SsS.cons (StS.assign (i := 13) (by rfl) (fun W => (EvS.bin (EvS.min (by decide +kernel) (o.noName _ (by kernel_rfl)) (EvL.cons (EvS.var (i := 6) (by rfl) (by decide +kernel) (by decide +kernel)) (EvL.cons (EvS.var (i := 9) (by rfl) (by decide +kernel) (by decide +kernel)) EvL.nil (by rfl)) (by rfl)) (by rfl) (fun zq zq => by rfl)) (EvS.gint (i := 2) (by decide +kernel) (by rw [o.q]; kernel_rfl) (by decide +kernel)))) (fun zq => by rfl))
 (SsS.cons (StS.assign (i := 6) (by rfl) (fun W => (EvS.min (by decide +kernel) (o.noName _ (by kernel_rfl)) (EvL.cons (EvS.var (i := 13) (by rfl) (by decide +kernel) (by decide +kernel)) (EvL.cons (EvS.var (i := 12) (by rfl) (by decide +kernel) (by decide +kernel)) EvL.nil (by rfl)) (by rfl)) (by rfl) (fun zq zq => by rfl))) (fun zq => by rfl))
 (SsS.cons (StS.setItem (i := 5) (by rfl) (by decide +kernel) (fun W => (EvS.var (i := 11) (by rfl) (by decide +kernel) (by decide +kernel))) (fun W => (EvS.var (i := 6) (by rfl) (by decide +kernel) (by decide +kernel))) (fun zq => by rfl))
 (SsS.cons (StS.ite (fun W => (TsS.cmp (EvS.var (i := 6) (by rfl) (by decide +kernel) (by decide +kernel)) (EvS.var (i := 10) (by rfl) (by decide +kernel) (by decide +kernel)) (by rfl)))
 (SsS.cons (StS.assign (i := 10) (by rfl) (fun W => (EvS.var (i := 6) (by rfl) (by decide +kernel) (by decide +kernel))) (fun zq => by rfl))
 SsS.nil)
 SsS.nil)
 SsS.nil)))))) (fun zq zq => by rfl))
 (SsS.cons (StS.ite (fun W => (TsS.cmp (EvS.var (i := 10) (by rfl) (by decide +kernel) (by decide +kernel)) (EvS.var (i := 2) (by rfl) (by decide +kernel) (by decide +kernel)) (by rfl)))
 (SsS.cons (StS.ret fun W => (EvS.bin (EvS.var (i := 2) (by rfl) (by decide +kernel) (by decide +kernel)) EvS.int))
 SsS.nil)
 SsS.nil)
 SsS.nil))))) (fun zq zq => by rfl))
 (SsS.cons (StS.ret fun W => (EvS.var (i := 6) (by rfl) (by decide +kernel) (by decide +kernel)))
 SsS.nil)))))))))))))))))
theorem lev_ok : DefOk dLev ["a", "b", "max_cost"] nLev where
  bind := fun pm code doc vals h => by
    obtain ⟨a, b, c, rfl⟩ := vlen3 h
    kernel_rfl
  pre := rfl
  nodup := by decide +kernel
  kinds := by decide +kernel
  free := by decide +kernel
  co := by kernel_rfl
  gen := by kernel_rfl
  fn := by kernel_rfl
end Mine
end

section
open PySem PySem.W PyProof.Rows
set_option Elab.async false
set_option tactic.hygienic false
namespace Mine
noncomputable abbrev txt (l : List Nat) : Str := ⟨l.toArray⟩
theorem txt_len (l : List Nat) : (txt l).length = l.length := by show l.toArray.size = _; simp
theorem filterMap_range' (l : List Nat) : ∀ (k a : Nat), a + k ≤ l.length → (List.range' a k).filterMap (l.toArray[·]?) = (l.drop a).take k
  | 0, a, _ => by simp
  | k + 1, a, h => by
    have ha : a < l.length := by lia
    rw [List.range'_succ, List.filterMap_cons]
    have e : l.toArray[a]? = some l[a] := by simp [ha]
    rw [e]
    simp only []
    rw [filterMap_range' l k (a + 1) (by lia), List.drop_eq_getElem_cons ha, List.take_succ_cons]
theorem slice_idx (lo hi : Option Int) (n : Nat) : Builtin.Str.strSliceIndices lo hi 1 n = List.range' (lo.elim 0 (clipAt n)) (hi.elim n (clipAt n) - lo.elim 0 (clipAt n)) := by
  have e1 : ∀ (d : Nat) (v : Option Int), (match v with | none => (d : Int) | some i => (let i := if i < 0 then i + (n : Int) else i; if (1 : Int) > 0 then max 0 (min i (n : Int)) else max (-1) (min i ((n : Int) - 1)))) = ((v.elim d (clipAt n) : Nat) : Int) := by
    intro d v
    cases v with
    | none => rfl
    | some i => show _ = ((clipAt n i : Nat) : Int); rw [clipAt_cast]; rfl
  have e0 := e1 0 lo
  have e2 := e1 n hi
  unfold Builtin.Str.strSliceIndices
  simp only [show (1 : Int) > 0 by decide, if_true] at *
  have : sliceRange ((lo.elim 0 (clipAt n) : Nat) : Int) ((hi.elim n (clipAt n) : Nat) : Int) 1 = List.range' (lo.elim 0 (clipAt n)) (hi.elim n (clipAt n) - lo.elim 0 (clipAt n)) := by
    generalize lo.elim 0 (clipAt n) = a
    generalize hi.elim n (clipAt n) = b
    unfold sliceRange
    simp only [show (1 : Int) > 0 by decide, if_true]
    have hc : (if (a : Int) < (b : Int) then ((b : Int) - a + 1 - 1) / 1 else 0).toNat = b - a := by
      split
      · rw [Int.ediv_one]; lia
      · lia
    rw [hc, List.range'_eq_map_range]
    refine List.map_congr_left fun k zq => ?_
    lia
  rw [← this]
  congr 1
theorem txt_slice (l : List Nat) (lo hi : Option Int) : Txt.slice (txt l) lo hi = txt ((l.drop (lo.elim 0 (clipAt l.length))).take (hi.elim l.length (clipAt l.length) - lo.elim 0 (clipAt l.length))) := by
  have hle : ∀ i, clipAt l.length i ≤ l.length := fun i => by have := clipAt_cast l.length i; lia
  have ha : lo.elim 0 (clipAt l.length) ≤ l.length := by cases lo with | none => exact Nat.zero_le _ | some i => exact hle i
  have hb : hi.elim l.length (clipAt l.length) ≤ l.length := by cases hi with | none => exact Nat.le_refl _ | some i => exact hle i
  unfold Txt.slice
  rw [txt_len, slice_idx]
  generalize lo.elim 0 (clipAt l.length) = a at *
  generalize hi.elim l.length (clipAt l.length) = b at *
  split
  · next h =>
    simp only [List.length_range', beq_self_eq_true, Bool.true_and, beq_iff_eq] at h
    have h1 : a = 0 ∨ l.length = 0 := by lia
    have : (l.drop a).take (b - a) = l := by
      rcases h1 with h1 | h1
      · subst h1; rw [List.drop_zero]; exact List.take_of_length_le (by lia)
      · have : l = [] := List.length_eq_zero_iff.mp h1
        subst this; simp
    rw [this]
  · next h =>
    show (⟨(List.filterMap (l.toArray[·]?) _).toArray⟩ : Str) = _
    by_cases hab : a ≤ b
    · rw [filterMap_range' l (b - a) a (by lia)]
    · rw [show b - a = 0 by lia]; simp
end Mine
end

section
open PySem
set_option Elab.async false
set_option tactic.hygienic false
namespace Mine
noncomputable def inn : List Nat → List Nat → Nat → Nat → Nat → List Nat × Nat × Nat
  | c :: cs, d :: row, dist, res, mn =>
    let r := min (min res d + 2) (dist + c)
    let q := inn cs row d r (if r < mn then r else mn)
    (r :: q.1, q.2)
  | _, _, _, res, mn => ([], res, mn)
noncomputable def BIGN : Nat := 9223372036854775807
noncomputable def levOuter (c : Nat → Nat → Nat) (as : List Nat) (mx : Nat) : List Nat → Nat → List Nat → Nat → Nat
  | [], _, _, res => res
  | b :: bs, j, row, _ =>
    let q := inn (as.map (c b)) row (2 * j) (2 * j) BIGN
    if mx < q.2.2 then mx + 1 else levOuter c as mx bs (j + 1) q.1 q.2.1
noncomputable def levDP (c : Nat → Nat → Nat) (as bs : List Nat) (mx : Nat) : Nat := levOuter c as mx bs 0 ((List.range as.length).map fun i => 2 + 2 * i) 0

noncomputable def cpl : List Nat → List Nat → Nat
  | x :: a, y :: b => if x = y then cpl a b + 1 else 0
  | _, _ => 0
noncomputable def lev (c : Nat → Nat → Nat) (a b : List Nat) (mx : Nat) : Nat :=
  if a = b then 0 else
    let p := cpl a b
    let a1 := a.drop p
    let b1 := b.drop p
    let q := cpl a1.reverse b1.reverse
    levDP c (a1.take (a1.length - q)) (b1.take (b1.length - q)) mx

noncomputable def sumTo (w : Nat → Nat) : Nat → Nat
  | 0 => 0
  | n + 1 => sumTo w n + w n
noncomputable def F (w : Nat → Nat) (i j : Nat) : Nat := sumTo w (min i j) + 2 * (i - j) + 2 * (j - i)
theorem F_low (w : Nat → Nat) (i d : Nat) : F w i (i + d) = sumTo w i + 2 * d := by
  unfold F
  rw [Nat.min_eq_left (Nat.le_add_right i d), Nat.sub_eq_zero_of_le (Nat.le_add_right i d), Nat.add_sub_cancel_left]; rfl
theorem F_high (w : Nat → Nat) (j d : Nat) : F w (j + d) j = sumTo w j + 2 * d := by
  unfold F
  rw [Nat.min_eq_right (Nat.le_add_right j d), Nat.sub_eq_zero_of_le (Nat.le_add_right j d), Nat.add_sub_cancel_left]; rfl
theorem min3 {a b c r : Nat} (h1 : b ≤ a) (h2 : b + 2 = r) (h3 : r ≤ c) : min (min a b + 2) c = r := by rw [Nat.min_eq_right h1, h2, Nat.min_eq_left h3]
theorem min3' {a b c r : Nat} (h1 : a ≤ b) (h2 : a + 2 = r) (h3 : r ≤ c) : min (min a b + 2) c = r := by rw [Nat.min_eq_left h1, h2, Nat.min_eq_left h3]
theorem F_step (w : Nat → Nat) (hw : ∀ i, w i ≤ 2) (i j : Nat) : min (min (F w i (j + 1)) (F w (i + 1) j) + 2) (F w i j + (if i = j then w j else 2)) = F w (i + 1) (j + 1) := by
  have hs : ∀ k, sumTo w (k + 1) = sumTo w k + w k := fun zq => rfl
  rcases Nat.lt_trichotomy i j with h | h | h
  · obtain ⟨d, rfl⟩ : ∃ d, j = i + 1 + d := ⟨j - (i + 1), by lia⟩
    rw [F_low w (i + 1) d, show i + 1 + d + 1 = i + 1 + (d + 1) from rfl, F_low w (i + 1) (d + 1), show i + 1 + (d + 1) = i + (d + 2) by lia, F_low, show i + 1 + d = i + (d + 1) by lia, F_low, if_neg (by lia), hs]
    have := hw i
    exact min3 (by lia) (by lia) (by lia)
  · subst h
    rw [F_low w i 1, F_high w i 1, if_pos rfl, show F w i i = sumTo w i + 2 * 0 from F_low w i 0, show F w (i + 1) (i + 1) = sumTo w (i + 1) + 2 * 0 from F_low w (i + 1) 0, hs, Nat.min_self]
    have := hw i
    exact Nat.min_eq_right (by lia)
  · obtain ⟨d, rfl⟩ : ∃ d, i = j + 1 + d := ⟨i - (j + 1), by lia⟩
    rw [F_high w (j + 1) d, show j + 1 + d + 1 = j + 1 + (d + 1) from rfl, F_high w (j + 1) (d + 1), show j + 1 + (d + 1) = j + (d + 2) by lia, F_high, show j + 1 + d = j + (d + 1) by lia, F_high, if_neg (by lia), hs]
    have := hw j
    exact min3' (by lia) (by lia) (by lia)
noncomputable def Wd (w : Nat → Nat) (j i k : Nat) : List Nat := (List.range' i k).map fun t => if t = j then w j else 2
noncomputable def Rw (w : Nat → Nat) (i k j : Nat) : List Nat := (List.range' i k).map fun t => F w (t + 1) j
theorem inn_spec (w : Nat → Nat) (hw : ∀ i, w i ≤ 2) (j k : Nat) : ∀ i mn : Nat, ∃ m', inn (Wd w j i k) (Rw w i k j) (F w i j) (F w i (j + 1)) mn = (Rw w i k (j + 1), F w (i + k) (j + 1), m') ∧ m' ≤ mn ∧ (i ≤ j → j < i + k → m' ≤ F w (j + 1) (j + 1)) := by
  induction k with
  | zero => exact fun i mn => ⟨mn, rfl, Nat.le_refl _, fun h1 h2 => absurd h2 (Nat.not_lt.mpr h1)⟩
  | succ k ih =>
    intro i mn
    obtain ⟨m', e, h3, h4⟩ := ih (i + 1) (if F w (i + 1) (j + 1) < mn then F w (i + 1) (j + 1) else mn)
    have e0 : inn (Wd w j i (k + 1)) (Rw w i (k + 1) j) (F w i j) (F w i (j + 1)) mn = (let r := min (min (F w i (j + 1)) (F w (i + 1) j) + 2) (F w i j + (if i = j then w j else 2)); let q := inn (Wd w j (i + 1) k) (Rw w (i + 1) k j) (F w (i + 1) j) r (if r < mn then r else mn); (r :: q.1, q.2)) := rfl
    rw [F_step w hw i j] at e0
    rw [show i + (k + 1) = i + 1 + k by lia]
    refine ⟨m', by rw [e0]; dsimp only; rw [e]; rfl, Nat.le_trans h3 (by split <;> lia), fun a b => ?_⟩
    by_cases h : i = j
    · subst h
      refine Nat.le_trans h3 ?_
      split
      · exact Nat.le_refl _
      · next h => exact Nat.not_lt.mp h
    · exact h4 (by lia) b
theorem sumTo_mono (w : Nat → Nat) {i j : Nat} (h : i ≤ j) : sumTo w i ≤ sumTo w j := by
  induction h with
  | refl => exact Nat.le_refl _
  | step _ ih => exact Nat.le_trans ih (Nat.le_add_right _ _)
theorem F_zero (w : Nat → Nat) (j : Nat) : F w 0 j = 2 * j := by rw [show F w 0 j = F w 0 (0 + j) by rw [Nat.zero_add], F_low]; simp [sumTo]
theorem F_diag (w : Nat → Nat) (j : Nat) : F w j j = sumTo w j := F_low w j 0
theorem min_same {a b c : Nat} (h : c ≤ 2) : min (min (a + 2) b + 2) (a + c) = min (min a b + 2) (a + c) := by
  rcases Nat.le_total b a with q | q
  · rw [Nat.min_eq_right q, Nat.min_eq_right (Nat.le_add_right_of_le q)]
  · rw [Nat.min_eq_left q, Nat.min_eq_right (Nat.add_le_add_left h a), Nat.min_eq_right]
    exact Nat.le_trans (Nat.add_le_add_left h a) (Nat.add_le_add_right (Nat.le_min.mpr ⟨Nat.le_add_right .., q⟩) 2)
theorem inn_row (w : Nat → Nat) (hw : ∀ i, w i ≤ 2) (j n : Nat) (hj : j ≤ n) : ∃ m', inn (Wd w j 0 (n + 1)) (Rw w 0 (n + 1) j) (2 * j) (2 * j) BIGN = (Rw w 0 (n + 1) (j + 1), F w (n + 1) (j + 1), m') ∧ m' ≤ sumTo w (j + 1) := by
  have first : min (min (2 * j) (F w 1 j) + 2) (2 * j + if 0 = j then w j else 2) = F w 1 (j + 1) := by
    have := F_step w hw 0 j
    rw [F_zero, F_zero] at this
    have hle : (if 0 = j then w j else 2) ≤ 2 := by
      split
      · exact hw j
      · exact Nat.le_refl _
    rw [Nat.zero_add, Nat.mul_add, min_same hle] at this
    exact this
  obtain ⟨m', e, h3, h4⟩ := inn_spec w hw j n 1 (if F w 1 (j + 1) < BIGN then F w 1 (j + 1) else BIGN)
  have e0 : inn (Wd w j 0 (n + 1)) (Rw w 0 (n + 1) j) (2 * j) (2 * j) BIGN = (let r := min (min (2 * j) (F w 1 j) + 2) (2 * j + if 0 = j then w j else 2); let q := inn (Wd w j 1 n) (Rw w 1 n j) (F w 1 j) r (if r < BIGN then r else BIGN); (r :: q.1, q.2)) := rfl
  rw [first] at e0
  rw [Nat.add_comm 1 n] at e
  refine ⟨m', by rw [e0]; dsimp only; rw [e]; rfl, ?_⟩
  rw [← F_diag]
  by_cases h : j = 0
  · subst h
    refine Nat.le_trans h3 ?_
    split
    · exact Nat.le_refl _
    · next h => exact Nat.not_lt.mp h
  · exact h4 (by lia) (by lia)
theorem levOuter_spec (c : Nat → Nat → Nat) (as : List Nat) (w : Nat → Nat) (hw : ∀ i, w i ≤ 2) (mx : Nat) (hmx : sumTo w as.length ≤ mx) (bs : List Nat) :
    ∀ (j res : Nat), j + bs.length = as.length → (bs = [] → res = sumTo w as.length) → (∀ k b, bs[k]? = some b → as.map (c b) = Wd w (j + k) 0 as.length) →
      levOuter c as mx bs j (Rw w 0 as.length j) res = sumTo w as.length := by
  induction bs with
  | nil => exact fun j res zq hr zq => hr rfl
  | cons b bs ih =>
    intro j res hl _ hc
    rw [List.length_cons] at hl
    obtain ⟨n, hn⟩ : ∃ n, as.length = n + 1 := ⟨j + bs.length, hl.symm⟩
    obtain ⟨m', e, hm⟩ := inn_row w hw j n (by lia)
    rw [← hn] at e
    have hs : sumTo w (j + 1) ≤ mx := Nat.le_trans (sumTo_mono w (by lia)) hmx
    have e0 : levOuter c as mx (b :: bs) j (Rw w 0 as.length j) res = (let q := inn (as.map (c b)) (Rw w 0 as.length j) (2 * j) (2 * j) BIGN; if mx < q.2.2 then mx + 1 else levOuter c as mx bs (j + 1) q.1 q.2.1) := rfl
    rw [e0, hc 0 b rfl, Nat.add_zero, e]
    dsimp only
    rw [if_neg (Nat.not_lt.mpr (Nat.le_trans hm hs))]
    refine ih (j + 1) _ (by lia) (fun e => ?_) (fun k b' hk => ?_)
    · subst e
      rw [show j + 1 = as.length from hl]; exact F_diag w _
    · rw [show j + 1 + k = j + (k + 1) by lia]; exact hc (k + 1) b' hk
theorem levDP_spec (c : Nat → Nat → Nat) (as bs : List Nat) (w : Nat → Nat) (hw : ∀ i, w i ≤ 2) (mx : Nat) (hmx : sumTo w as.length ≤ mx) (hl : bs.length = as.length)
    (hc : ∀ i j a b, as[i]? = some a → bs[j]? = some b → c b a = if i = j then w j else 2) : levDP c as bs mx = sumTo w as.length := by
  unfold levDP
  have e : ((List.range as.length).map fun i => 2 + 2 * i) = Rw w 0 as.length 0 := by
    unfold Rw
    rw [List.range_eq_range']
    refine List.map_congr_left fun t zq => ?_
    unfold F; simp [sumTo]; lia
  rw [e]
  refine levOuter_spec c as w hw mx hmx bs 0 0 (by lia) (fun e => ?_) (fun k b hk => ?_)
  · subst e
    rw [← hl]; rfl
  · unfold Wd
    refine List.ext_getElem? fun i => ?_
    rw [List.getElem?_map, List.getElem?_map]
    by_cases hi : i < as.length
    · rw [List.getElem?_eq_getElem hi, List.getElem?_range' hi]
      simp only [Option.map_some, Option.some.injEq, Nat.zero_add, Nat.one_mul]
      have := hc i k as[i] b (List.getElem?_eq_getElem hi) hk
      rw [this]
    · rw [List.getElem?_eq_none (by lia), List.getElem?_eq_none (by simp; lia)]; rfl
structure WApart (c : Nat → Nat → Nat) (a b : List Nat) (w : Nat → Nat) : Prop where
  len : b.length = a.length
  two : ∀ i, w i ≤ 2
  at' : ∀ i j x y, a[i]? = some x → b[j]? = some y → c y x = if i = j then w j else 2
  zero : ∀ i x y, a[i]? = some x → b[i]? = some y → (x = y ↔ w i = 0)
theorem cpl_spec : ∀ (a b : List Nat), cpl a b ≤ a.length ∧ cpl a b ≤ b.length ∧ (∀ i, i < cpl a b → a[i]? = b[i]?) ∧ ∀ x y, a[cpl a b]? = some x → b[cpl a b]? = some y → x ≠ y
  | [], b => by simp [cpl]
  | x :: a, [] => by simp [cpl]
  | x :: a, y :: b => by
    unfold cpl
    split
    · next h =>
      obtain ⟨h1, h2, h3, h4⟩ := cpl_spec a b
      refine ⟨by simp; lia, by simp; lia, fun i hi => ?_, fun u v hu hv => ?_⟩
      · cases i with
        | zero => simp [h]
        | succ i => simpa using h3 i (by lia)
      · exact h4 u v (by simpa using hu) (by simpa using hv)
    · next h => exact ⟨Nat.zero_le _, Nat.zero_le _, fun i hi => absurd hi (by lia), fun u v hu hv => by simp at hu hv; rw [← hu, ← hv]; exact h⟩
theorem WApart.drop {c a b w} (x : WApart c a b w) (p : Nat) : WApart c (a.drop p) (b.drop p) (fun i => w (p + i)) where
  len := by simp [x.len]
  two := fun i => x.two _
  at' := fun i j u v hu hv => by
    rw [List.getElem?_drop] at hu hv
    rw [x.at' _ _ u v hu hv]
    by_cases h : i = j
    · rw [if_pos h, if_pos (by lia)]
    · rw [if_neg h, if_neg (by lia)]
  zero := fun i u v hu hv => by rw [List.getElem?_drop] at hu hv; exact x.zero _ u v hu hv
theorem WApart.take {c a b w} (x : WApart c a b w) (p : Nat) : WApart c (a.take p) (b.take p) w where
  len := by simp [x.len]
  two := x.two
  at' := fun i j u v hu hv => x.at' i j u v (by rw [List.getElem?_take] at hu; split at hu; exact hu; cases hu) (by rw [List.getElem?_take] at hv; split at hv; exact hv; cases hv)
  zero := fun i u v hu hv => x.zero i u v (by rw [List.getElem?_take] at hu; split at hu; exact hu; cases hu) (by rw [List.getElem?_take] at hv; split at hv; exact hv; cases hv)
theorem sumTo_add (w : Nat → Nat) (p : Nat) : ∀ n, sumTo w (p + n) = sumTo w p + sumTo (fun i => w (p + i)) n
  | 0 => rfl
  | n + 1 => by rw [← Nat.add_assoc]; simp only [sumTo, sumTo_add w p n]; lia
theorem sumTo_zero (w : Nat → Nat) : ∀ n, (∀ i, i < n → w i = 0) → sumTo w n = 0
  | 0, _ => rfl
  | n + 1, h => by simp only [sumTo, sumTo_zero w n fun i hi => h i (by lia), h n (by lia)]
theorem lev_spec (c : Nat → Nat → Nat) (a b : List Nat) (w : Nat → Nat) (mx : Nat) (x : WApart c a b w) (hmx : sumTo w a.length ≤ mx) : lev c a b mx = sumTo w a.length := by
  have hz : ∀ n, (∀ i, i < n → a[i]? = b[i]?) → n ≤ a.length → sumTo w n = 0 := fun n h hn => sumTo_zero w n fun i hi =>
    (x.zero i a[i] a[i] (List.getElem?_eq_getElem (by lia)) (by rw [← h i hi]; exact List.getElem?_eq_getElem (by lia))).mp rfl
  unfold lev
  split
  · next h => subst h; exact (hz a.length (fun zq zq => rfl) (Nat.le_refl _)).symm
  · dsimp only
    obtain ⟨p1, p2, p3, p4⟩ := cpl_spec a b
    generalize hp : cpl a b = p at *
    have x1 := x.drop p
    have s1 : sumTo w a.length = sumTo (fun i => w (p + i)) (a.drop p).length := by
      have := sumTo_add w p (a.length - p)
      rw [Nat.add_sub_cancel' p1, hz p p3 p1, Nat.zero_add] at this
      rw [this, List.length_drop]
    rw [s1] at hmx ⊢
    clear p4
    generalize a.drop p = a1 at *
    generalize b.drop p = b1 at *
    generalize (fun i => w (p + i)) = w1 at *
    obtain ⟨q1, q2, q3, q4⟩ := cpl_spec a1.reverse b1.reverse
    generalize cpl a1.reverse b1.reverse = q at *
    rw [List.length_reverse] at q1 q2
    have x2 := x1.take (a1.length - q)
    have hlen : (a1.take (a1.length - q)).length = a1.length - q := by rw [List.length_take]; exact Nat.min_eq_left (Nat.sub_le _ _)
    have s2 : sumTo w1 a1.length = sumTo w1 (a1.length - q) := by
      have := sumTo_add w1 (a1.length - q) q
      rw [Nat.sub_add_cancel q1] at this
      rw [this, sumTo_zero (fun i => w1 (a1.length - q + i)) q, Nat.add_zero]
      intro i hi
      have h1 : a1.length - q + i < a1.length := by lia
      have e := q3 (q - 1 - i) (by lia)
      rw [List.getElem?_reverse (by lia), List.getElem?_reverse (by have := x1.len; lia), x1.len, show a1.length - 1 - (q - 1 - i) = a1.length - q + i by lia] at e
      exact (x1.zero _ a1[a1.length - q + i] a1[a1.length - q + i] (List.getElem?_eq_getElem h1) (by rw [← e]; exact List.getElem?_eq_getElem h1)).mp rfl
    rw [x1.len]
    rw [s2] at hmx ⊢
    have := levDP_spec c (a1.take (a1.length - q)) (b1.take (a1.length - q)) w1 x2.two mx (by rw [hlen]; exact hmx) x2.len x2.at'
    rw [this, hlen]
end Mine
end

section
open PySem PySem.W PyProof.Rows
set_option Elab.async false
set_option tactic.hygienic false
set_option maxRecDepth 100000
set_option autoImplicit false
set_option linter.unusedVariables false
namespace Mine
theorem whileF_run {C : List Slot → Option AV} {f : SF} (st : Nat → List Slot) (N : Nat) (hC : ∀ p, p ≤ N → ∃ av, C (st p) = some av ∧ truth av = some (decide (p < N))) (hF : ∀ p, p < N → f (st p) = some (.next, st (p + 1))) :
    ∀ (fuel p : Nat), p ≤ N → N < p + fuel → whileF C f fuel (st p) = some (.next, st N)
  | 0, p, h, h' => absurd h' (by lia)
  | fuel + 1, p, h, h' => by
    obtain ⟨av, e1, e2⟩ := hC p h
    unfold whileF
    rw [e1, Option.bind_some, e2, Option.bind_some]
    by_cases hp : p < N
    · rw [decide_eq_true hp, if_pos rfl, hF p hp, Option.bind_some]
      exact whileF_run st N hC hF fuel (p + 1) hp (by lia)
    · rw [decide_eq_false hp, if_neg (by decide), show p = N by lia]
theorem forF_inv {i : Nat} {f : SF} (Inv : Nat → List Slot → Prop) (Ret : AV → Prop) (items : List AV)
    (h : ∀ k x sl, items[k]? = some x → Inv k sl → x.firm = true ∧ ∃ sl1, putS sl i (.val x) = some sl1 ∧ ((∃ sl2, f sl1 = some (.next, sl2) ∧ Inv (k + 1) sl2) ∨ ∃ v sl2, f sl1 = some (.ret v, sl2) ∧ Ret v)) :
    ∀ sl, Inv 0 sl → (∃ sl', forF i f items sl = some (.next, sl') ∧ Inv items.length sl') ∨ ∃ v sl', forF i f items sl = some (.ret v, sl') ∧ Ret v := by
  have key : ∀ (n k : Nat) sl, n = items.length - k → k ≤ items.length → Inv k sl → (∃ sl', forF i f (items.drop k) sl = some (.next, sl') ∧ Inv items.length sl') ∨ ∃ v sl', forF i f (items.drop k) sl = some (.ret v, sl') ∧ Ret v := by
    intro n
    induction n with
    | zero =>
      intro k sl h1 h2 iv
      rw [List.drop_eq_nil_of_le (by lia)]
      exact .inl ⟨sl, rfl, by rw [show items.length = k by lia]; exact iv⟩
    | succ n ih =>
      intro k sl h1 h2 iv
      have hk : k < items.length := by lia
      rw [List.drop_eq_getElem_cons hk]
      obtain ⟨hf, sl1, hp, h3⟩ := h k items[k] sl (List.getElem?_eq_getElem hk) iv
      rcases h3 with ⟨sl2, e, iv'⟩ | ⟨v, sl2, e, r⟩
      · rw [forF_next hf hp e]
        exact ih (k + 1) sl2 (by lia) (by lia) iv'
      · exact .inr ⟨v, sl2, forF_ret hf hp e, r⟩
  intro sl iv
  have := key items.length 0 sl (by lia) (Nat.zero_le _) iv
  rw [List.drop_zero] at this
  exact this
theorem sl_from (a : List Nat) (p : Nat) (hp : p ≤ a.length) (h : a.length < 1000000) : sliceV (.str (txt a)) (nat p) .none = some (.str (txt (a.drop p))) := by
  show (if (txt a).length < 1000000 then some (AV.str (Txt.slice (txt a) (some (p : Int)) none)) else none) = _
  rw [txt_len, if_pos h, txt_slice]
  simp only [Option.elim_some, Option.elim_none, clipAt_nat]
  rw [Nat.min_eq_left hp, List.take_of_length_le (by simp)]
noncomputable def postV (q : Nat) : AV := if q = 0 then .none else .int (-(q : Int))
theorem sl_to (a : List Nat) (q : Nat) (h : a.length < 1000000) : sliceV (.str (txt a)) .none (postV q) = some (.str (txt (a.take (a.length - q)))) := by
  unfold postV
  split
  · next h0 =>
    show (if (txt a).length < 1000000 then some (AV.str (Txt.slice (txt a) none none)) else none) = _
    rw [txt_len, if_pos h, txt_slice, h0]
    simp
  · next h0 =>
    show (if (txt a).length < 1000000 then some (AV.str (Txt.slice (txt a) none (some (-(q : Int))))) else none) = _
    rw [txt_len, if_pos h, txt_slice]
    simp only [Option.elim_some, Option.elim_none]
    rw [clipAt_neg _ _ (by lia)]
    simp
theorem truth_txt (l : List Nat) (h : l.length < 1000000) : truth (.str (txt l)) = some (decide (0 < l.length)) := by
  show (if (txt l).length < 1000000 then some (!((txt l).length == 0)) else none) = _
  rw [txt_len, if_pos h]
  congr 1
  cases l <;> simp
theorem cnd62' (j : Int) (h1 : -1000000 < j) (h2 : j < 1000000) : (decide (-(2 ^ 62) < j) && decide (j < 2 ^ 62)) = true := by
  have h3 : (1000000 : Int) ≤ 2 ^ 62 := by decide +kernel
  rw [decide_eq_true (Int.lt_of_lt_of_le h2 h3), decide_eq_true (Int.lt_of_le_of_lt (Int.neg_le_neg h3) h1)]; rfl
theorem idx_txt (a : List Nat) (p x : Nat) (hx : a[p]? = some x) (h : a.length < 1000000) : idxV (.str (txt a)) (nat p) = some (.str (txt [x])) := by
  have hp : p < a.length := (List.getElem?_eq_some_iff.mp hx).1
  have hc := cnd62' (p : Int) (by lia) (by lia)
  simp only [idxV, hc, if_true]
  have e : seqIndex? (p : Int) (txt a).length = some p := by
    rw [txt_len]; unfold seqIndex?
    simp; lia
  rw [e, Option.bind_some]
  have : (txt a).cps[p]? = some x := by show a.toArray[p]? = _; simpa using hx
  rw [this]; rfl
theorem idx_neg (a : List Nat) (q x : Nat) (hq : q < a.length) (hx : a[a.length - 1 - q]? = some x) (h : a.length < 1000000) : idxV (.str (txt a)) (.int (-(q : Int) - 1)) = some (.str (txt [x])) := by
  have hc := cnd62' (-(q : Int) - 1) (by lia) (by lia)
  simp only [idxV, hc, if_true]
  have e : seqIndex? (-(q : Int) - 1) (txt a).length = some (a.length - 1 - q) := by
    rw [txt_len]; unfold seqIndex?
    have hneg : -(q : Int) - 1 < 0 := by lia
    have h1 : (decide (0 ≤ -(q : Int) - 1 + (a.length : Int)) && decide (-(q : Int) - 1 + (a.length : Int) < (a.length : Int))) = true := by
      rw [decide_eq_true (by lia), decide_eq_true (by lia)]; rfl
    simp only [if_pos hneg]
    rw [if_pos h1]
    congr 1; lia
  rw [e, Option.bind_some]
  have : (txt a).cps[a.length - 1 - q]? = some x := by show a.toArray[_]? = _; simpa using hx
  rw [this]; rfl
theorem str1_eq (x y : Nat) : cmpV .Eq (.str (txt [x])) (.str (txt [y])) = some (decide (x = y)) := by
  show some (txt [x] == txt [y]) = _
  congr 1
  by_cases h : x = y
  · subst h; simp
  · rw [decide_eq_false h]
    rw [beq_eq_false_iff_ne]
    intro e
    have := congrArg (fun s : Str => s.cps) e
    simp at this
    exact h this

noncomputable def Ap (f : List Slot → Option AV) (sl : List Slot) : Option AV := f sl
theorem ap_var {i : Nat} {sl : List Slot} {v : AV} (h : sl[i]?.bind Slot.read = some v) : Ap (fun sl => sl[i]?.bind Slot.read) sl = some v := h
theorem ap_con {v : AV} {sl : List Slot} : Ap (fun zq => some v) sl = some v := rfl
theorem ap_cmp {op : CmpOp} {f g : List Slot → Option AV} {sl : List Slot} {u v : AV} {r : Bool} (hf : Ap f sl = some u) (hg : Ap g sl = some v) (h : cmpV op u v = some r) : Ap (fun sl => (f sl).bind fun a => (g sl).bind fun b => (cmpV op a b).map AV.bool) sl = some (.bool r) := by
  show ((Ap f sl).bind fun a => (Ap g sl).bind fun b => (cmpV op a b).map AV.bool) = _
  rw [hf, Option.bind_some, hg, Option.bind_some, h]; rfl
theorem ap_idx {f g : List Slot → Option AV} {sl : List Slot} {a i r : AV} (hf : Ap f sl = some a) (hg : Ap g sl = some i) (h : idxV a i = some r) : Ap (fun sl => (f sl).bind fun a => (g sl).bind fun b => idxV a b) sl = some r := by
  show ((Ap f sl).bind fun a => (Ap g sl).bind fun b => idxV a b) = _
  rw [hf, Option.bind_some, hg, Option.bind_some, h]
theorem ap_bin {op : Operator} {f g : List Slot → Option AV} {sl : List Slot} {a i r : AV} (hf : Ap f sl = some a) (hg : Ap g sl = some i) (h : binV op a i = some r) : Ap (fun sl => (f sl).bind fun a => (g sl).bind fun b => binV op a b) sl = some r := by
  show ((Ap f sl).bind fun a => (Ap g sl).bind fun b => binV op a b) = _
  rw [hf, Option.bind_some, hg, Option.bind_some, h]
theorem ap_slice {f g h : List Slot → Option AV} {sl : List Slot} {a b c r : AV} (hf : Ap f sl = some a) (hg : Ap g sl = some b) (hh : Ap h sl = some c) (e : sliceV a b c = some r) : Ap (fun sl => (f sl).bind fun a => (g sl).bind fun b => (h sl).bind fun c => sliceV a b c) sl = some r := by
  show ((Ap f sl).bind fun a => (Ap g sl).bind fun b => (Ap h sl).bind fun c => sliceV a b c) = _
  rw [hf, Option.bind_some, hg, Option.bind_some, hh, Option.bind_some, e]
theorem ap_fn {f : List Slot → Option (List AV)} {fn : List AV → Option AV} {sl : List Slot} {xs : List AV} {r : AV} (hf : f sl = some xs) (h : fn xs = some r) : Ap (fun sl => (f sl).bind fn) sl = some r := by
  show (f sl).bind fn = _
  rw [hf, Option.bind_some, h]
theorem cons_of {f : List Slot → Option AV} {g : List Slot → Option (List AV)} {sl : List Slot} {a : AV} {as : List AV} (hf : Ap f sl = some a) (hg : g sl = some as) : consV f g sl = some (a :: as) := by
  show (Ap f sl).bind (fun a => (g sl).map (a :: ·)) = _
  rw [hf, Option.bind_some, hg]; rfl
theorem setF_ap {i : Nat} {f : List Slot → Option AV} {sl sl' : List Slot} {av : AV} (h : Ap f sl = some av) (hf : av.firm = true) (hp : putS sl i (.val av) = some sl') : setF i f sl = some (.next, sl') := setF_eq h hf hp
theorem cond_pre {f1 f2 f3 : List Slot → Option AV} {sl : List Slot} (a b u v : List Nat) (p : Nat) (h1 : Ap f1 sl = some (.str (txt u))) (h2 : Ap f2 sl = some (.str (txt v))) (hu : u.length = a.length - p) (hv : v.length = b.length - p)
    (h3 : ∀ x y, a[p]? = some x → b[p]? = some y → Ap f3 sl = some (.bool (decide (x = y)))) (hp : p ≤ cpl a b) (ha : a.length < 1000000) (hb : b.length < 1000000) : ∃ av, andV f1 (andV f2 f3) sl = some av ∧ truth av = some (decide (p < cpl a b)) := by
  obtain ⟨c1, c2, c3, c4⟩ := cpl_spec a b
  show ∃ av, ((Ap f1 sl).bind fun a => (truth a).bind fun c => if c then ((Ap f2 sl).bind fun a => (truth a).bind fun c => if c then Ap f3 sl else some a) else some a) = some av ∧ _
  rw [h1, Option.bind_some, truth_txt u (by lia), Option.bind_some]
  by_cases q1 : 0 < u.length
  · rw [decide_eq_true q1, if_pos rfl, h2, Option.bind_some, truth_txt v (by lia), Option.bind_some]
    by_cases q2 : 0 < v.length
    · rw [decide_eq_true q2, if_pos rfl]
      have e1 : a[p]? = some a[p] := List.getElem?_eq_getElem (by lia)
      have e2 : b[p]? = some b[p] := List.getElem?_eq_getElem (by lia)
      refine ⟨_, h3 _ _ e1 e2, ?_⟩
      show some (decide _) = some (decide _)
      congr 1
      by_cases q : p < cpl a b
      · have := c3 p q
        rw [e1, e2] at this
        rw [decide_eq_true q, decide_eq_true (Option.some.inj this)]
      · have hpe : p = cpl a b := by lia
        rw [decide_eq_false q, decide_eq_false]
        have := c4 a[p] b[p] (by rw [← hpe]; exact e1) (by rw [← hpe]; exact e2)
        exact this
    · refine ⟨.str (txt v), by rw [decide_eq_false q2]; rfl, ?_⟩
      rw [truth_txt v (by lia), decide_eq_false q2, decide_eq_false (by lia)]
  · refine ⟨.str (txt u), by rw [decide_eq_false q1]; rfl, ?_⟩
    rw [truth_txt u (by lia), decide_eq_false q1, decide_eq_false (by lia)]

noncomputable def sc (x y : Nat) : Nat := if x = y then 0 else if Txt.lower (txt [x]) = Txt.lower (txt [y]) then 1 else 2
theorem sub_sc (x y : Nat) : subV [.str (txt [x]), .str (txt [y])] = some (nat (sc x y)) := by
  show (if (txt [x]).length < 100000 ∧ (txt [y]).length < 100000 then some (AV.int (if txt [x] = txt [y] then 0 else if Txt.lower (txt [x]) = Txt.lower (txt [y]) then 1 else 2)) else none) = _
  rw [if_pos ⟨by rw [txt_len]; show 1 < 100000; decide, by rw [txt_len]; show 1 < 100000; decide⟩]
  have : (txt [x] = txt [y]) ↔ x = y := by
    constructor
    · intro e
      have := congrArg (fun s : Str => s.cps) e
      simpa using this
    · rintro rfl; rfl
  unfold sc
  by_cases h : x = y
  · rw [if_pos (this.mpr h), if_pos h]; rfl
  · rw [if_neg (fun e => h (this.mp e)), if_neg h]
    split <;> rfl
theorem min_nat (x y : Nat) : minV [nat x, nat y] = some (nat (min x y)) := by
  show some (AV.int (if (y : Int) < (x : Int) then (y : Int) else (x : Int))) = some (AV.int ((min x y : Nat) : Int))
  congr 2
  split <;> lia
theorem countUp_nat (n : Nat) : countUp 0 (n : Int) = nats (List.range n) := by
  unfold countUp
  rw [show ((n : Int) - 0).toNat = n by lia]
  simp [nats, intL]
theorem range_nat (n : Nat) (h : n < 1000000) : rangeV [nat n] = some (nats (List.range n)) := by
  show (if -1000000 < (n : Int) ∧ (n : Int) < 1000000 then some (countUp 0 (n : Int)) else none) = _
  rw [if_pos ⟨by lia, by lia⟩, countUp_nat]
theorem nats_range_get {n k : Nat} {x : AV} (h : (nats (List.range n))[k]? = some x) : k < n ∧ x = nat k := by
  simp only [nats, intL, List.map_map, List.getElem?_map] at h
  obtain ⟨i, hi, rfl⟩ := Option.map_eq_some_iff.mp h
  have hk : k < n := by have := (List.getElem?_eq_some_iff.mp hi).1; simpa using this
  rw [List.getElem?_range hk] at hi
  cases hi
  exact ⟨hk, rfl⟩
theorem nats_len (l : List Nat) : (nats l).length = l.length := by simp [nats, intL]
theorem nats_get (l : List Nat) (i d : Nat) (h : l[i]? = some d) : (nats l)[i]? = some (nat d) := by simp [nats, intL, h]
theorem nats_set (l : List Nat) (i d : Nat) : (nats l).set i (nat d) = nats (l.set i d) := by simp [nats, intL, List.map_set]
noncomputable abbrev LS (a b : List Nat) (mx : Nat) (pre post row res bi bc dist mn ix sb ins : Slot) : List Slot := [.val (.str (txt a)), .val (.str (txt b)), .val (nat mx), pre, post, row, res, bi, bc, dist, mn, ix, sb, ins]

inductive LII (a b : List Nat) (mx : Nat) (pre post : Slot) (j y : Nat) (q : List Nat × Nat × Nat) : Nat → List Slot → Prop
  | mk (k : Nat) (rk : List Nat) (dk sk mn : Nat) (t11 t12 t13 : Slot) (hl : rk.length = a.length) (hi : q = (rk.take k ++ (inn ((a.map (sc y)).drop k) (rk.drop k) dk sk mn).1, (inn ((a.map (sc y)).drop k) (rk.drop k) dk sk mn).2)) :
      LII a b mx pre post j y q k (LS a b mx pre post (.mls (nats rk)) (.val (nat sk)) (.val (nat j)) (.val (.str (txt [y]))) (.val (nat dk)) (.val (nat mn)) t11 t12 t13)
theorem inn_next (c : Nat) (cs : List Nat) (d : Nat) (row : List Nat) (k dk sk mn : Nat) (hk : k < row.length) (hd : row.drop k = d :: row.drop (k + 1)) :
    ((row.take k ++ (inn (c :: cs) (d :: row.drop (k + 1)) dk sk mn).1, (inn (c :: cs) (d :: row.drop (k + 1)) dk sk mn).2) : List Nat × Nat × Nat) =
      ((row.set k (min (min sk d + 2) (dk + c))).take (k + 1) ++ (inn cs ((row.set k (min (min sk d + 2) (dk + c))).drop (k + 1)) d (min (min sk d + 2) (dk + c)) (if min (min sk d + 2) (dk + c) < mn then min (min sk d + 2) (dk + c) else mn)).1,
        (inn cs ((row.set k (min (min sk d + 2) (dk + c))).drop (k + 1)) d (min (min sk d + 2) (dk + c)) (if min (min sk d + 2) (dk + c) < mn then min (min sk d + 2) (dk + c) else mn)).2) := by
  rw [List.take_add_one, List.getElem?_set_self hk, List.take_set_of_le (Nat.le_refl _), List.drop_set_of_lt (Nat.lt_succ_self k), Option.toList_some, List.append_assoc]
  rfl
theorem lev_inner (B : SF) (a b : List Nat) (mx : Nat) (pre post : Slot) (j y : Nat)
    (hB : ∀ (i x d : Nat) (row : List Nat) (dist res mn : Nat) (s12 s13 : Slot), a[i]? = some x → row.length = a.length → row[i]? = some d →
      B (LS a b mx pre post (.mls (nats row)) (.val (nat res)) (.val (nat j)) (.val (.str (txt [y]))) (.val (nat dist)) (.val (nat mn)) (.val (nat i)) s12 s13) =
        some (.next, LS a b mx pre post (.mls (nats (row.set i (min (min res d + 2) (dist + sc y x))))) (.val (nat (min (min res d + 2) (dist + sc y x)))) (.val (nat j)) (.val (.str (txt [y]))) (.val (nat d))
          (.val (nat (if min (min res d + 2) (dist + sc y x) < mn then min (min res d + 2) (dist + sc y x) else mn))) (.val (nat i)) (.val (nat (dist + sc y x))) (.val (nat (min res d + 2)))))
    (row : List Nat) (dist res mn : Nat) (s11 s12 s13 : Slot) (hrow : row.length = a.length) :
    ∃ (dist' : Nat) (s11' s12' s13' : Slot), forF 11 B (nats (List.range a.length)) (LS a b mx pre post (.mls (nats row)) (.val (nat res)) (.val (nat j)) (.val (.str (txt [y]))) (.val (nat dist)) (.val (nat mn)) s11 s12 s13) =
      some (.next, LS a b mx pre post (.mls (nats (inn (a.map (sc y)) row dist res mn).1)) (.val (nat (inn (a.map (sc y)) row dist res mn).2.1)) (.val (nat j)) (.val (.str (txt [y]))) (.val (nat dist')) (.val (nat (inn (a.map (sc y)) row dist res mn).2.2)) s11' s12' s13')
      ∧ (inn (a.map (sc y)) row dist res mn).1.length = a.length := by
  obtain ⟨q, hq⟩ : ∃ q, inn (a.map (sc y)) row dist res mn = q := ⟨_, rfl⟩
  rw [hq]
  have main := forF_inv (i := 11) (f := B) (LII a b mx pre post j y q) (fun zq => False) (nats (List.range a.length)) (fun k x sl hx iv => ?_)
      (LS a b mx pre post (.mls (nats row)) (.val (nat res)) (.val (nat j)) (.val (.str (txt [y]))) (.val (nat dist)) (.val (nat mn)) s11 s12 s13) (.mk 0 row dist res mn s11 s12 s13 hrow hq.symm)
  · rcases main with ⟨sl', e, iv⟩ | ⟨_, _, _, f⟩
    · rw [nats_len, List.length_range] at iv
      obtain ⟨rk, dk, sk, mk, t11, t12, t13, hl, hi⟩ := iv
      rw [List.take_of_length_le (Nat.le_of_eq hl), List.drop_eq_nil_of_le (Nat.le_of_eq hl), List.drop_eq_nil_of_le (Nat.le_of_eq (List.length_map _))] at hi
      simp only [inn, List.append_nil] at hi
      rw [hi]
      exact ⟨dk, t11, t12, t13, e, hl⟩
    · exact f.elim
  · obtain ⟨rk, dk, sk, mk, t11, t12, t13, hl, hi⟩ := iv
    obtain ⟨hk, rfl⟩ := nats_range_get hx
    have hkl : k < rk.length := Nat.lt_of_lt_of_eq hk hl.symm
    refine ⟨rfl, _, rfl, .inl ⟨_, hB k a[k] rk[k] rk dk sk mk t12 t13 (List.getElem?_eq_getElem hk) hl (List.getElem?_eq_getElem hkl), .mk (k + 1) _ _ _ _ _ _ _ ((List.length_set ..).trans hl) ?_⟩⟩
    have d1 : (a.map (sc y)).drop k = sc y a[k] :: (a.map (sc y)).drop (k + 1) := by
      rw [List.drop_eq_getElem_cons (by rw [List.length_map]; exact hk), List.getElem_map]
    have d2 : rk.drop k = rk[k] :: rk.drop (k + 1) := List.drop_eq_getElem_cons hkl
    rw [hi, d1, d2, inn_next _ _ _ _ _ _ _ _ hkl d2]
end Mine
end

section
open PySem PySem.W PyProof.Rows
set_option Elab.async false
set_option tactic.hygienic false
set_option maxRecDepth 100000
set_option autoImplicit false
set_option linter.unusedVariables false
namespace Mine
theorem or_post {f g : List Slot → Option AV} {sl : List Slot} (q : Nat) (hf : f sl = some (.int (-(q : Int)))) (hg : g sl = some .none) : orV f g sl = some (postV q) := by
  unfold orV postV
  rw [hf, Option.bind_some]
  show (some (-(q : Int) != 0)).bind _ = _
  rw [Option.bind_some]
  by_cases h : q = 0
  · subst h; rw [if_neg (by decide), if_pos rfl, hg]
  · rw [if_pos (by rw [bne_iff_ne]; lia), if_neg h]
theorem lev_ends (a b : List Nat) (hl : b.length = a.length) (hne : a ≠ b) : 0 < (a.drop (cpl a b)).length - cpl (a.drop (cpl a b)).reverse (b.drop (cpl a b)).reverse := by
  obtain ⟨p1, p2, p3, _⟩ := cpl_spec a b
  generalize cpl a b = p at *
  obtain ⟨q1, q2, q3, _⟩ := cpl_spec (a.drop p).reverse (b.drop p).reverse
  generalize cpl (a.drop p).reverse (b.drop p).reverse = q at *
  refine Nat.pos_of_ne_zero fun h => hne ?_
  rw [List.length_reverse, List.length_drop] at q1
  rw [List.length_drop] at h
  obtain ⟨d, hd⟩ : ∃ d, a.length = p + d := ⟨a.length - p, (Nat.add_sub_cancel' p1).symm⟩
  have hd1 : a.length - p = d := by rw [hd, Nat.add_sub_cancel_left]
  rw [hd1] at q1 h
  have hq : q = d := Nat.le_antisymm q1 (Nat.le_of_sub_eq_zero h)
  refine List.ext_getElem? fun i => ?_
  rcases Nat.lt_or_ge i p with hi | hi
  · exact p3 i hi
  · obtain ⟨t, rfl⟩ := Nat.exists_eq_add_of_le hi
    rcases Nat.lt_or_ge t d with ht | ht
    · obtain ⟨r, rfl⟩ := Nat.exists_eq_add_of_le ht
      have hr : r < t.succ + r := Nat.lt_add_of_pos_left (Nat.succ_pos t)
      have e := q3 r (by rw [hq]; exact hr)
      rw [List.getElem?_reverse (by rw [List.length_drop, hd1]; exact hr), List.getElem?_reverse (by rw [List.length_drop, hl, hd1]; exact hr), List.getElem?_drop, List.getElem?_drop, List.length_drop, List.length_drop, hl, hd1] at e
      rw [show t.succ + r - 1 - r = t by lia] at e
      exact e
    · rw [List.getElem?_eq_none (by rw [hd]; exact Nat.add_le_add_left ht p), List.getElem?_eq_none (by rw [hl, hd]; exact Nat.add_le_add_left ht p)]

theorem lo_cons (a : List Nat) (mx y : Nat) (bs : List Nat) (k : Nat) (row : List Nat) (res : Nat) : levOuter sc a mx (y :: bs) k row res = if mx < (inn (a.map (sc y)) row (2 * k) (2 * k) BIGN).2.2 then mx + 1 else levOuter sc a mx bs (k + 1) (inn (a.map (sc y)) row (2 * k) (2 * k) BIGN).1 (inn (a.map (sc y)) row (2 * k) (2 * k) BIGN).2.1 := rfl
noncomputable def RowOk (B : SF) (a b : List Nat) (mx : Nat) (pre post : Slot) : Prop :=
  ∀ (j y : Nat) (row : List Nat) (res : Nat) (s8 s9 s10 s11 s12 s13 : Slot), b[j]? = some y → row.length = a.length →
      ∃ (dist' : Nat) (s11' s12' s13' : Slot), B (LS a b mx pre post (.mls (nats row)) (.val (nat res)) (.val (nat j)) s8 s9 s10 s11 s12 s13) =
        (if mx < (inn (a.map (sc y)) row (2 * j) (2 * j) BIGN).2.2 then some (.ret (nat (mx + 1)), LS a b mx pre post (.mls (nats (inn (a.map (sc y)) row (2 * j) (2 * j) BIGN).1)) (.val (nat (inn (a.map (sc y)) row (2 * j) (2 * j) BIGN).2.1)) (.val (nat j)) (.val (.str (txt [y]))) (.val (nat dist')) (.val (nat (inn (a.map (sc y)) row (2 * j) (2 * j) BIGN).2.2)) s11' s12' s13')
         else some (.next, LS a b mx pre post (.mls (nats (inn (a.map (sc y)) row (2 * j) (2 * j) BIGN).1)) (.val (nat (inn (a.map (sc y)) row (2 * j) (2 * j) BIGN).2.1)) (.val (nat j)) (.val (.str (txt [y]))) (.val (nat dist')) (.val (nat (inn (a.map (sc y)) row (2 * j) (2 * j) BIGN).2.2)) s11' s12' s13'))
        ∧ (inn (a.map (sc y)) row (2 * j) (2 * j) BIGN).1.length = a.length
inductive LOI (a b : List Nat) (mx : Nat) (pre post : Slot) (v : Nat) : Nat → List Slot → Prop
  | mk (k : Nat) (row : List Nat) (res : Nat) (t7 t8 t9 t10 t11 t12 t13 : Slot) (hl : row.length = a.length) (hv : v = levOuter sc a mx (b.drop k) k row res) : LOI a b mx pre post v k (LS a b mx pre post (.mls (nats row)) (.val (nat res)) t7 t8 t9 t10 t11 t12 t13)
theorem lev_outer (B : SF) (a b : List Nat) (mx : Nat) (pre post : Slot) (hl : b.length = a.length)
    (hB : RowOk B a b mx pre post)
    (row0 : List Nat) (hrow : row0.length = a.length) (s7 s8 s9 s10 s11 s12 s13 : Slot) :
    ∃ fl sl', forF 7 B (nats (List.range b.length)) (LS a b mx pre post (.mls (nats row0)) (.val (nat 0)) s7 s8 s9 s10 s11 s12 s13) = some (fl, sl') ∧ (fl = .ret (nat (levOuter sc a mx b 0 row0 0)) ∨ fl = .next ∧ sl'[6]? = some (.val (nat (levOuter sc a mx b 0 row0 0)))) := by
  obtain ⟨v0, hv0⟩ : ∃ v0, levOuter sc a mx b 0 row0 0 = v0 := ⟨_, rfl⟩
  rw [hv0]
  have main := forF_inv (i := 7) (f := B) (LOI a b mx pre post v0) (fun v => v = nat v0) (nats (List.range b.length)) (fun k x sl hx iv => ?_) (LS a b mx pre post (.mls (nats row0)) (.val (nat 0)) s7 s8 s9 s10 s11 s12 s13) (.mk 0 row0 0 s7 s8 s9 s10 s11 s12 s13 hrow hv0.symm)
  · rcases main with ⟨sl', e, iv⟩ | ⟨v, sl', e, rfl⟩
    · rw [nats_len, List.length_range] at iv
      refine ⟨_, sl', e, .inr ⟨rfl, ?_⟩⟩
      obtain ⟨row, res, t7, t8, t9, t10, t11, t12, t13, hl', hv⟩ := iv
      rw [List.drop_eq_nil_of_le (Nat.le_refl _)] at hv
      rw [hv]; rfl
    · exact ⟨_, sl', e, .inl rfl⟩
  · obtain ⟨hk, rfl⟩ := nats_range_get hx
    obtain ⟨row, res, t7, t8, t9, t10, t11, t12, t13, hl', hv⟩ := iv
    obtain ⟨d', u11, u12, u13, e, hlen⟩ := hB k b[k] row res t8 t9 t10 t11 t12 t13 (List.getElem?_eq_getElem hk) hl'
    refine ⟨rfl, _, rfl, ?_⟩
    rw [List.drop_eq_getElem_cons hk, lo_cons] at hv
    split at e
    · next h =>
      rw [if_pos h] at hv
      exact .inr ⟨_, _, e, by rw [hv]⟩
    · next h =>
      rw [if_neg h] at hv
      exact .inl ⟨_, e, .mk (k + 1) _ _ _ _ _ _ _ _ _ hlen hv⟩
theorem ex_next {f g : SF} {sl sl1 : List Slot} {v : Fl} (h : f sl = some (.next, sl1)) (h2 : ∃ sl', g sl1 = some (v, sl')) : ∃ sl', seqF f g sl = some (v, sl') := by rw [seqF_next h]; exact h2
theorem ex_ret {f g : SF} {sl : List Slot} {a : AV} (h : ∃ sl', f sl = some (.ret a, sl')) : ∃ sl', seqF f g sl = some (.ret a, sl') := by obtain ⟨sl', h⟩ := h; exact ⟨sl', seqF_ret h⟩
theorem ex_false {c : List Slot → Option AV} {f g h : SF} {sl : List Slot} {a : AV} {v : Fl} (hc : c sl = some a) (ht : truth a = some false) (hg : g sl = some (.next, sl)) (h2 : ∃ sl', h sl = some (v, sl')) : ∃ sl', seqF (ifF c f g) h sl = some (v, sl') :=
  ex_next ((ifF_false hc ht).trans hg) h2
theorem ap_orpost {f g : List Slot → Option AV} {sl : List Slot} (q : Nat) (hf : Ap f sl = some (.int (-(q : Int)))) (hg : Ap g sl = some .none) : Ap (orV f g) sl = some (postV q) := or_post q hf hg
theorem ap_not {f : List Slot → Option AV} {sl : List Slot} {a : AV} {b : Bool} (hf : Ap f sl = some a) (h : truth a = some b) : Ap (fun sl => (f sl).bind (unV .Not)) sl = some (.bool (!b)) := by
  show (Ap f sl).bind (unV .Not) = _
  rw [hf, Option.bind_some]
  show (truth a).map _ = _
  rw [h]; rfl
theorem ap_or_ff {f g : List Slot → Option AV} {sl : List Slot} {r : AV} (hf : Ap f sl = some (.bool false)) (hg : Ap g sl = some r) : Ap (orV f g) sl = some r := by
  show (Ap f sl).bind (fun a => (truth a).bind fun c => if c then some a else Ap g sl) = _
  rw [hf, Option.bind_some]; exact hg
theorem gt_int (x y : Int) : cmpV .Gt (.int x) (.int y) = some (decide (y < x)) := rfl
theorem lt_int (x y : Int) : cmpV .Lt (.int x) (.int y) = some (decide (x < y)) := rfl
theorem newF_of {i : Nat} {f : List Slot → Option (List AV)} {sl sl' : List Slot} {l : List Nat} (h : f sl = some (nats l)) (hp : putS sl i (.mls (nats l)) = some sl') : newF 1 i f sl = some (.next, sl') := by
  unfold newF
  rw [h, Option.bind_some, if_pos (firm_intL _)]
  show (putS sl i (.mls (nats l))).map _ = _
  rw [hp]; rfl
theorem nums_nats (l : List Nat) : numsOnly (.lst (nats l)) = some (nats l) := by
  show (if (asInts (nats l)).isSome = true then some (nats l) else none) = _
  rw [asInts_nats]; rfl
theorem mul_int (x y : Int) (hx : small x = true) (hy : small y = true) : binV .Mult (.int x) (.int y) = some (.int (x * y)) := by
  show (if (small x && small y) = true then some (x * y) else none).map AV.int = _
  rw [if_pos (by rw [hx, hy]; rfl)]; rfl
theorem small_i (x : Int) (h0 : 0 ≤ x) (h : x < 10000000) : small x = true := by
  have : x = ((x.toNat : Nat) : Int) := by lia
  rw [this]; exact small_nat (by lia)
theorem for_of {i : Nat} {fi : List Slot → Option (List AV)} {B : SF} {sl : List Slot} {xs : List AV} {r : Option (Fl × List Slot)} (h : fi sl = some xs) (hr : forF i B xs sl = r) : (fun sl => (fi sl).bind fun xs => forF i B xs sl) sl = r := by
  show ((fi sl).bind fun xs => forF i B xs sl) = _
  rw [h, Option.bind_some, hr]
theorem ap_call {fn : List AV → Option AV} {f : List Slot → Option (List AV)} {sl : List Slot} {xs : List AV} {r : AV} (hf : f sl = some xs) (hz : freezeL xs = xs) (h : fn xs = some r) : Ap (fun sl => (f sl).bind fun avs => fn (freezeL avs)) sl = some r := by
  show (f sl).bind (fun avs => fn (freezeL avs)) = _
  rw [hf, Option.bind_some, hz, h]
theorem setItem_of {i : Nat} {fi fe : List Slot → Option AV} {sl : List Slot} {l : List Nat} {j d : Nat} (hl : sl[i]?.bind mls? = some (nats l)) (hi : Ap fi sl = some (nat j)) (he : Ap fe sl = some (nat d)) (hj : j < l.length) (h : l.length < 1000000) : setItemF i fi fe sl = some (.next, sl.set i (.mls (nats (l.set j d)))) := by
  show (Ap fe sl).bind (fun v => (Ap fi sl).bind fun j => _) = _
  rw [he, Option.bind_some, hi, Option.bind_some]
  simp only [hl]
  rw [if_pos ⟨rfl, Int.natCast_nonneg j, by rw [nats_len]; lia, by rw [nats_len]; exact h⟩, Int.toNat_natCast, nats_set]
theorem idx_nats (l : List Nat) (j d : Nat) (h : l.length < 1000000) (hd : l[j]? = some d) : idxV (.mut (nats l)) (nat j) = some (nat d) := by
  have hj : j < l.length := (List.getElem?_eq_some_iff.mp hd).1
  have hcnd := cnd62 j (by lia)
  simp only [idxV, AV.any?, hcnd, if_true, Int.toNat_natCast]
  exact nats_get l j d hd
theorem ex_of {v : Fl} {f : SF} {sl sl' : List Slot} (h : f sl = some (v, sl')) : ∃ sl', f sl = some (v, sl') := ⟨sl', h⟩
theorem range_of {f : List Slot → Option (List AV)} {sl : List Slot} {xs ys : List AV} (hf : f sl = some xs) (h : rangeV xs = some ys) : (fun sl => (f sl).bind rangeV) sl = some ys := by
  show (f sl).bind rangeV = _
  rw [hf, Option.bind_some, h]
theorem lev_row (B2 : SF) (fi : List Slot → Option (List AV)) (a b : List Nat) (mx : Nat) (pre post : Slot) (j y : Nat) (row : List Nat) (s11 s12 s13 : Slot) (hrow : row.length = a.length)
    (hfi : ∀ dist res mn, fi (LS a b mx pre post (.mls (nats row)) (.val (nat res)) (.val (nat j)) (.val (.str (txt [y]))) (.val (nat dist)) (.val (nat mn)) s11 s12 s13) = some (nats (List.range a.length)))
    (hB : ∀ (i x d : Nat) (row : List Nat) (dist res mn : Nat) (s12 s13 : Slot), a[i]? = some x → row.length = a.length → row[i]? = some d →
      B2 (LS a b mx pre post (.mls (nats row)) (.val (nat res)) (.val (nat j)) (.val (.str (txt [y]))) (.val (nat dist)) (.val (nat mn)) (.val (nat i)) s12 s13) =
        some (.next, LS a b mx pre post (.mls (nats (row.set i (min (min res d + 2) (dist + sc y x))))) (.val (nat (min (min res d + 2) (dist + sc y x)))) (.val (nat j)) (.val (.str (txt [y]))) (.val (nat d))
          (.val (nat (if min (min res d + 2) (dist + sc y x) < mn then min (min res d + 2) (dist + sc y x) else mn))) (.val (nat i)) (.val (nat (dist + sc y x))) (.val (nat (min res d + 2)))))
    (c : List Slot → Option AV) (fr : SF) (hc : ∀ (row' : List Nat) (res' dist' mn' : Nat) (t11 t12 t13 : Slot), Ap c (LS a b mx pre post (.mls (nats row')) (.val (nat res')) (.val (nat j)) (.val (.str (txt [y]))) (.val (nat dist')) (.val (nat mn')) t11 t12 t13) = some (.bool (decide (mx < mn'))))
    (hr : ∀ (row' : List Nat) (res' dist' mn' : Nat) (t11 t12 t13 : Slot), fr (LS a b mx pre post (.mls (nats row')) (.val (nat res')) (.val (nat j)) (.val (.str (txt [y]))) (.val (nat dist')) (.val (nat mn')) t11 t12 t13) = some (.ret (nat (mx + 1)), LS a b mx pre post (.mls (nats row')) (.val (nat res')) (.val (nat j)) (.val (.str (txt [y]))) (.val (nat dist')) (.val (nat mn')) t11 t12 t13)) :
    ∃ (dist' : Nat) (s11' s12' s13' : Slot), seqF (fun sl => (fi sl).bind fun xs => forF 11 B2 xs sl) (seqF (ifF c fr fun sl => some (.next, sl)) fun sl => some (.next, sl)) (LS a b mx pre post (.mls (nats row)) (.val (nat (2 * j))) (.val (nat j)) (.val (.str (txt [y]))) (.val (nat (2 * j))) (.val (nat BIGN)) s11 s12 s13) =
        (if mx < (inn (a.map (sc y)) row (2 * j) (2 * j) BIGN).2.2 then some (.ret (nat (mx + 1)), LS a b mx pre post (.mls (nats (inn (a.map (sc y)) row (2 * j) (2 * j) BIGN).1)) (.val (nat (inn (a.map (sc y)) row (2 * j) (2 * j) BIGN).2.1)) (.val (nat j)) (.val (.str (txt [y]))) (.val (nat dist')) (.val (nat (inn (a.map (sc y)) row (2 * j) (2 * j) BIGN).2.2)) s11' s12' s13')
         else some (.next, LS a b mx pre post (.mls (nats (inn (a.map (sc y)) row (2 * j) (2 * j) BIGN).1)) (.val (nat (inn (a.map (sc y)) row (2 * j) (2 * j) BIGN).2.1)) (.val (nat j)) (.val (.str (txt [y]))) (.val (nat dist')) (.val (nat (inn (a.map (sc y)) row (2 * j) (2 * j) BIGN).2.2)) s11' s12' s13'))
        ∧ (inn (a.map (sc y)) row (2 * j) (2 * j) BIGN).1.length = a.length := by
  obtain ⟨dist', s11', s12', s13', e, hlen⟩ := lev_inner B2 a b mx pre post j y hB row (2 * j) (2 * j) BIGN s11 s12 s13 hrow
  refine ⟨dist', s11', s12', s13', ?_, hlen⟩
  rw [seqF_next (for_of (hfi _ _ _) e)]
  by_cases h : mx < (inn (a.map (sc y)) row (2 * j) (2 * j) BIGN).2.2
  · rw [if_pos h]
    exact seqF_ret ((ifF_true (hc _ _ _ _ _ _ _) (by rw [decide_eq_true h]; rfl)).trans (hr _ _ _ _ _ _ _))
  · rw [if_neg h]
    exact seqF_next ((ifF_false (hc _ _ _ _ _ _ _) (by rw [decide_eq_false h]; rfl)).trans rfl)
theorem ex4_next {f g : SF} {sl sl1 : List Slot} {R : Nat → Slot → Slot → Slot → Option (Fl × List Slot)} {P : Prop} (h : f sl = some (.next, sl1)) (h2 : ∃ (d : Nat) (s t u : Slot), g sl1 = R d s t u ∧ P) : ∃ (d : Nat) (s t u : Slot), seqF f g sl = R d s t u ∧ P := by rw [seqF_next h]; exact h2
theorem assign2_ap {i j : Nat} {f : List Slot → Option AV} {sl sl' : List Slot} {a : AV} (h : Ap f sl = some a) (hp : putMany sl [i, j] [a, a] = some sl') : (fun sl => (f sl).bind fun a => (putMany sl [i, j] [a, a]).map fun sl' => ((Fl.next : Fl), sl')) sl = some (.next, sl') := by
  show (Ap f sl).bind (fun a => (putMany sl [i, j] [a, a]).map fun sl' => ((Fl.next : Fl), sl')) = _
  rw [h, Option.bind_some, hp]; rfl
theorem newF_ap {i : Nat} {f : List Slot → Option AV} {sl sl' : List Slot} {l : List Nat} (h : Ap f sl = some (.lst (nats l))) (hp : putS sl i (.mls (nats l)) = some sl') : newF 1 i (fun sl => (f sl).bind numsOnly) sl = some (.next, sl') := by
  refine newF_of ?_ hp
  show (Ap f sl).bind numsOnly = _
  rw [h, Option.bind_some, nums_nats]
theorem lev_end (B : SF) (fi : List Slot → Option (List AV)) (a b : List Nat) (mx : Nat) (pre post : Slot) (hl : b.length = a.length)
    (hfi : fi (LS a b mx pre post (.mls (nats ((List.range a.length).map fun i => 2 + 2 * i))) (.val (nat 0)) .unset .unset .unset .unset .unset .unset .unset) = some (nats (List.range b.length)))
    (hB : RowOk B a b mx pre post) :
    ∃ sl', seqF (fun sl => (fi sl).bind fun xs => forF 7 B xs sl) (seqF (retF fun sl => (sl[6]?.bind Slot.read).bind flatV) fun sl => some (.next, sl)) (LS a b mx pre post (.mls (nats ((List.range a.length).map fun i => 2 + 2 * i))) (.val (nat 0)) .unset .unset .unset .unset .unset .unset .unset) = some (.ret (nat (levDP sc a b mx)), sl') := by
  obtain ⟨fl, sl', e, rfl | ⟨rfl, h6⟩⟩ := lev_outer B a b mx pre post hl hB ((List.range a.length).map fun i => 2 + 2 * i) (by simp) .unset .unset .unset .unset .unset .unset .unset
  · exact ex_ret ⟨_, for_of hfi e⟩
  · refine ex_next (for_of hfi e) (ex_ret ⟨sl', ?_⟩)
    show (((sl'[6]?.bind Slot.read).bind flatV).map fun a => (Fl.ret a, sl')) = _
    rw [h6]; rfl
theorem lenV_txt (l : List Nat) (h : l.length < 1000000) : lenV [.str (txt l)] = some (nat l.length) := by
  show (if (txt l).length < 1000000 then some (AV.int ((txt l).length : Nat)) else none) = _
  rw [txt_len, if_pos h]
theorem gt_nat (x y : Nat) : cmpV .Gt (nat x) (nat y) = some (decide (y < x)) := by
  show some (decide ((y : Int) < (x : Int))) = _
  congr 1
  exact decide_eq_decide.mpr Int.ofNat_lt
theorem lt_nat (x y : Nat) : cmpV .Lt (nat x) (nat y) = some (decide (x < y)) := by
  show some (decide ((x : Int) < (y : Int))) = _
  congr 1
  exact decide_eq_decide.mpr Int.ofNat_lt
theorem row_nat (m : Nat) (hm : 1 ≤ m) (h : m < 1000) : listRangeV [.int 2, .int (2 * ((m : Int) + 1)), .int 2] = some (.lst (nats ((List.range m).map fun i => 2 + 2 * i))) := by
  show (if -1000000 < (2 : Int) ∧ (2 : Int) < 2 * ((m : Int) + 1) ∧ 2 * ((m : Int) + 1) < 1000000 ∧ (0 : Int) < 2 ∧ (2 : Int) < 1000000 then some (AV.lst (stepUp 2 (2 * ((m : Int) + 1)) 2)) else none) = _
  rw [if_pos ⟨by lia, by lia, by lia, by lia, by lia⟩]
  unfold stepUp
  rw [show ((2 * ((m : Int) + 1) - 2 - 1) / 2 + 1).toNat = m by lia]
  simp only [nats, intL, List.map_map]
  congr 2
  refine List.map_congr_left fun i zq => ?_
  show AV.int _ = AV.int _
  congr 1
  show (2 : Int) + (i : Int) * 2 = ((2 + 2 * i : Nat) : Int)
  lia
noncomputable abbrev LU (a b : List Nat) (mx : Nat) (pre post : Slot) : List Slot := LS a b mx pre post .unset .unset .unset .unset .unset .unset .unset .unset .unset
set_option maxHeartbeats 4000000 in
theorem lev_run (a b : List Nat) (mx : Nat) (hl : b.length = a.length) (hn : a.length ≤ 20) : ∃ sl', lev_.1 (LU a b mx .unset .unset) = some (.ret (nat (lev sc a b mx)), sl') := by
  unfold lev_ pk
  dsimp only
  by_cases hab : a = b
  · subst hab
    have h0 : lev sc a a mx = 0 := by unfold lev; rw [if_pos rfl]
    rw [h0]
    refine ex_ret ⟨_, (ifF_true (a := .bool true) ?_ rfl).trans (seqF_ret rfl)⟩
    show (cmpV .Eq (.str (txt a)) (.str (txt a))).map AV.bool = _
    rw [eq_strs, beq_self_eq_true]; rfl
  have hne : (txt a == txt b) = false := by
    rw [beq_eq_false_iff_ne]
    intro e
    have := congrArg (fun s : Str => s.cps) e
    simp at this
    exact hab this
  have hends := lev_ends a b hl hab
  have hlev : lev sc a b mx = levDP sc ((a.drop (cpl a b)).take ((a.drop (cpl a b)).length - cpl (a.drop (cpl a b)).reverse (b.drop (cpl a b)).reverse)) ((b.drop (cpl a b)).take ((b.drop (cpl a b)).length - cpl (a.drop (cpl a b)).reverse (b.drop (cpl a b)).reverse)) mx := by
    unfold lev; rw [if_neg hab]
  obtain ⟨p1, p2, _, _⟩ := cpl_spec a b
  have ha1 : (a.drop (cpl a b)).length ≤ 20 := by rw [List.length_drop]; lia
  have hl1 : (b.drop (cpl a b)).length = (a.drop (cpl a b)).length := by rw [List.length_drop, List.length_drop, hl]
  rw [hlev]
  refine ex_false (a := .bool false) ?_ rfl rfl ?_
  · show (cmpV .Eq (.str (txt a)) (.str (txt b))).map AV.bool = _
    rw [eq_strs, hne]; rfl
  refine ex_next (sl1 := LU a b mx (.val (nat 0)) .unset) rfl ?_
  refine ex_next (sl1 := LU a b mx (.val (nat (cpl a b))) .unset) ?_ ?_
  · refine whileF_run (fun p => LU a b mx (.val (nat p)) .unset) (cpl a b) (fun p hp => ?_) (fun p hp => rfl) 30 0 (Nat.zero_le _) (by lia)
    refine cond_pre a b (a.drop p) (b.drop p) p ?_ ?_ (by rw [List.length_drop]) (by rw [List.length_drop]) (fun x y hx hy => ?_) hp (by lia) (by lia)
    · exact ap_slice (ap_var rfl) (ap_var rfl) ap_con (sl_from a p (by lia) (by lia))
    · exact ap_slice (ap_var rfl) (ap_var rfl) ap_con (sl_from b p (by lia) (by lia))
    · exact ap_cmp (ap_idx (ap_var rfl) (ap_var rfl) (idx_txt a p x hx (by lia))) (ap_idx (ap_var rfl) (ap_var rfl) (idx_txt b p y hy (by lia))) (str1_eq x y)
  refine ex_next (sl1 := LU (a.drop (cpl a b)) b mx (.val (nat (cpl a b))) .unset) ?_ ?_
  · exact setF_eq (av := .str (txt (a.drop (cpl a b)))) (sl_from a (cpl a b) p1 (by lia)) rfl rfl
  refine ex_next (sl1 := LU (a.drop (cpl a b)) (b.drop (cpl a b)) mx (.val (nat (cpl a b))) .unset) ?_ ?_
  · exact setF_eq (av := .str (txt (b.drop (cpl a b)))) (sl_from b (cpl a b) p2 (by lia)) rfl rfl
  clear hlev p1 p2 hl hn hab hne
  generalize a.drop (cpl a b) = a1 at *
  generalize b.drop (cpl a b) = b1 at *
  generalize cpl a b = p at *
  obtain ⟨q1, q2, _, _⟩ := cpl_spec a1.reverse b1.reverse
  rw [List.length_reverse] at q1 q2
  refine ex_next (sl1 := LU a1 b1 mx (.val (nat p)) (.val (.int (-((0 : Nat) : Int))))) rfl ?_
  refine ex_next (sl1 := LU a1 b1 mx (.val (nat p)) (.val (.int (-((cpl a1.reverse b1.reverse : Nat) : Int))))) ?_ ?_
  · refine whileF_run (fun q => LU a1 b1 mx (.val (nat p)) (.val (.int (-(q : Int))))) (cpl a1.reverse b1.reverse) (fun q hq => ?_) (fun q hq => ?_) 30 0 (Nat.zero_le _) (by lia)
    · refine cond_pre a1.reverse b1.reverse (a1.take (a1.length - q)) (b1.take (b1.length - q)) q ?_ ?_ (by rw [List.length_take, List.length_reverse]; lia) (by rw [List.length_take, List.length_reverse]; lia) (fun x y hx hy => ?_) hq (by rw [List.length_reverse]; lia) (by rw [List.length_reverse]; lia)
      · exact ap_slice (ap_var rfl) ap_con (ap_orpost q (ap_var rfl) ap_con) (sl_to a1 q (by lia))
      · exact ap_slice (ap_var rfl) ap_con (ap_orpost q (ap_var rfl) ap_con) (sl_to b1 q (by lia))
      · have ha : q < a1.length := by have := (List.getElem?_eq_some_iff.mp hx).1; rw [List.length_reverse] at this; exact this
        have hb : q < b1.length := by lia
        rw [List.getElem?_reverse ha] at hx
        rw [List.getElem?_reverse hb] at hy
        exact ap_cmp (ap_idx (ap_var rfl) (ap_bin (ap_var rfl) ap_con rfl) (idx_neg a1 q x ha hx (by lia))) (ap_idx (ap_var rfl) (ap_bin (ap_var rfl) ap_con rfl) (idx_neg b1 q y hb hy (by lia))) (str1_eq x y)
    · show some (Fl.next, LU a1 b1 mx (.val (nat p)) (.val (.int (-(q : Int) - 1)))) = some (Fl.next, LU a1 b1 mx (.val (nat p)) (.val (.int (-((q + 1 : Nat) : Int)))))
      rw [show -(q : Int) - 1 = -((q + 1 : Nat) : Int) by lia]
  generalize cpl a1.reverse b1.reverse = q at *
  refine ex_next (sl1 := LU (a1.take (a1.length - q)) b1 mx (.val (nat p)) (.val (.int (-(q : Int))))) ?_ ?_
  · exact setF_ap (ap_slice (ap_var rfl) ap_con (ap_orpost q (ap_var rfl) ap_con) (sl_to a1 q (by lia))) rfl rfl
  refine ex_next (sl1 := LU (a1.take (a1.length - q)) (b1.take (b1.length - q)) mx (.val (nat p)) (.val (.int (-(q : Int))))) ?_ ?_
  · exact setF_ap (ap_slice (ap_var rfl) ap_con (ap_orpost q (ap_var rfl) ap_con) (sl_to b1 q (by lia))) rfl rfl
  have hl2 : (b1.take (b1.length - q)).length = (a1.take (a1.length - q)).length := by rw [List.length_take, List.length_take, hl1]
  have hm1 : 1 ≤ (a1.take (a1.length - q)).length := by rw [List.length_take]; lia
  have hm2 : (a1.take (a1.length - q)).length ≤ 20 := by rw [List.length_take]; lia
  generalize a1.take (a1.length - q) = a2 at *
  generalize b1.take (b1.length - q) = b2 at *
  clear hends ha1 hl1 q1 q2
  generalize (Slot.val (nat p)) = pre at *
  generalize (Slot.val (AV.int (-(q : Int)))) = post at *
  refine ex_false (a := .bool false) ?_ rfl rfl ?_
  · exact ap_or_ff (ap_not (b := true) (ap_var rfl) (by rw [truth_txt a2 (by lia), decide_eq_true (by lia)])) (ap_not (b := true) (ap_var rfl) (by rw [truth_txt b2 (by lia), decide_eq_true (by lia)]))
  refine ex_false (a := .bool false) ?_ rfl rfl ?_
  · refine ap_or_ff (ap_cmp (ap_fn (cons_of (ap_var rfl) rfl) (lenV_txt a2 (by lia))) ap_con ((gt_int _ _).trans ?_)) (ap_cmp (ap_fn (cons_of (ap_var rfl) rfl) (lenV_txt b2 (by lia))) ap_con ((gt_int _ _).trans ?_))
    · rw [decide_eq_false (by lia)]
    · rw [decide_eq_false (by lia)]
  refine ex_false (a := .bool false) ?_ rfl rfl ?_
  · refine ap_cmp (ap_fn (cons_of (ap_var rfl) rfl) (lenV_txt b2 (by lia))) (ap_fn (cons_of (ap_var rfl) rfl) (lenV_txt a2 (by lia))) ((lt_int _ _).trans ?_)
    rw [decide_eq_false (by lia)]
  refine ex_false (a := .bool false) ?_ rfl rfl ?_
  · refine ap_cmp (ap_bin (ap_bin (a := nat b2.length) (i := nat a2.length) (r := .int 0) (ap_fn (cons_of (ap_var rfl) rfl) (lenV_txt b2 (by lia))) (ap_fn (cons_of (ap_var rfl) rfl) (lenV_txt a2 (by lia))) ?_) ap_con (mul_int _ _ (small_i _ (by lia) (by lia)) (small_i _ (by lia) (by lia)))) (ap_var rfl) ((gt_int _ _).trans ?_)
    · show some (AV.int ((b2.length : Int) - (a2.length : Int))) = _
      rw [show (b2.length : Int) - (a2.length : Int) = 0 by lia]
    · rw [decide_eq_false (by lia)]
  refine ex_next (sl1 := LS a2 b2 mx pre post (.mls (nats ((List.range a2.length).map fun i => 2 + 2 * i))) .unset .unset .unset .unset .unset .unset .unset .unset) ?_ ?_
  · exact newF_ap (ap_fn (cons_of ap_con (cons_of (ap_bin ap_con (ap_bin (ap_fn (cons_of (ap_var rfl) rfl) (lenV_txt a2 (by lia))) ap_con rfl) (mul_int _ _ (small_i _ (by lia) (by lia)) (small_i _ (by lia) (by lia)))) (cons_of ap_con rfl))) (row_nat a2.length hm1 (by lia))) rfl
  refine ex_next (sl1 := LS a2 b2 mx pre post (.mls (nats ((List.range a2.length).map fun i => 2 + 2 * i))) (.val (nat 0)) .unset .unset .unset .unset .unset .unset .unset) rfl ?_
  refine lev_end _ _ a2 b2 mx pre post hl2 ?_ ?_
  · exact range_of (cons_of (ap_fn (cons_of (ap_var rfl) rfl) (lenV_txt b2 (by lia))) rfl) (range_nat b2.length (by lia))
  · intro j y row res s8 s9 s10 s11 s12 s13 hy hrow
    have hj : j < b2.length := (List.getElem?_eq_some_iff.mp hy).1
    refine ex4_next (sl1 := LS a2 b2 mx pre post (.mls (nats row)) (.val (nat res)) (.val (nat j)) (.val (.str (txt [y]))) s9 s10 s11 s12 s13) ?_ ?_
    · exact setF_ap (ap_idx (ap_var rfl) (ap_var rfl) (idx_txt b2 j y hy (by lia))) rfl rfl
    refine ex4_next (sl1 := LS a2 b2 mx pre post (.mls (nats row)) (.val (nat (2 * j))) (.val (nat j)) (.val (.str (txt [y]))) (.val (nat (2 * j))) s10 s11 s12 s13) ?_ ?_
    · refine assign2_ap (a := nat (2 * j)) (ap_bin (ap_var rfl) ap_con ?_) rfl
      rw [mul_int _ _ (small_nat (by lia)) (small_i _ (by lia) (by lia))]
      show some (AV.int _) = some (AV.int _)
      congr 2
      lia
    refine ex4_next (sl1 := LS a2 b2 mx pre post (.mls (nats row)) (.val (nat (2 * j))) (.val (nat j)) (.val (.str (txt [y]))) (.val (nat (2 * j))) (.val (nat BIGN)) s11 s12 s13) rfl ?_
    refine lev_row _ _ a2 b2 mx pre post j y row s11 s12 s13 hrow (fun dist res mn => ?_) ?_ _ _ ?_ ?_
    · exact range_of (cons_of (ap_fn (cons_of (ap_var rfl) rfl) (lenV_txt a2 (by lia))) rfl) (range_nat a2.length (by lia))
    · intro i x d row dist res mn s12 s13 hx hrow hd
      have hi : i < a2.length := (List.getElem?_eq_some_iff.mp hx).1
      refine (seqF_next (sl' := LS a2 b2 mx pre post (.mls (nats row)) (.val (nat res)) (.val (nat j)) (.val (.str (txt [y]))) (.val (nat dist)) (.val (nat mn)) (.val (nat i)) (.val (nat (dist + sc y x))) s13) ?_).trans ?_
      · refine setF_ap (ap_bin (ap_var rfl) (ap_call (cons_of (ap_var rfl) (cons_of (ap_idx (ap_var rfl) (ap_var rfl) (idx_txt a2 i x hx (by lia))) rfl)) rfl (sub_sc y x)) ?_) rfl rfl
        rfl
      refine (seqF_next (sl' := LS a2 b2 mx pre post (.mls (nats row)) (.val (nat res)) (.val (nat j)) (.val (.str (txt [y]))) (.val (nat d)) (.val (nat mn)) (.val (nat i)) (.val (nat (dist + sc y x))) s13) ?_).trans ?_
      · exact setF_ap (ap_idx (ap_var rfl) (ap_var rfl) (idx_nats row i d (by lia) hd)) rfl rfl
      refine (seqF_next (sl' := LS a2 b2 mx pre post (.mls (nats row)) (.val (nat res)) (.val (nat j)) (.val (.str (txt [y]))) (.val (nat d)) (.val (nat mn)) (.val (nat i)) (.val (nat (dist + sc y x))) (.val (nat (min res d + 2)))) ?_).trans ?_
      · exact setF_ap (ap_bin (ap_fn (cons_of (ap_var rfl) (cons_of (ap_var rfl) rfl)) (min_nat res d)) ap_con rfl) rfl rfl
      refine (seqF_next (sl' := LS a2 b2 mx pre post (.mls (nats row)) (.val (nat (min (min res d + 2) (dist + sc y x)))) (.val (nat j)) (.val (.str (txt [y]))) (.val (nat d)) (.val (nat mn)) (.val (nat i)) (.val (nat (dist + sc y x))) (.val (nat (min res d + 2)))) ?_).trans ?_
      · exact setF_ap (ap_fn (cons_of (ap_var rfl) (cons_of (ap_var rfl) rfl)) (min_nat (min res d + 2) (dist + sc y x))) rfl rfl
      generalize min (min res d + 2) (dist + sc y x) = r
      refine (seqF_next (sl' := LS a2 b2 mx pre post (.mls (nats (row.set i r))) (.val (nat r)) (.val (nat j)) (.val (.str (txt [y]))) (.val (nat d)) (.val (nat mn)) (.val (nat i)) (.val (nat (dist + sc y x))) (.val (nat (min res d + 2)))) ?_).trans ?_
      · exact setItem_of (l := row) (j := i) (d := r) rfl (ap_var rfl) (ap_var rfl) (by lia) (by lia)
      by_cases h : r < mn
      · rw [if_pos h]
        exact seqF_next ((ifF_true (ap_cmp (ap_var rfl) (ap_var rfl) (lt_nat r mn)) (by rw [decide_eq_true h]; rfl)).trans (seqF_next rfl))
      · rw [if_neg h]
        exact seqF_next ((ifF_false (ap_cmp (ap_var rfl) (ap_var rfl) (lt_nat r mn)) (by rw [decide_eq_false h]; rfl)).trans rfl)
    · intro row' res' dist' mn' t11 t12 t13
      exact ap_cmp (ap_var rfl) (ap_var rfl) (gt_nat _ _)
    · intro row' res' dist' mn' t11 t12 t13
      exact seqF_ret rfl
noncomputable def levV : List AV → Option AV
  | [.str x, .str y, .int m] => if y.length = x.length ∧ x.length ≤ 20 ∧ 0 ≤ m then some (nat (lev sc x.cps.toList y.cps.toList m.toNat)) else none
  | _ => none
set_option tactic.hygienic true in
theorem lev_eq (avs : List AV) (r : AV) (h : levV avs = some r) : callV lev_.1 nLev.length 3 avs = some r := by
  unfold levV at h
  split at h
  · next x y m =>
    split at h
    · next hc =>
      cases h
      obtain ⟨h1, h2, h3⟩ := hc
      have ex : txt x.cps.toList = x := by cases x; simp [txt]
      have ey : txt y.cps.toList = y := by cases y; simp [txt]
      have lx : x.cps.toList.length = x.length := by rw [Array.length_toList]; rfl
      have ly : y.cps.toList.length = y.length := by rw [Array.length_toList]; rfl
      obtain ⟨sl', e⟩ := lev_run x.cps.toList y.cps.toList m.toNat (by rw [lx, ly]; exact h1) (by rw [lx]; exact h2)
      rw [LU, LS, ex, ey, show nat m.toNat = .int m by show AV.int _ = _; rw [Int.toNat_of_nonneg h3]] at e
      exact call_ret rfl rfl e rfl
    · cases h
  · cases h
theorem lev_fn (G : Gl) (o : Ok1 G) : Fn G "_levenshtein_distance" 2 levV :=
  Ok1.contract lev_ok (rec_mem "_levenshtein_distance" (by kernel_rfl)).1 (rec_mem "_levenshtein_distance" (by kernel_rfl)).2 lev_ lev_eq G o
end Mine
end

section
open PySem PySem.W PyProof.Rows
set_option Elab.async false
set_option tactic.hygienic false
set_option maxRecDepth 100000
set_option autoImplicit false
set_option linter.unusedVariables false
namespace Mine
noncomputable def dLaw : DefRec := recAt "law"
noncomputable def nLaw : List Str := ["script", "first", "size", "base", "words", "texts", "text", "whole", "alike", "unlike", "i", "j", "far", "due", "number", "marks", "counts", "word", "a", "b", "c", "left", "parts", "rest"]
set_option maxHeartbeats 8000000 in
noncomputable def law_ : {f : SF // ∀ G, Ok1 G → SsS G 35 nLaw dLaw.scope.names dLaw.body f} :=
    pk fun G o => (SsS.cons (StS.assign (i := 1) (by rfl) (fun W => (EvS.bin (EvS.ite (TsS.value (EvS.var (i := 0) (by rfl) (by decide +kernel) (by decide +kernel)) (fun zq zq => by rfl)) (EvS.idx (EvS.var (i := 0) (by rfl) (by decide +kernel) (by decide +kernel)) EvS.int (by rfl)) EvS.int) EvS.int)) (fun zq => by rfl))
 (SsS.cons (StS.assign (i := 2) (by rfl) (fun W => (EvS.bin EvS.int (EvS.bin (EvS.var (i := 1) (by rfl) (by decide +kernel) (by decide +kernel)) EvS.int))) (fun zq => by rfl))
 (SsS.cons (StS.assign (i := 3) (by rfl) (fun W => (EvS.bin EvS.int (EvS.bin EvS.int (EvS.bin (EvS.var (i := 1) (by rfl) (by decide +kernel) (by decide +kernel)) EvS.int)))) (fun zq => by rfl))
 (SsS.cons (StS.assignComp (fr := false) (md := 0) (i := 4) [2] (by rfl) (by decide +kernel) (by rfl) (fun W => (EvI.list (EvS.bin (EvS.slice (EvS.var (i := 0) (by rfl) (by decide +kernel) (by decide +kernel)) (EvP.yes EvS.int) (EvP.yes EvS.int) (by rfl)) (EvS.list (EvL.cons EvS.int (EvL.cons EvS.int (EvL.cons EvS.int EvL.nil (by rfl)) (by rfl)) (by rfl)))))) (fun W => TestsS.nil) (fun W => (EvS.b (EvS.call (fig_fn G o) (by decide) (by decide +kernel) (by decide +kernel) (EvL.cons (EvS.bin (EvS.var (i := 0) (by rfl) (by decide +kernel) (by decide +kernel)) EvS.int) (EvL.cons (EvS.var (i := 1) (by rfl) (by decide +kernel) (by decide +kernel)) EvL.nil (by rfl)) (by rfl)) (by rfl)))) (by decide) (fun zq zq => by rfl))
 (SsS.cons (StS.assignComp (fr := false) (md := 0) (i := 5) [] (by rfl) (by decide +kernel) (by rfl) (fun W => (EvI.list (EvS.var (i := 4) (by rfl) (by decide +kernel) (by decide +kernel)))) (fun W => TestsS.nil) (fun W => (EvS.b (EvS.call (txt_fn G o) (by decide) (by decide +kernel) (by decide +kernel) (EvL.cons (EvS.var (i := 0) (by rfl) (by decide +kernel) (by decide +kernel)) EvL.nil (by rfl)) (by rfl)))) (by decide) (fun zq zq => by rfl))
 (SsS.cons (StS.for (i := 6) (by rfl) (fun W => (EvI.list (EvS.var (i := 5) (by rfl) (by decide +kernel) (by decide +kernel))))
 (SsS.cons (StS.ite (fun W => (TsS.cmp (EvS.join EvS.str (EvB.plain (EvB.comp (fr := false) [] (by decide +kernel) (by rfl) (EvI.str (EvS.var (i := 6) (by rfl) (by decide +kernel) (by decide +kernel))) (fun W => TestsS.nil) (fun W => (EvS.b (EvS.call (map_fn G o) (by decide) (by decide +kernel) (by decide +kernel) (EvL.cons (EvS.var (i := 0) (by rfl) (by decide +kernel) (by decide +kernel)) EvL.nil (by rfl)) (by rfl)))) (fun zq zq => by rfl))) (by rfl) (fun zq => by rfl) (by decide +kernel)) (EvS.call (txt_fn G o) (by decide) (by decide +kernel) (by decide +kernel) (EvL.cons (EvS.bin (EvS.list (EvL.cons EvS.int EvL.nil (by rfl))) (EvS.var (i := 2) (by rfl) (by decide +kernel) (by decide +kernel))) EvL.nil (by rfl)) (by rfl)) (by rfl)))
 (SsS.cons (StS.ret fun W => EvS.bool)
 SsS.nil)
 SsS.nil)
 SsS.nil) (fun zq zq => by rfl))
 (SsS.cons (StS.assign (i := 7) (by rfl) (fun W => EvS.int) (fun zq => by rfl))
 (SsS.cons (StS.assign (i := 8) (by rfl) (fun W => EvS.int) (fun zq => by rfl))
 (SsS.cons (StS.assign (i := 9) (by rfl) (fun W => EvS.int) (fun zq => by rfl))
 (SsS.cons (StS.for (i := 10) (by rfl) (fun W => (EvI.range (by decide +kernel) (o.noName _ (by kernel_rfl)) (EvL.cons (EvS.len (by decide +kernel) (o.noName _ (by kernel_rfl)) (EvL.cons (EvS.var (i := 4) (by rfl) (by decide +kernel) (by decide +kernel)) EvL.nil (by rfl)) (by rfl)) EvL.nil (by rfl)) (by rfl) (fun zq zq => by rfl)))
 (SsS.cons (StS.aug (i := 7) (by rfl) (fun W => (EvS.bin (EvS.bin (EvS.var (i := 3) (by rfl) (by decide +kernel) (by decide +kernel)) EvS.int) (EvS.var (i := 2) (by rfl) (by decide +kernel) (by decide +kernel)))))
 (SsS.cons (StS.aug (i := 8) (by rfl) (fun W => EvS.int))
 (SsS.cons (StS.for (i := 11) (by rfl) (fun W => (EvI.range (by decide +kernel) (o.noName _ (by kernel_rfl)) (EvL.cons (EvS.var (i := 10) (by rfl) (by decide +kernel) (by decide +kernel)) EvL.nil (by rfl)) (by rfl) (fun zq zq => by rfl)))
 (SsS.cons (StS.assign (i := 12) (by rfl) (fun W => (EvS.len (by decide +kernel) (o.noName _ (by kernel_rfl)) (EvL.cons (EvB.plain (EvB.comp (fr := false) [4, 10, 11] (by decide +kernel) (by rfl) (EvI.range (by decide +kernel) (o.noName _ (by kernel_rfl)) (EvL.cons (EvS.var (i := 2) (by rfl) (by decide +kernel) (by decide +kernel)) EvL.nil (by rfl)) (by rfl) (fun zq zq => by rfl)) (fun W => (TestsS.one (TsS.cmp (EvS.idx (EvS.idx (EvS.var (i := 1) (by rfl) (by decide +kernel) (by decide +kernel)) (EvS.var (i := 2) (by rfl) (by decide +kernel) (by decide +kernel)) (by rfl)) (EvS.var (i := 0) (by rfl) (by decide +kernel) (by decide +kernel)) (by rfl)) (EvS.idx (EvS.idx (EvS.var (i := 1) (by rfl) (by decide +kernel) (by decide +kernel)) (EvS.var (i := 3) (by rfl) (by decide +kernel) (by decide +kernel)) (by rfl)) (EvS.var (i := 0) (by rfl) (by decide +kernel) (by decide +kernel)) (by rfl)) (by rfl)))) (fun W => (EvS.b (EvS.var (i := 0) (by rfl) (by decide +kernel) (by decide +kernel)))) (fun zq zq => by rfl))) EvL.nil (by rfl)) (by rfl))) (fun zq => by rfl))
 (SsS.cons (StS.ite (fun W => (TsS.cmp (EvS.call (lev_fn G o) (by decide) (by decide +kernel) (by decide +kernel) (EvL.cons (EvS.idx (EvS.var (i := 5) (by rfl) (by decide +kernel) (by decide +kernel)) (EvS.var (i := 10) (by rfl) (by decide +kernel) (by decide +kernel)) (by rfl)) (EvL.cons (EvS.idx (EvS.var (i := 5) (by rfl) (by decide +kernel) (by decide +kernel)) (EvS.var (i := 11) (by rfl) (by decide +kernel) (by decide +kernel)) (by rfl)) (EvL.cons (EvS.var (i := 12) (by rfl) (by decide +kernel) (by decide +kernel)) EvL.nil (by rfl)) (by rfl)) (by rfl)) (by rfl)) (EvS.var (i := 12) (by rfl) (by decide +kernel) (by decide +kernel)) (by rfl)))
 (SsS.cons (StS.ret fun W => EvS.bool)
 SsS.nil)
 SsS.nil)
 (SsS.cons (StS.aug (i := 7) (by rfl) (fun W => (EvS.bin (EvS.bin EvS.int (EvS.bin (EvS.bin (EvS.var (i := 3) (by rfl) (by decide +kernel) (by decide +kernel)) EvS.int) (EvS.var (i := 12) (by rfl) (by decide +kernel) (by decide +kernel)))) (EvS.bin (EvS.bin (EvS.var (i := 3) (by rfl) (by decide +kernel) (by decide +kernel)) EvS.int) (EvS.bin (EvS.var (i := 2) (by rfl) (by decide +kernel) (by decide +kernel)) (EvS.var (i := 12) (by rfl) (by decide +kernel) (by decide +kernel)))))))
 (SsS.cons (StS.ite (fun W => (TsS.cmp (EvS.var (i := 12) (by rfl) (by decide +kernel) (by decide +kernel)) EvS.int (by rfl)))
 (SsS.cons (StS.aug (i := 8) (by rfl) (fun W => EvS.int))
 SsS.nil)
 SsS.nil)
 (SsS.cons (StS.ite (fun W => (TsS.cmp (EvS.var (i := 12) (by rfl) (by decide +kernel) (by decide +kernel)) (EvS.var (i := 2) (by rfl) (by decide +kernel) (by decide +kernel)) (by rfl)))
 (SsS.cons (StS.aug (i := 9) (by rfl) (fun W => EvS.int))
 SsS.nil)
 SsS.nil)
 SsS.nil))))) (fun zq zq => by rfl))
 SsS.nil))) (fun zq zq => by rfl))
 (SsS.cons (StS.assignNew (md := 1) (i := 13) (by decide) (by rfl) (fun W => (EvB.rep (EvS.list (EvL.cons EvS.int EvL.nil (by rfl))) (EvS.bin (EvS.var (i := 2) (by rfl) (by decide +kernel) (by decide +kernel)) EvS.int))) (fun zq => by rfl))
 (SsS.cons (StS.for (i := 14) (by rfl) (fun W => (EvI.range (by decide +kernel) (o.noName _ (by kernel_rfl)) (EvL.cons (EvS.bin EvS.int (EvS.var (i := 2) (by rfl) (by decide +kernel) (by decide +kernel))) EvL.nil (by rfl)) (by rfl) (fun zq zq => by rfl)))
 (SsS.cons (StS.assign (i := 15) (by rfl) (fun W => (EvS.call (fig_fn G o) (by decide) (by decide +kernel) (by decide +kernel) (EvL.cons (EvS.var (i := 14) (by rfl) (by decide +kernel) (by decide +kernel)) (EvL.cons (EvS.var (i := 2) (by rfl) (by decide +kernel) (by decide +kernel)) EvL.nil (by rfl)) (by rfl)) (by rfl))) (fun zq => by rfl))
 (SsS.cons (StS.assignNew (md := 1) (i := 16) (by decide) (by rfl) (fun W => (EvB.list (EvL.cons EvS.int (EvL.cons EvS.int (EvL.cons EvS.int EvL.nil (by rfl)) (by rfl)) (by rfl)))) (fun zq => by rfl))
 (SsS.cons (StS.for (i := 17) (by rfl) (fun W => (EvI.list (EvS.var (i := 4) (by rfl) (by decide +kernel) (by decide +kernel))))
 (SsS.cons (StS.augItem (i := 16) (by rfl) (by decide +kernel) (fun W => (EvS.bin (EvS.sum (by decide +kernel) (o.noName _ (by kernel_rfl)) (EvL.cons (EvB.plain (EvB.zip (by decide +kernel) (by decide +kernel) (by decide +kernel) (by decide +kernel) (by rfl) (by decide +kernel) (o.noName _ (by kernel_rfl)) (EvS.var (i := 15) (by rfl) (by decide +kernel) (by decide +kernel)) (EvS.var (i := 17) (by rfl) (by decide +kernel) (by decide +kernel)) (by rfl) (by rfl) (fun zq zq => by rfl) (EvS.bin (EvS.var (i := 0) (by rfl) (by decide +kernel) (by decide +kernel)) (EvS.var (i := 1) (by rfl) (by decide +kernel) (by decide +kernel))) (fun zq zq => by rfl))) EvL.nil (by rfl)) (by rfl)) EvS.int)) (fun W => EvS.int) (by rfl))
 SsS.nil) (fun zq zq => by rfl))
 (SsS.cons (StS.unpackList (is := [18, 19, 20]) (xs := [(_, _), (_, _), (_, _)]) (by rfl) (by rfl) (fun W => (EvS.var (i := 16) (by rfl) (by decide +kernel) (by decide +kernel))) (fun zq => by rfl) (fun zq => by rfl))
 (SsS.cons (StS.augItem (i := 13) (by rfl) (by decide +kernel) (fun W => (EvS.count (EvS.var (i := 15) (by rfl) (by decide +kernel) (by decide +kernel)) EvS.int (by rfl) (fun zq => by rfl) (by decide +kernel))) (fun W => (EvS.bin (EvS.bin (EvS.bin (EvS.bin (EvS.bin (EvS.bin (EvS.var (i := 18) (by rfl) (by decide +kernel) (by decide +kernel)) (EvS.var (i := 18) (by rfl) (by decide +kernel) (by decide +kernel))) (EvS.bin (EvS.var (i := 19) (by rfl) (by decide +kernel) (by decide +kernel)) (EvS.var (i := 19) (by rfl) (by decide +kernel) (by decide +kernel)))) (EvS.bin (EvS.var (i := 20) (by rfl) (by decide +kernel) (by decide +kernel)) (EvS.var (i := 20) (by rfl) (by decide +kernel) (by decide +kernel)))) (EvS.bin (EvS.var (i := 18) (by rfl) (by decide +kernel) (by decide +kernel)) (EvS.var (i := 19) (by rfl) (by decide +kernel) (by decide +kernel)))) (EvS.bin (EvS.var (i := 19) (by rfl) (by decide +kernel) (by decide +kernel)) (EvS.var (i := 20) (by rfl) (by decide +kernel) (by decide +kernel)))) (EvS.bin (EvS.var (i := 20) (by rfl) (by decide +kernel) (by decide +kernel)) (EvS.var (i := 18) (by rfl) (by decide +kernel) (by decide +kernel))))) (by rfl))
 SsS.nil))))) (fun zq zq => by rfl))
 (SsS.cons (StS.ite (fun W => (TsS.or (TsS.cmp (EvS.call (i2d_fn G o) (by decide) (by decide +kernel) (by decide +kernel) (EvL.cons (EvS.var (i := 7) (by rfl) (by decide +kernel) (by decide +kernel)) (EvL.cons (EvS.bin EvS.int (EvS.bin (EvS.var (i := 1) (by rfl) (by decide +kernel) (by decide +kernel)) EvS.int)) EvL.nil (by rfl)) (by rfl)) (by rfl)) (EvS.var (i := 13) (by rfl) (by decide +kernel) (by decide +kernel)) (by rfl)) (TsS.one (TsS.cmp (EvS.call (d2i_fn G o) (by decide) (by decide +kernel) (by decide +kernel) (EvL.cons (EvS.var (i := 13) (by rfl) (by decide +kernel) (by decide +kernel)) (EvL.cons (EvS.bin EvS.int (EvS.bin (EvS.var (i := 1) (by rfl) (by decide +kernel) (by decide +kernel)) EvS.int)) EvL.nil (by rfl)) (by rfl)) (by rfl)) (EvS.var (i := 7) (by rfl) (by decide +kernel) (by decide +kernel)) (by rfl)))))
 (SsS.cons (StS.ret fun W => EvS.bool)
 SsS.nil)
 SsS.nil)
 (SsS.cons (StS.assign (i := 21) (by rfl) (fun W => (EvS.bin (EvS.bin (EvS.un EvS.int) (EvS.var (i := 2) (by rfl) (by decide +kernel) (by decide +kernel))) (EvS.var (i := 9) (by rfl) (by decide +kernel) (by decide +kernel)))) (fun zq => by rfl))
 (SsS.cons (StS.ite (fun W => (TsS.cmp (EvS.var (i := 21) (by rfl) (by decide +kernel) (by decide +kernel)) EvS.int (by rfl)))
 (SsS.cons (StS.aug (i := 21) (by rfl) (fun W => (EvS.bin (EvS.var (i := 3) (by rfl) (by decide +kernel) (by decide +kernel)) EvS.int)))
 SsS.nil)
 SsS.nil)
 (SsS.cons (StS.unpack (is := [22, 23]) (xs := [(_, _), (_, _)]) (by rfl) (by rfl) (fun W => (EvS.call (idm_fn G o) (by decide) (by decide +kernel) (by decide +kernel) (EvL.cons (EvS.var (i := 7) (by rfl) (by decide +kernel) (by decide +kernel)) (EvL.cons (EvS.bin (EvS.var (i := 3) (by rfl) (by decide +kernel) (by decide +kernel)) EvS.int) EvL.nil (by rfl)) (by rfl)) (by rfl))) (fun zq => by rfl) (fun zq => by rfl))
 (SsS.cons (StS.ite (fun W => (TsS.or (TsS.cmp (EvS.var (i := 23) (by rfl) (by decide +kernel) (by decide +kernel)) (EvS.bin (EvS.bin EvS.int (EvS.var (i := 2) (by rfl) (by decide +kernel) (by decide +kernel))) (EvS.var (i := 8) (by rfl) (by decide +kernel) (by decide +kernel))) (by rfl)) (TsS.one (TsS.cmp (EvS.bin (EvS.bin (EvS.var (i := 22) (by rfl) (by decide +kernel) (by decide +kernel)) (EvS.bin (EvS.var (i := 3) (by rfl) (by decide +kernel) (by decide +kernel)) EvS.int)) (EvS.var (i := 23) (by rfl) (by decide +kernel) (by decide +kernel))) (EvS.var (i := 7) (by rfl) (by decide +kernel) (by decide +kernel)) (by rfl)))))
 (SsS.cons (StS.ret fun W => EvS.bool)
 SsS.nil)
 SsS.nil)
 (SsS.cons (StS.unpack (is := [22, 23]) (xs := [(_, _), (_, _)]) (by rfl) (by rfl) (fun W => (EvS.call (idm_fn G o) (by decide) (by decide +kernel) (by decide +kernel) (EvL.cons (EvS.var (i := 7) (by rfl) (by decide +kernel) (by decide +kernel)) (EvL.cons (EvS.bin (EvS.un (EvS.var (i := 3) (by rfl) (by decide +kernel) (by decide +kernel))) EvS.int) EvL.nil (by rfl)) (by rfl)) (by rfl))) (fun zq => by rfl) (fun zq => by rfl))
 (SsS.cons (StS.ret fun W => (EvS.and (EvS.cmp (EvS.var (i := 23) (by rfl) (by decide +kernel) (by decide +kernel)) (EvS.var (i := 21) (by rfl) (by decide +kernel) (by decide +kernel)) (by rfl)) (EvS.one (EvS.cmp (EvS.bin (EvS.bin (EvS.var (i := 22) (by rfl) (by decide +kernel) (by decide +kernel)) (EvS.bin (EvS.un (EvS.var (i := 3) (by rfl) (by decide +kernel) (by decide +kernel))) EvS.int)) (EvS.var (i := 23) (by rfl) (by decide +kernel) (by decide +kernel))) (EvS.var (i := 7) (by rfl) (by decide +kernel) (by decide +kernel)) (by rfl)))))
 SsS.nil)))))))))))))))))))
end Mine
end

section
open PySem
set_option Elab.async false
set_option tactic.hygienic false
namespace Mine
noncomputable def sm (f : Nat → Int) : Nat → Int
  | 0 => 0
  | k + 1 => sm f k + f k
theorem sm_add (f g : Nat → Int) : ∀ k, sm (fun i => f i + g i) k = sm f k + sm g k
  | 0 => rfl
  | k + 1 => by simp only [sm, sm_add f g k]; lia
theorem sm_mul (c : Int) (f : Nat → Int) : ∀ k, sm (fun i => c * f i) k = c * sm f k
  | 0 => by simp [sm]
  | k + 1 => by simp only [sm, sm_mul c f k]; grind
theorem sm_congr {f g : Nat → Int} : ∀ {k}, (∀ i, i < k → f i = g i) → sm f k = sm g k
  | 0, _ => rfl
  | k + 1, h => by simp only [sm]; rw [sm_congr fun i hi => h i (by lia), h k (by lia)]
theorem sm_zero : ∀ k, sm (fun zq => 0) k = 0
  | 0 => rfl
  | k + 1 => by simp only [sm, sm_zero k]; rfl
theorem sm_three (f : Nat → Int) : ∀ k, sm f (3 * k) = sm (fun q => f (3 * q) + f (3 * q + 1) + f (3 * q + 2)) k
  | 0 => rfl
  | k + 1 => by rw [show 3 * (k + 1) = 3 * k + 1 + 1 + 1 by lia]; simp only [sm, sm_three f k]; lia
noncomputable def figN : Nat → Nat → List Nat
  | 0, _ => []
  | n + 1, x => x % 3 :: figN n (x / 3)
theorem figN_len : ∀ n x, (figN n x).length = n
  | 0, _ => rfl
  | n + 1, x => by simp [figN, figN_len n]
theorem figN_lt : ∀ n x, ∀ d ∈ figN n x, d < 3
  | 0, _, d, h => by cases h
  | n + 1, x, d, h => by
    rcases List.mem_cons.mp h with rfl | h
    · exact Nat.mod_lt _ (by decide)
    · exact figN_lt n _ d h
theorem sm_figs (n : Nat) (g : List Nat → Int) : sm (fun t => g (figN (n + 1) t)) (3 ^ (n + 1)) = sm (fun q => g (0 :: figN n q) + g (1 :: figN n q) + g (2 :: figN n q)) (3 ^ n) := by
  rw [Nat.pow_succ, Nat.mul_comm, sm_three]
  refine sm_congr fun q zq => ?_
  have h0 : figN (n + 1) (3 * q) = 0 :: figN n q := by simp [figN]
  have h1 : figN (n + 1) (3 * q + 1) = 1 :: figN n q := by simp only [figN]; congr 1; lia; congr 1; lia
  have h2 : figN (n + 1) (3 * q + 2) = 2 :: figN n q := by simp only [figN]; congr 1; lia; congr 1; lia
  rw [h0, h1, h2]
noncomputable def dot : List Nat → List Nat → Nat
  | m :: ms, w :: ws => m * w + dot ms ws
  | _, _ => 0
noncomputable def zer (m : List Nat) : Nat := m.count 0
noncomputable def T (X : Int) (n : Nat) (d : List Nat) (c : Nat) : Int := sm (fun t => if dot (figN n t) d % 3 = c then X ^ zer (figN n t) else 0) (3 ^ n)
theorem T_step (X : Int) (n d0 : Nat) (d : List Nat) (c : Nat) (hc : c < 3) : T X (n + 1) (d0 :: d) c = X * T X n d c + T X n d ((c + 2 * d0) % 3) + T X n d ((c + d0) % 3) := by
  unfold T
  rw [sm_figs n (fun m => if dot m (d0 :: d) % 3 = c then X ^ zer m else 0), ← sm_mul, ← sm_add, ← sm_add]
  refine sm_congr fun q zq => ?_
  generalize figN n q = m
  simp only [dot]
  have z0 : zer (0 :: m) = zer m + 1 := by unfold zer; simp
  have z1 : zer (1 :: m) = zer m := by unfold zer; simp
  have z2 : zer (2 :: m) = zer m := by unfold zer; simp
  rw [z0, z1, z2]
  have e0 : ((0 * d0 + dot m d) % 3 = c) ↔ (dot m d % 3 = c) := by lia
  have e1 : ((1 * d0 + dot m d) % 3 = c) ↔ (dot m d % 3 = (c + 2 * d0) % 3) := by lia
  have e2 : ((2 * d0 + dot m d) % 3 = c) ↔ (dot m d % 3 = (c + d0) % 3) := by lia
  simp only [e0, e1, e2]
  congr 1
  congr 1
  split
  · rw [Int.pow_succ, Int.mul_comm]
  · rw [Int.mul_zero]
noncomputable def pr (X : Int) : List Nat → Int
  | [] => 1
  | d :: ds => (if d % 3 = 0 then X + 2 else X - 1) * pr X ds
theorem T_all (X : Int) : ∀ d : List Nat, T X d.length d 1 = T X d.length d 2 ∧ T X d.length d 0 - T X d.length d 1 = pr X d
  | [] => by refine ⟨rfl, ?_⟩; simp [T, pr, sm, dot, figN, zer]
  | d0 :: d => by
    obtain ⟨h1, h2⟩ := T_all X d
    simp only [List.length_cons, pr]
    rw [T_step X _ d0 d 0 (by decide), T_step X _ d0 d 1 (by decide), T_step X _ d0 d 2 (by decide)]
    have h : d0 % 3 = 0 ∨ d0 % 3 = 1 ∨ d0 % 3 = 2 := by lia
    rcases h with h | h | h
    · rw [show (0 + 2 * d0) % 3 = 0 by lia, show (0 + d0) % 3 = 0 by lia, show (1 + 2 * d0) % 3 = 1 by lia, show (1 + d0) % 3 = 1 by lia, show (2 + 2 * d0) % 3 = 2 by lia, show (2 + d0) % 3 = 2 by lia, if_pos h]
      refine ⟨by rw [h1], ?_⟩
      rw [← h2]; grind
    · rw [show (0 + 2 * d0) % 3 = 2 by lia, show (0 + d0) % 3 = 1 by lia, show (1 + 2 * d0) % 3 = 0 by lia, show (1 + d0) % 3 = 2 by lia, show (2 + 2 * d0) % 3 = 1 by lia, show (2 + d0) % 3 = 0 by lia, if_neg (by lia)]
      rw [← h2, ← h1]
      refine ⟨by grind, by grind⟩
    · rw [show (0 + 2 * d0) % 3 = 1 by lia, show (0 + d0) % 3 = 2 by lia, show (1 + 2 * d0) % 3 = 2 by lia, show (1 + d0) % 3 = 0 by lia, show (2 + 2 * d0) % 3 = 0 by lia, show (2 + d0) % 3 = 1 by lia, if_neg (by lia)]
      rw [← h2, ← h1]
      refine ⟨by grind, by grind⟩
theorem Z_all (X : Int) : ∀ n, sm (fun t => X ^ zer (figN n t)) (3 ^ n) = (X + 2) ^ n
  | 0 => by simp [sm, figN, zer]
  | n + 1 => by
    rw [sm_figs n (fun m => X ^ zer m), Int.pow_succ, ← Z_all X n, Int.mul_comm, ← sm_mul]
    refine sm_congr fun q zq => ?_
    generalize figN n q = m
    have z0 : zer (0 :: m) = zer m + 1 := by unfold zer; simp
    have z1 : zer (1 :: m) = zer m := by unfold zer; simp
    have z2 : zer (2 :: m) = zer m := by unfold zer; simp
    rw [z0, z1, z2, Int.pow_succ]
    grind
noncomputable def far : List Nat → List Nat → Nat
  | a :: u, b :: v => (if a = b then 0 else 1) + far u v
  | _, _ => 0
theorem far_le : ∀ u v : List Nat, u.length = v.length → far u v ≤ u.length
  | [], _, _ => by simp [far]
  | a :: u, b :: v, h => by simp only [far, List.length_cons] at *; have := far_le u v (by lia); split <;> lia
  | a :: u, [], h => by cases h
noncomputable def dif : List Nat → List Nat → List Nat
  | a :: u, b :: v => (a + 2 * b) :: dif u v
  | _, _ => []
theorem dif_len : ∀ u v : List Nat, u.length = v.length → (dif u v).length = u.length
  | [], _, _ => by simp [dif]
  | a :: u, b :: v, h => by simp only [dif, List.length_cons] at *; have := dif_len u v (by lia); lia
  | a :: u, [], h => by cases h
theorem dot_dif : ∀ (m u v : List Nat), u.length = v.length → dot m (dif u v) = dot m u + 2 * dot m v
  | [], _, _, _ => by simp [dot]
  | x :: m, [], [], _ => by simp [dot, dif]
  | x :: m, a :: u, b :: v, h => by
    simp only [dif, dot, List.length_cons] at *
    rw [dot_dif m u v (by lia)]
    grind
  | x :: m, a :: u, [], h => by cases h
  | x :: m, [], b :: v, h => by cases h
theorem pr_dif (X : Int) : ∀ u v : List Nat, u.length = v.length → (∀ a ∈ u, a < 3) → (∀ b ∈ v, b < 3) → pr X (dif u v) = (X - 1) ^ far u v * (X + 2) ^ (u.length - far u v)
  | [], [], _, _, _ => by simp [pr, dif, far]
  | a :: u, b :: v, h, hu, hv => by
    simp only [List.length_cons] at h
    have ih := pr_dif X u v (by lia) (fun x hx => hu x (List.mem_cons_of_mem _ hx)) (fun x hx => hv x (List.mem_cons_of_mem _ hx))
    have ha := hu a List.mem_cons_self
    have hb := hv b List.mem_cons_self
    have hf := far_le u v (by lia)
    simp only [dif, pr, far, List.length_cons, ih]
    by_cases hab : a = b
    · subst hab
      rw [if_pos (by lia), if_pos rfl, Nat.zero_add, show u.length + 1 - far u v = (u.length - far u v) + 1 by lia, Int.pow_succ]
      grind
    · rw [if_neg (by lia), if_neg hab, show u.length + 1 - (1 + far u v) = u.length - far u v by lia, Nat.add_comm 1, Int.pow_succ]
      grind
  | a :: u, [], h, _, _ => by cases h
  | [], b :: v, h, _, _ => by cases h
theorem pair_sum (X : Int) (u v : List Nat) (h : u.length = v.length) (hu : ∀ a ∈ u, a < 3) (hv : ∀ b ∈ v, b < 3) :
    sm (fun t => (if dot (figN u.length t) u % 3 = dot (figN u.length t) v % 3 then (2 : Int) else -1) * X ^ zer (figN u.length t)) (3 ^ u.length) = 2 * (X - 1) ^ far u v * (X + 2) ^ (u.length - far u v) := by
  have hl := dif_len u v h
  obtain ⟨h1, h2⟩ := T_all X (dif u v)
  rw [hl] at h1 h2
  rw [Int.mul_assoc, ← pr_dif X u v h hu hv, ← h2]
  have key : sm (fun t => (if dot (figN u.length t) u % 3 = dot (figN u.length t) v % 3 then (2 : Int) else -1) * X ^ zer (figN u.length t)) (3 ^ u.length) = 2 * T X u.length (dif u v) 0 + -1 * T X u.length (dif u v) 1 + -1 * T X u.length (dif u v) 2 := by
    unfold T
    rw [← sm_mul, ← sm_mul, ← sm_mul, ← sm_add, ← sm_add]
    refine sm_congr fun t zq => ?_
    rw [dot_dif _ u v h]
    generalize dot (figN u.length t) u = p
    generalize dot (figN u.length t) v = q
    generalize X ^ zer (figN u.length t) = Y
    have hr : (p + 2 * q) % 3 = 0 ∨ (p + 2 * q) % 3 = 1 ∨ (p + 2 * q) % 3 = 2 := by lia
    rcases hr with hr | hr | hr
    · rw [if_pos (by lia), hr]; simp
    · rw [if_neg (by lia), hr]; simp
    · rw [if_neg (by lia), hr]; simp
  rw [key, ← h1]
  grind
end Mine
end

section
open PySem
set_option Elab.async false
set_option tactic.hygienic false
namespace Mine
noncomputable def cnt (m : List Nat) (ws : List (List Nat)) (r : Nat) : Nat := ws.countP fun w => dot m w % 3 == r
noncomputable def val3 (a b c : Int) : Int := a * a + b * b + c * c - a * b - b * c - c * a
noncomputable def val (m : List Nat) (ws : List (List Nat)) : Int := val3 (cnt m ws 0) (cnt m ws 1) (cnt m ws 2)
noncomputable def ee (m u v : List Nat) : Int := if dot m u % 3 = dot m v % 3 then 2 else -1
theorem cnt_snoc (m : List Nat) (ws : List (List Nat)) (w : List Nat) (r : Nat) : cnt m (ws ++ [w]) r = cnt m ws r + if dot m w % 3 = r then 1 else 0 := by
  unfold cnt
  rw [List.countP_append]
  congr 1
  by_cases h : dot m w % 3 = r <;> simp [h]
theorem cnt_all (m : List Nat) : ∀ ws : List (List Nat), cnt m ws 0 + cnt m ws 1 + cnt m ws 2 = ws.length
  | [] => rfl
  | w :: ws => by
    have := cnt_all m ws
    unfold cnt at *
    simp only [List.countP_cons, List.length_cons, beq_iff_eq]
    have h : dot m w % 3 = 0 ∨ dot m w % 3 = 1 ∨ dot m w % 3 = 2 := by lia
    rcases h with h | h | h <;> rw [h] <;> simp <;> lia
theorem ee_sum (m w : List Nat) : ∀ ws : List (List Nat), (ws.map fun u => ee m u w).sum = 3 * (cnt m ws (dot m w % 3) : Int) - ws.length
  | [] => rfl
  | u :: ws => by
    have ih := ee_sum m w ws
    simp only [List.map_cons, List.sum_cons, List.length_cons, ih]
    unfold ee cnt
    rw [List.countP_cons]
    by_cases h : dot m u % 3 = dot m w % 3
    · rw [if_pos h]; simp [h]; lia
    · rw [if_neg h]; simp [h]; lia
theorem val_snoc (m : List Nat) (ws : List (List Nat)) (w : List Nat) : val m (ws ++ [w]) = val m ws + 1 + (ws.map fun u => ee m u w).sum := by
  rw [ee_sum]
  have ha := cnt_all m ws
  unfold val
  rw [cnt_snoc, cnt_snoc, cnt_snoc]
  unfold val3
  have h : dot m w % 3 = 0 ∨ dot m w % 3 = 1 ∨ dot m w % 3 = 2 := by lia
  rw [← ha]
  rcases h with h | h | h <;> rw [h] <;> simp <;> grind
theorem val_nil (m : List Nat) : val m [] = 0 := rfl
theorem val3_bound : ∀ a b c : Nat, a + b + c ≤ 5 → 0 ≤ val3 a b c ∧ val3 a b c ≤ 25 := by
  intro a b c h
  have key : ∀ a b c : Fin 6, a.val + b.val + c.val ≤ 5 → 0 ≤ val3 (a.val : Int) (b.val : Int) (c.val : Int) ∧ val3 (a.val : Int) (b.val : Int) (c.val : Int) ≤ 25 := by decide +kernel
  exact key ⟨a, by lia⟩ ⟨b, by lia⟩ ⟨c, by lia⟩ h
theorem val_bound (m : List Nat) (ws : List (List Nat)) (h : ws.length ≤ 5) : 0 ≤ val m ws ∧ val m ws ≤ 25 := val3_bound _ _ _ (by rw [cnt_all]; exact h)

noncomputable def SS (X : Int) (n : Nat) (ws : List (List Nat)) : Int := sm (fun t => val (figN n t) ws * X ^ zer (figN n t)) (3 ^ n)
theorem sm_listsum (Y : Nat → Int) (f : Nat → List Nat → Int) (k : Nat) : ∀ ws : List (List Nat), sm (fun t => (ws.map fun u => f t u).sum * Y t) k = (ws.map fun u => sm (fun t => f t u * Y t) k).sum
  | [] => by simp [sm_zero]
  | u :: ws => by
    simp only [List.map_cons, List.sum_cons]
    rw [← sm_listsum Y f k ws, ← sm_add]
    exact sm_congr fun t zq => by rw [Int.add_mul]
noncomputable def okW (n : Nat) (w : List Nat) : Prop := w.length = n ∧ ∀ a ∈ w, a < 3
theorem SS_snoc (X : Int) (n : Nat) (ws : List (List Nat)) (w : List Nat) (hw : okW n w) (hws : ∀ u ∈ ws, okW n u) : SS X n (ws ++ [w]) = SS X n ws + ((X + 2) ^ n + (ws.map fun u => 2 * (X - 1) ^ far u w * (X + 2) ^ (n - far u w)).sum) := by
  unfold SS
  rw [← Z_all X n]
  have h2 : (ws.map fun u => 2 * (X - 1) ^ far u w * (X + 2) ^ (n - far u w)).sum = sm (fun t => (ws.map fun u => ee (figN n t) u w).sum * X ^ zer (figN n t)) (3 ^ n) := by
    rw [sm_listsum (fun t => X ^ zer (figN n t)) (fun t u => ee (figN n t) u w)]
    congr 1
    refine List.map_congr_left fun u hu => ?_
    have := pair_sum X u w (by rw [(hws u hu).1, hw.1]) (hws u hu).2 hw.2
    rw [(hws u hu).1] at this
    exact this.symm
  rw [h2, ← sm_add, ← sm_add]
  refine sm_congr fun t zq => ?_
  rw [val_snoc]
  grind
theorem far_comm : ∀ u v : List Nat, far u v = far v u
  | [], [] => rfl
  | [], _ :: _ => rfl
  | _ :: _, [] => rfl
  | a :: u, b :: v => by
    simp only [far, far_comm u v]
    congr 1
    by_cases h : a = b
    · rw [if_pos h, if_pos h.symm]
    · rw [if_neg h, if_neg (Ne.symm h)]
noncomputable abbrev wat (ws : List (List Nat)) (i : Nat) : List Nat := (ws[i]?).getD []
noncomputable def whole (X : Int) (n : Nat) (ws : List (List Nat)) (k : Nat) : Int := sm (fun i => (X + 2) ^ n + sm (fun j => 2 * (X - 1) ^ far (wat ws i) (wat ws j) * (X + 2) ^ (n - far (wat ws i) (wat ws j))) i) k
theorem sm_take (f : List Nat → Int) (ws : List (List Nat)) : ∀ k, k ≤ ws.length → sm (fun j => f (wat ws j)) k = ((ws.take k).map f).sum
  | 0, _ => by simp [sm]
  | k + 1, h => by
    simp only [sm]
    rw [sm_take f ws k (by lia), List.take_add_one, List.map_append, List.sum_append]
    congr 1
    have hw : wat ws k = ws[k] := by unfold wat; rw [List.getElem?_eq_getElem (by lia)]; rfl
    rw [hw, List.getElem?_eq_getElem (by lia)]
    simp
theorem SS_whole (X : Int) (n : Nat) (ws : List (List Nat)) (hws : ∀ u ∈ ws, okW n u) : ∀ k, k ≤ ws.length → SS X n (ws.take k) = whole X n ws k
  | 0, _ => by
    unfold SS whole
    simp only [List.take_zero, val_nil, Int.zero_mul, sm]
    exact sm_zero _
  | k + 1, h => by
    have hk : k < ws.length := by lia
    rw [List.take_add_one, List.getElem?_eq_getElem hk]
    simp only [Option.toList_some]
    rw [SS_snoc X n _ _ (hws _ (List.getElem_mem hk)) (fun u hu => hws u (List.mem_of_mem_take hu)), SS_whole X n ws hws k (by lia)]
    unfold whole
    simp only [sm]
    congr 2
    rw [← sm_take (fun u => 2 * (X - 1) ^ far u ws[k] * (X + 2) ^ (n - far u ws[k])) ws k (by lia)]
    refine sm_congr fun j zq => ?_
    have : wat ws k = ws[k] := by unfold wat; rw [List.getElem?_eq_getElem hk]; rfl
    rw [this, far_comm]

noncomputable def dueF (n : Nat) (ws : List (List Nat)) : Nat → List Int
  | 0 => List.replicate (n + 1) 0
  | t + 1 => (dueF n ws t).set (zer (figN n t)) ((dueF n ws t).getD (zer (figN n t)) 0 + val (figN n t) ws)
noncomputable def evalL (X : Int) : List Int → Int
  | [] => 0
  | d :: ds => d + X * evalL X ds
theorem evalL_set (X : Int) : ∀ (l : List Int) (z : Nat) (v : Int), z < l.length → evalL X (l.set z (l.getD z 0 + v)) = evalL X l + v * X ^ z
  | d :: l, 0, v, _ => by simp [evalL]; lia
  | d :: l, z + 1, v, h => by
    have ih := evalL_set X l z v (by simpa using h)
    simp only [List.set_cons_succ, List.getD_cons_succ, evalL, ih, Int.pow_succ]
    grind
theorem dueF_len (n : Nat) (ws : List (List Nat)) : ∀ t, (dueF n ws t).length = n + 1
  | 0 => by simp [dueF]
  | t + 1 => by simp [dueF, dueF_len n ws t]
theorem zer_le (n t : Nat) : zer (figN n t) < n + 1 := by
  have := List.count_le_length (a := 0) (l := figN n t)
  rw [figN_len] at this
  unfold zer; lia
theorem evalL_rep (X : Int) : ∀ n, evalL X (List.replicate n 0) = 0
  | 0 => rfl
  | n + 1 => by simp [List.replicate_succ, evalL, evalL_rep X n]
theorem dueF_eval (X : Int) (n : Nat) (ws : List (List Nat)) : ∀ t, evalL X (dueF n ws t) = sm (fun t => val (figN n t) ws * X ^ zer (figN n t)) t
  | 0 => evalL_rep X _
  | t + 1 => by simp only [dueF, sm]; rw [evalL_set X _ _ _ (by rw [dueF_len]; exact zer_le n t), dueF_eval X n ws t]
theorem dueF_bound (n : Nat) (ws : List (List Nat)) (h : ws.length ≤ 5) : ∀ t, ∀ x ∈ dueF n ws t, 0 ≤ x ∧ x ≤ 25 * t
  | 0, x, hx => by simp [dueF] at hx; lia
  | t + 1, x, hx => by
    have ih := dueF_bound n ws h t
    have hb := val_bound (figN n t) ws h
    simp only [dueF] at hx
    rcases List.mem_or_eq_of_mem_set hx with hx | hx
    · have := ih x hx; lia
    · have hz : zer (figN n t) < (dueF n ws t).length := by rw [dueF_len]; exact zer_le n t
      have := ih _ (List.getElem_mem hz)
      rw [List.getD_eq_getElem?_getD, List.getElem?_eq_getElem hz] at hx
      simp only [Option.getD_some] at hx
      lia
theorem evalL_undgs (w : Nat) : ∀ l : List Int, (∀ x ∈ l, 0 ≤ x) → evalL (2 ^ w) l = ((undgs w (l.map Int.toNat) : Nat) : Int)
  | [], _ => rfl
  | d :: l, h => by
    have hd := h d List.mem_cons_self
    simp only [evalL, List.map_cons, undgs, evalL_undgs w l fun x hx => h x (List.mem_cons_of_mem _ hx)]
    rw [Int.natCast_add, Int.natCast_mul, Int.natCast_pow, Int.toNat_of_nonneg hd]
    rfl

theorem sm_nonneg {f : Nat → Int} : ∀ {k}, (∀ i, i < k → 0 ≤ f i) → 0 ≤ sm f k
  | 0, _ => Int.le_refl _
  | k + 1, h => by simp only [sm]; have := sm_nonneg (k := k) fun i hi => h i (by lia); have := h k (by lia); lia
theorem whole_ge (X : Int) (hX : 1 ≤ X) (n : Nat) (ws : List (List Nat)) (k : Nat) (hk : 1 ≤ k) : X ^ n ≤ whole X n ws k := by
  obtain ⟨j, rfl⟩ : ∃ j, k = j + 1 := ⟨k - 1, by lia⟩
  have pos : ∀ i, 0 ≤ (X + 2) ^ n + sm (fun j => 2 * (X - 1) ^ far (wat ws i) (wat ws j) * (X + 2) ^ (n - far (wat ws i) (wat ws j))) i := fun i => by
    have h1 : 0 ≤ (X + 2) ^ n := Int.pow_nonneg (by lia)
    have h2 : 0 ≤ sm (fun j => 2 * (X - 1) ^ far (wat ws i) (wat ws j) * (X + 2) ^ (n - far (wat ws i) (wat ws j))) i := sm_nonneg fun j zq => Int.mul_nonneg (Int.mul_nonneg (by decide) (Int.pow_nonneg (by lia))) (Int.pow_nonneg (by lia))
    lia
  have h0 : 0 ≤ sm (fun i => (X + 2) ^ n + sm (fun j => 2 * (X - 1) ^ far (wat ws i) (wat ws j) * (X + 2) ^ (n - far (wat ws i) (wat ws j))) i) j := sm_nonneg fun i zq => pos i
  have h1 : X ^ n ≤ (X + 2) ^ n := by
    have key : ∀ n : Nat, X ^ n ≤ (X + 2) ^ n := by
      intro n
      induction n with
      | zero => simp
      | succ n ih => rw [Int.pow_succ, Int.pow_succ]; exact Int.mul_le_mul ih (by lia) (by lia) (Int.pow_nonneg (by lia))
    exact key n
  have h2 : 0 ≤ sm (fun j' => 2 * (X - 1) ^ far (wat ws j) (wat ws j') * (X + 2) ^ (n - far (wat ws j) (wat ws j'))) j := sm_nonneg fun j' zq => Int.mul_nonneg (Int.mul_nonneg (by decide) (Int.pow_nonneg (by lia))) (Int.pow_nonneg (by lia))
  show X ^ n ≤ sm _ j + ((X + 2) ^ n + _)
  lia
theorem sm_cong (a : Int) {f g : Nat → Int} : ∀ {k}, (∀ i, i < k → ∃ q, f i = a * q + g i) → ∃ q, sm f k = a * q + sm g k
  | 0, _ => ⟨0, by simp [sm]⟩
  | k + 1, h => by
    obtain ⟨q1, h1⟩ := sm_cong a (k := k) fun i hi => h i (by lia)
    obtain ⟨q2, h2⟩ := h k (by lia)
    exact ⟨q1 + q2, by simp only [sm]; rw [h1, h2]; grind⟩
theorem pow_cong (a b : Int) : ∀ n : Nat, ∃ q, (a + b) ^ n = a * q + b ^ n
  | 0 => ⟨0, by simp⟩
  | n + 1 => by
    obtain ⟨q, h⟩ := pow_cong a b n
    exact ⟨q * (a + b) + b ^ n, by rw [Int.pow_succ, h, Int.pow_succ]; grind⟩
noncomputable def alike (n : Nat) (ws : List (List Nat)) (k : Nat) : Int := sm (fun i => 1 + sm (fun j => if far (wat ws i) (wat ws j) = 0 then 2 else 0) i) k
noncomputable def unlike (n : Nat) (ws : List (List Nat)) (k : Nat) : Int := sm (fun i => sm (fun j => if far (wat ws i) (wat ws j) = n then 2 else 0) i) k
theorem whole_minus (X : Int) (n : Nat) (ws : List (List Nat)) (k : Nat) : ∃ q, whole X n ws k = (X - 1) * q + 3 ^ n * alike n ws k := by
  unfold whole alike
  rw [← sm_mul]
  refine sm_cong (X - 1) fun i zq => ?_
  obtain ⟨q1, h1⟩ := pow_cong (X - 1) 3 n
  rw [show X - 1 + 3 = X + 2 by lia] at h1
  obtain ⟨q2, h2⟩ := sm_cong (X - 1) (f := fun j => 2 * (X - 1) ^ far (wat ws i) (wat ws j) * (X + 2) ^ (n - far (wat ws i) (wat ws j))) (g := fun j => 3 ^ n * if far (wat ws i) (wat ws j) = 0 then 2 else 0) (k := i) fun j zq => by
    generalize far (wat ws i) (wat ws j) = f
    by_cases hf : f = 0
    · subst hf; refine ⟨2 * q1, ?_⟩
      rw [if_pos rfl, Nat.sub_zero, h1]; simp only [Int.pow_zero]; grind
    · rw [if_neg hf]
      obtain ⟨f', rfl⟩ : ∃ f', f = f' + 1 := ⟨f - 1, by lia⟩
      exact ⟨2 * (X - 1) ^ f' * (X + 2) ^ (n - (f' + 1)), by rw [Int.pow_succ]; grind⟩
  rw [sm_mul] at h2
  exact ⟨q1 + q2, by rw [h1, h2]; grind⟩
theorem whole_plus (X : Int) (n : Nat) (hn : 1 ≤ n) (ws : List (List Nat)) (hf : ∀ i j, far (wat ws i) (wat ws j) ≤ n) (k : Nat) : ∃ q, whole X n ws k = (X + 2) * q + (-3) ^ n * unlike n ws k := by
  unfold whole unlike
  rw [← sm_mul]
  refine sm_cong (X + 2) fun i zq => ?_
  obtain ⟨q1, h1⟩ := pow_cong (X + 2) (-3) n
  rw [show X + 2 + -3 = X - 1 by lia] at h1
  obtain ⟨q2, h2⟩ := sm_cong (X + 2) (f := fun j => 2 * (X - 1) ^ far (wat ws i) (wat ws j) * (X + 2) ^ (n - far (wat ws i) (wat ws j))) (g := fun j => (-3) ^ n * if far (wat ws i) (wat ws j) = n then 2 else 0) (k := i) fun j zq => by
    have := hf i j
    generalize far (wat ws i) (wat ws j) = f at *
    by_cases hfn : f = n
    · subst hfn; refine ⟨2 * q1, ?_⟩
      rw [if_pos rfl, Nat.sub_self, h1]; simp only [Int.pow_zero]; grind
    · rw [if_neg hfn]
      obtain ⟨r, hr⟩ : ∃ r, n - f = r + 1 := ⟨n - f - 1, by lia⟩
      exact ⟨2 * (X - 1) ^ f * (X + 2) ^ r, by rw [hr, Int.pow_succ]; grind⟩
  rw [sm_mul] at h2
  obtain ⟨m, rfl⟩ : ∃ m, n = m + 1 := ⟨n - 1, by lia⟩
  exact ⟨(X + 2) ^ m + q2, by rw [h2, Int.pow_succ]; grind⟩
theorem sm_le {f g : Nat → Int} : ∀ {k}, (∀ i, i < k → f i ≤ g i) → sm f k ≤ sm g k
  | 0, _ => Int.le_refl _
  | k + 1, h => by simp only [sm]; have := sm_le (k := k) fun i hi => h i (by lia); have := h k (by lia); lia
theorem sm_const (c : Int) : ∀ k : Nat, sm (fun zq => c) k = c * k
  | 0 => by simp [sm]
  | k + 1 => by simp only [sm, sm_const c k]; rw [Int.natCast_add, Int.mul_add]; simp
theorem alike_bound (n : Nat) (ws : List (List Nat)) (k : Nat) (hk : k ≤ 5) : 0 ≤ alike n ws k ∧ alike n ws k ≤ 25 := by
  unfold alike
  have h1 : ∀ i, 0 ≤ sm (fun j => if far (wat ws i) (wat ws j) = 0 then (2 : Int) else 0) i ∧ sm (fun j => if far (wat ws i) (wat ws j) = 0 then (2 : Int) else 0) i ≤ 2 * i := fun i =>
    ⟨sm_nonneg fun j zq => by split <;> decide, by rw [← sm_const 2 i]; exact sm_le fun j zq => by split <;> decide⟩
  refine ⟨sm_nonneg fun i zq => by have := h1 i; lia, Int.le_trans (sm_le (g := fun i => 1 + 2 * (i : Int)) fun i zq => by have := h1 i; lia) ?_⟩
  have : ∀ k : Nat, k ≤ 5 → sm (fun i => 1 + 2 * (i : Int)) k ≤ 25 := by decide +kernel
  exact this k hk
theorem unlike_bound (n : Nat) (ws : List (List Nat)) (k : Nat) (hk : k ≤ 5) : 0 ≤ unlike n ws k ∧ unlike n ws k ≤ 20 := by
  unfold unlike
  have h1 : ∀ i, 0 ≤ sm (fun j => if far (wat ws i) (wat ws j) = n then (2 : Int) else 0) i ∧ sm (fun j => if far (wat ws i) (wat ws j) = n then (2 : Int) else 0) i ≤ 2 * i := fun i =>
    ⟨sm_nonneg fun j zq => by split <;> decide, by rw [← sm_const 2 i]; exact sm_le fun j zq => by split <;> decide⟩
  refine ⟨sm_nonneg fun i zq => (h1 i).1, Int.le_trans (sm_le (g := fun i => 2 * (i : Int)) fun i zq => (h1 i).2) ?_⟩
  have : ∀ k : Nat, k ≤ 5 → sm (fun i => 2 * (i : Int)) k ≤ 20 := by decide +kernel
  exact this k hk
end Mine
end

section
open PySem PySem.W PyProof.Rows
set_option Elab.async false
set_option tactic.hygienic false
set_option maxRecDepth 100000
set_option autoImplicit false
set_option linter.unusedVariables false
namespace Mine
theorem ap_ite_t {t f g : List Slot → Option AV} {sl : List Slot} {a r : AV} (ht : Ap t sl = some a) (h : truth a = some true) (hf : Ap f sl = some r) : Ap (iteV t f g) sl = some r := by
  show (Ap t sl).bind (fun a => (truth a).bind fun c => if c then Ap f sl else Ap g sl) = _
  rw [ht, Option.bind_some, h]; exact hf
theorem ap_ite_f {t f g : List Slot → Option AV} {sl : List Slot} {a r : AV} (ht : Ap t sl = some a) (h : truth a = some false) (hf : Ap g sl = some r) : Ap (iteV t f g) sl = some r := by
  show (Ap t sl).bind (fun a => (truth a).bind fun c => if c then Ap f sl else Ap g sl) = _
  rw [ht, Option.bind_some, h]; exact hf
theorem ap_list {f : List Slot → Option (List AV)} {sl : List Slot} {xs : List AV} (hf : f sl = some xs) (h : xs.length < 1000000) : Ap (fun sl => (f sl).bind fun xs => if xs.length < 1000000 then some (AV.lst xs) else none) sl = some (.lst xs) := by
  show (f sl).bind _ = _
  rw [hf, Option.bind_some, if_pos h]
theorem aug_ap {i : Nat} {op : Operator} {f : List Slot → Option AV} {sl : List Slot} {a b r : AV} (h1 : sl[i]? = some (.val a)) (h2 : Ap f sl = some b) (h3 : augV op a b = some r) : augF i op f sl = some (.next, sl.set i (.val r)) := by
  unfold augF
  rw [h1]
  show (Ap f sl).bind (fun b => (augV op a b).bind fun r => some (Fl.next, sl.set i (.val r))) = _
  rw [h2, Option.bind_some, h3]; rfl
theorem comp_mapG {fi : List Slot → Option (List AV)} {ft : List Slot → Option Bool} {fe : List Slot → Option AV} {ix : List Nat} {sl : List Slot} {items : List AV} (g : AV → AV) (hi : fi sl = some items) (hf : firmL items = true) (hl : items.length < 1000000)
    (h : ∀ x ∈ items, ft (cslots sl ix x) = some true ∧ Ap fe (cslots sl ix x) = some (g x) ∧ (g x).firm = true) : compF fi ft fe ix sl = some (items.map g) := by
  unfold compF
  rw [hi, Option.bind_some, if_pos ⟨hf, hl⟩]
  clear hi hf hl
  induction items with
  | nil => rfl
  | cons x r ih =>
    obtain ⟨h1, h2, h3⟩ := h x List.mem_cons_self
    unfold compV
    rw [h1, Option.bind_some, if_pos rfl]
    show (Ap fe (cslots sl ix x)).bind _ = _
    rw [h2, Option.bind_some, if_pos h3, ih fun y hy => h y (List.mem_cons_of_mem _ hy)]
    rfl
theorem comp_filterG {fi : List Slot → Option (List AV)} {ft : List Slot → Option Bool} {fe : List Slot → Option AV} {ix : List Nat} {sl : List Slot} {items : List AV} (p : AV → Bool) (hi : fi sl = some items) (hf : firmL items = true) (hl : items.length < 1000000)
    (h : ∀ x ∈ items, ft (cslots sl ix x) = some (p x) ∧ Ap fe (cslots sl ix x) = some x ∧ x.firm = true) : compF fi ft fe ix sl = some (items.filter p) := by
  unfold compF
  rw [hi, Option.bind_some, if_pos ⟨hf, hl⟩]
  clear hi hf hl
  induction items with
  | nil => rfl
  | cons x r ih =>
    obtain ⟨h1, h2, h3⟩ := h x List.mem_cons_self
    unfold compV
    rw [h1, Option.bind_some]
    have ih' := ih fun y hy => h y (List.mem_cons_of_mem _ hy)
    cases hp : p x with
    | false => rw [if_neg (by decide), ih', List.filter_cons, hp]; rfl
    | true =>
      rw [if_pos rfl]
      show (Ap fe (cslots sl ix x)).bind _ = _
      rw [h2, Option.bind_some, if_pos h3, ih', List.filter_cons, hp]; rfl
theorem ap_comp {f : List Slot → Option (List AV)} {sl : List Slot} {xs : List AV} (h : f sl = some xs) : Ap (fun sl => (f sl).map AV.lst) sl = some (.lst xs) := by
  show (f sl).map AV.lst = _
  rw [h]; rfl
theorem newF_val {i : Nat} {f : List Slot → Option (List AV)} {sl sl' : List Slot} {xs : List AV} (h : f sl = some xs) (hf : firmL xs = true) (hp : putS sl i (.val (.lst xs)) = some sl') : newF 0 i f sl = some (.next, sl') := by
  unfold newF
  rw [h, Option.bind_some, if_pos hf]
  show (putS sl i (.val (.lst xs))).map _ = _
  rw [hp]; rfl
theorem pow_int (x y : Int) (hx : small x = true) (h0 : 0 ≤ y) (h1 : y < 4000) : binV .Pow (.int x) (.int y) = some (.int (x ^ y.toNat)) := by
  show (if (small x && decide (0 ≤ y) && decide (y < 4000)) = true then some (x ^ y.toNat) else none).map AV.int = _
  rw [if_pos (by rw [hx, decide_eq_true h0, decide_eq_true h1]; rfl)]; rfl
theorem mod_int (x y : Int) (hy : y ≠ 0) : binV .Mod (.int x) (.int y) = some (.int (x.fmod y)) := by
  show (if y = 0 then none else some (x.fmod y)).map AV.int = _
  rw [if_neg hy]; rfl
theorem fdiv_int (x y : Int) (hy : y ≠ 0) (hs : small y = true) : binV .FloorDiv (.int x) (.int y) = some (.int (x.fdiv y)) := by
  show (if y ≠ 0 ∧ small y = true then some (x.fdiv y) else none).map AV.int = _
  rw [if_pos ⟨hy, hs⟩]; rfl
theorem add_int (x y : Int) : binV .Add (.int x) (.int y) = some (.int (x + y)) := rfl
theorem sub_int (x y : Int) : binV .Sub (.int x) (.int y) = some (.int (x - y)) := rfl
theorem add_lst (xs ys : List AV) (h : xs.length + ys.length < 1000000) : binV .Add (.lst xs) (.lst ys) = some (.lst (xs ++ ys)) := by
  show (if xs.length + ys.length < 1000000 then some (AV.lst (xs ++ ys)) else none) = _
  rw [if_pos h]
theorem firm_lists (ws : List (List Nat)) : firmL (ws.map fun u => AV.lst (nats u)) = true := by
  induction ws with
  | nil => rfl
  | cons u ws ih => simp only [List.map_cons, firmL, AV.firm, ih, Bool.and_true]; exact firm_intL _
noncomputable def txc (u : List Nat) : List Nat := txtFrom 0 (u.map Int.ofNat)
theorem txt_call (n : Nat) (hn : n = 2 ∨ n = 3 ∨ n = 4) (u : List Nat) (hu : okW n u) : txtV [.lst (nats u)] = some (.str (txt (txc u))) := by
  show ((asInts (nats u)).bind fun ws => _) = _
  rw [asInts_nats, Option.bind_some, if_pos]
  · rfl
  · refine ⟨by rw [List.length_map, hu.1]; exact hn, ?_⟩
    rw [List.all_eq_true]
    intro x hx
    obtain ⟨d, hd, rfl⟩ := List.mem_map.mp hx
    have := hu.2 d hd
    exact decide_eq_true ⟨Int.natCast_nonneg d, by show (d : Int) < 3; lia⟩
theorem figs_nat : ∀ (n x : Nat), figs n (x : Int) = (figN n x).map Int.ofNat
  | 0, _ => rfl
  | n + 1, x => by
    unfold figs figN
    rw [List.map_cons, Int.fmod_eq_emod_of_nonneg _ (by decide), Int.fdiv_eq_ediv_of_nonneg _ (by decide)]
    have h1 : (x : Int) % 3 = ((x % 3 : Nat) : Int) := by lia
    have h2 : (x : Int) / 3 = ((x / 3 : Nat) : Int) := by lia
    rw [h1, h2, figs_nat n (x / 3)]; rfl
theorem fig_call (n x : Nat) (hn : n < 1000) : figV [nat x, nat n] = some (.lst (nats (figN n x))) := by
  show (if 0 ≤ (n : Int) ∧ (n : Int) < 1000 then some (AV.lst ((figs ((n : Int)).toNat (x : Int)).map .int)) else none) = _
  rw [if_pos ⟨by lia, by lia⟩, Int.toNat_natCast, figs_nat]
theorem figN_ok (n x : Nat) : okW n (figN n x) := ⟨figN_len n x, figN_lt n x⟩
end Mine
end

section
open PySem PySem.W PyProof.Rows
set_option Elab.async false
set_option tactic.hygienic false
set_option maxRecDepth 100000
set_option autoImplicit false
set_option linter.unusedVariables false
namespace Mine
noncomputable abbrev WL (ws : List (List Nat)) : List AV := ws.map fun u => AV.lst (nats u)
noncomputable abbrev TL (ws : List (List Nat)) : List AV := ws.map fun u => AV.str (txt (txc u))
noncomputable abbrev B6 (xs : List AV) (f : Int) (n w : Nat) (ws : List (List Nat)) (r : List Slot) : List Slot := .scr xs :: .val (.int f) :: .val (nat n) :: .val (nat (2 ^ w)) :: .val (.lst (WL ws)) :: .val (.lst (TL ws)) :: r
noncomputable abbrev RR (t6 wh al un i j fa du nu ma co wo a b c le pa re : Slot) : List Slot := [t6, wh, al, un, i, j, fa, du, nu, ma, co, wo, a, b, c, le, pa, re]
noncomputable abbrev vi (x : Int) : Slot := .val (.int x)
theorem loopA (B : SF) (xs : List AV) (f : Int) (n w : Nat) (ws : List (List Nat)) (r : List Slot) (hB : ∀ u ∈ ws, B (B6 xs f n w ws (.val (.str (txt (txc u))) :: r)) = some (.next, B6 xs f n w ws (.val (.str (txt (txc u))) :: r))) (t : Slot) :
    ∃ t', forF 6 B (TL ws) (B6 xs f n w ws (t :: r)) = some (.next, B6 xs f n w ws (t' :: r)) := by
  have main := forF_inv (i := 6) (f := B) (fun k sl => ∃ t, sl = B6 xs f n w ws (t :: r)) (fun zq => False) (TL ws) (fun k x sl hx iv => ?_) (B6 xs f n w ws (t :: r)) ⟨t, rfl⟩
  · rcases main with ⟨sl', e, t', rfl⟩ | ⟨_, _, _, f⟩
    · exact ⟨t', e⟩
    · exact f.elim
  · obtain ⟨t, rfl⟩ := iv
    rw [List.getElem?_map] at hx
    obtain ⟨u, hu, rfl⟩ := Option.map_eq_some_iff.mp hx
    exact ⟨rfl, _, rfl, .inl ⟨_, hB u (List.mem_of_getElem? hu), _, rfl⟩⟩
theorem loopJ (B : SF) (xs : List AV) (f : Int) (n w : Nat) (ws : List (List Nat)) (t6 du nu ma co wo a b c le pa re : Slot) (i : Nat) (p q r : Nat → Int)
    (hB : ∀ (k : Nat) (x y z : Int) (sf : Slot), k < i → ∃ sf', B (B6 xs f n w ws (RR t6 (vi x) (vi y) (vi z) (.val (nat i)) (.val (nat k)) sf du nu ma co wo a b c le pa re)) = some (.next, B6 xs f n w ws (RR t6 (vi (x + p k)) (vi (y + q k)) (vi (z + r k)) (.val (nat i)) (.val (nat k)) sf' du nu ma co wo a b c le pa re)))
    (x y z : Int) (sj sf : Slot) :
    ∃ sj' sf', forF 11 B (nats (List.range i)) (B6 xs f n w ws (RR t6 (vi x) (vi y) (vi z) (.val (nat i)) sj sf du nu ma co wo a b c le pa re)) =
      some (.next, B6 xs f n w ws (RR t6 (vi (x + sm p i)) (vi (y + sm q i)) (vi (z + sm r i)) (.val (nat i)) sj' sf' du nu ma co wo a b c le pa re)) := by
  have main := forF_inv (i := 11) (f := B) (fun k sl => ∃ sj sf, sl = B6 xs f n w ws (RR t6 (vi (x + sm p k)) (vi (y + sm q k)) (vi (z + sm r k)) (.val (nat i)) sj sf du nu ma co wo a b c le pa re)) (fun zq => False) (nats (List.range i)) (fun k u sl hx iv => ?_)
    (B6 xs f n w ws (RR t6 (vi x) (vi y) (vi z) (.val (nat i)) sj sf du nu ma co wo a b c le pa re)) ⟨sj, sf, by simp only [sm, Int.add_zero]⟩
  · rcases main with ⟨sl', e, sj', sf', rfl⟩ | ⟨_, _, _, f⟩
    · rw [nats_len, List.length_range] at e; exact ⟨sj', sf', e⟩
    · exact f.elim
  · obtain ⟨sj, sf, rfl⟩ := iv
    obtain ⟨hk, rfl⟩ := nats_range_get hx
    obtain ⟨sf', e⟩ := hB k _ _ _ sf hk
    exact ⟨rfl, _, rfl, .inl ⟨_, e, .val (nat k), sf', by simp only [sm, Int.add_assoc]⟩⟩
theorem loopI (B : SF) (xs : List AV) (f : Int) (n w : Nat) (ws : List (List Nat)) (t6 du nu ma co wo a b c le pa re : Slot) (N : Nat) (p q r : Nat → Int)
    (hB : ∀ (k : Nat) (x y z : Int) (sj sf : Slot), k < N → ∃ sj' sf', B (B6 xs f n w ws (RR t6 (vi x) (vi y) (vi z) (.val (nat k)) sj sf du nu ma co wo a b c le pa re)) = some (.next, B6 xs f n w ws (RR t6 (vi (x + p k)) (vi (y + q k)) (vi (z + r k)) (.val (nat k)) sj' sf' du nu ma co wo a b c le pa re)))
    (x y z : Int) (si sj sf : Slot) :
    ∃ si' sj' sf', forF 10 B (nats (List.range N)) (B6 xs f n w ws (RR t6 (vi x) (vi y) (vi z) si sj sf du nu ma co wo a b c le pa re)) =
      some (.next, B6 xs f n w ws (RR t6 (vi (x + sm p N)) (vi (y + sm q N)) (vi (z + sm r N)) si' sj' sf' du nu ma co wo a b c le pa re)) := by
  have main := forF_inv (i := 10) (f := B) (fun k sl => ∃ si sj sf, sl = B6 xs f n w ws (RR t6 (vi (x + sm p k)) (vi (y + sm q k)) (vi (z + sm r k)) si sj sf du nu ma co wo a b c le pa re)) (fun zq => False) (nats (List.range N)) (fun k u sl hx iv => ?_)
    (B6 xs f n w ws (RR t6 (vi x) (vi y) (vi z) si sj sf du nu ma co wo a b c le pa re)) ⟨si, sj, sf, by simp only [sm, Int.add_zero]⟩
  · rcases main with ⟨sl', e, si', sj', sf', rfl⟩ | ⟨_, _, _, f⟩
    · rw [nats_len, List.length_range] at e; exact ⟨si', sj', sf', e⟩
    · exact f.elim
  · obtain ⟨si, sj, sf, rfl⟩ := iv
    obtain ⟨hk, rfl⟩ := nats_range_get hx
    obtain ⟨sj', sf', e⟩ := hB k _ _ _ sj sf hk
    exact ⟨rfl, _, rfl, .inl ⟨_, e, .val (nat k), sj', sf', by simp only [sm, Int.add_assoc]⟩⟩
noncomputable abbrev CC (m : List Nat) (us : List (List Nat)) : List Nat := [cnt m us 0, cnt m us 1, cnt m us 2]
theorem loopW (B : SF) (xs : List AV) (f : Int) (n w : Nat) (ws : List (List Nat)) (t6 wh al un i j fa du nu ma a b c le pa re : Slot) (m : List Nat)
    (hB : ∀ (us : List (List Nat)) (u : List Nat), u ∈ ws → us.length < 1000 → B (B6 xs f n w ws (RR t6 wh al un i j fa du nu ma (.mls (nats (CC m us))) (.val (.lst (nats u))) a b c le pa re)) = some (.next, B6 xs f n w ws (RR t6 wh al un i j fa du nu ma (.mls (nats (CC m (us ++ [u])))) (.val (.lst (nats u))) a b c le pa re)))
    (hl : ws.length < 1000) (so : Slot) :
    ∃ so', forF 17 B (WL ws) (B6 xs f n w ws (RR t6 wh al un i j fa du nu ma (.mls (nats [0, 0, 0])) so a b c le pa re)) =
      some (.next, B6 xs f n w ws (RR t6 wh al un i j fa du nu ma (.mls (nats (CC m ws))) so' a b c le pa re)) := by
  have main := forF_inv (i := 17) (f := B) (fun k sl => ∃ so, sl = B6 xs f n w ws (RR t6 wh al un i j fa du nu ma (.mls (nats (CC m (ws.take k)))) so a b c le pa re)) (fun zq => False) (WL ws) (fun k x sl hx iv => ?_)
    (B6 xs f n w ws (RR t6 wh al un i j fa du nu ma (.mls (nats [0, 0, 0])) so a b c le pa re)) ⟨so, rfl⟩
  · rcases main with ⟨sl', e, so', rfl⟩ | ⟨_, _, _, f⟩
    · rw [List.length_map, List.take_length] at e; exact ⟨so', e⟩
    · exact f.elim
  · obtain ⟨so, rfl⟩ := iv
    rw [List.getElem?_map] at hx
    obtain ⟨u, hu, rfl⟩ := Option.map_eq_some_iff.mp hx
    refine ⟨by show firmL (nats u) = true; exact firm_intL _, _, rfl, .inl ⟨_, hB (ws.take k) u (List.mem_of_getElem? hu) (by rw [List.length_take]; lia), .val (.lst (nats u)), ?_⟩⟩
    rw [List.take_add_one, hu]; rfl
theorem loopN (B : SF) (xs : List AV) (f : Int) (n w : Nat) (ws : List (List Nat)) (t6 wh al un i j fa le pa re : Slot) (N : Nat)
    (hB : ∀ (t : Nat) (ma co wo a b c : Slot), t < N → ∃ ma' co' wo' a' b' c', B (B6 xs f n w ws (RR t6 wh al un i j fa (.mls (intL (dueF n ws t))) (.val (nat t)) ma co wo a b c le pa re)) = some (.next, B6 xs f n w ws (RR t6 wh al un i j fa (.mls (intL (dueF n ws (t + 1)))) (.val (nat t)) ma' co' wo' a' b' c' le pa re)))
    (nu ma co wo a b c : Slot) :
    ∃ nu' ma' co' wo' a' b' c', forF 14 B (nats (List.range N)) (B6 xs f n w ws (RR t6 wh al un i j fa (.mls (intL (dueF n ws 0))) nu ma co wo a b c le pa re)) =
      some (.next, B6 xs f n w ws (RR t6 wh al un i j fa (.mls (intL (dueF n ws N))) nu' ma' co' wo' a' b' c' le pa re)) := by
  have main := forF_inv (i := 14) (f := B) (fun k sl => ∃ nu ma co wo a b c, sl = B6 xs f n w ws (RR t6 wh al un i j fa (.mls (intL (dueF n ws k))) nu ma co wo a b c le pa re)) (fun zq => False) (nats (List.range N)) (fun k u sl hx iv => ?_)
    (B6 xs f n w ws (RR t6 wh al un i j fa (.mls (intL (dueF n ws 0))) nu ma co wo a b c le pa re)) ⟨nu, ma, co, wo, a, b, c, rfl⟩
  · rcases main with ⟨sl', e, nu', ma', co', wo', a', b', c', rfl⟩ | ⟨_, _, _, f⟩
    · rw [nats_len, List.length_range] at e; exact ⟨nu', ma', co', wo', a', b', c', e⟩
    · exact f.elim
  · obtain ⟨nu, ma, co, wo, a, b, c, rfl⟩ := iv
    obtain ⟨hk, rfl⟩ := nats_range_get hx
    obtain ⟨ma', co', wo', a', b', c', e⟩ := hB k ma co wo a b c hk
    exact ⟨rfl, _, rfl, .inl ⟨_, e, _, _, _, _, _, _, _, rfl⟩⟩
theorem sc_tab : ∀ p q : Fin 4, ∀ u v : Fin 3, sc (signOf p.val (u.val : Int)) (signOf q.val (v.val : Int)) = if p = q then (if u = v then 0 else 1) else 2 := by decide +kernel
theorem b3_tab : ∀ p : Fin 4, ∀ u : Fin 3, b3 (signOf p.val (u.val : Int)) = txt [signOf p.val 0] := by decide +kernel
end Mine
end

section
open PySem PySem.W PyProof.Rows
set_option Elab.async false
set_option tactic.hygienic false
set_option maxRecDepth 100000
set_option autoImplicit false
set_option linter.unusedVariables false
namespace Mine
theorem txtFrom_get : ∀ (l : List Int) (p i : Nat), (txtFrom p l)[i]? = (l[i]?).map (signOf (p + i))
  | [], p, i => by simp [txtFrom]
  | x :: l, p, 0 => by simp [txtFrom]
  | x :: l, p, i + 1 => by
    simp only [txtFrom, List.getElem?_cons_succ]
    rw [txtFrom_get l (p + 1) i, show p + 1 + i = p + (i + 1) by lia]
theorem txtFrom_len : ∀ (l : List Int) (p : Nat), (txtFrom p l).length = l.length
  | [], _ => rfl
  | x :: l, p => by simp [txtFrom, txtFrom_len l (p + 1)]
theorem txc_len (u : List Nat) : (txc u).length = u.length := by unfold txc; rw [txtFrom_len, List.length_map]
theorem txc_get (u : List Nat) (i : Nat) : (txc u)[i]? = (u[i]?).map fun (d : Nat) => signOf i (d : Int) := by
  unfold txc
  rw [txtFrom_get, List.getElem?_map, Option.map_map, Nat.zero_add]
  rfl
theorem sc_sign (p q a b : Nat) (hp : p < 4) (hq : q < 4) (ha : a < 3) (hb : b < 3) : sc (signOf p (a : Int)) (signOf q (b : Int)) = if p = q then (if a = b then 0 else 1) else 2 := by
  have := sc_tab ⟨p, hp⟩ ⟨q, hq⟩ ⟨a, ha⟩ ⟨b, hb⟩
  simp only [Fin.mk.injEq] at this
  exact this
noncomputable def wt (u v : List Nat) (i : Nat) : Nat := if u[i]? = v[i]? then 0 else 1
theorem far_sum : ∀ (u v : List Nat), u.length = v.length → sumTo (wt u v) u.length = far u v := by
  have shift : ∀ (w : Nat → Nat) (n : Nat), sumTo w (n + 1) = w 0 + sumTo (fun i => w (i + 1)) n := by
    intro w n
    induction n with
    | zero => simp [sumTo]
    | succ n ih => simp only [sumTo] at *; lia
  intro u
  induction u with
  | nil => intro v _; cases v <;> rfl
  | cons a u ih =>
    intro v h
    cases v with
    | nil => cases h
    | cons b v =>
      simp only [List.length_cons] at h ⊢
      rw [shift]
      have e : (fun i => wt (a :: u) (b :: v) (i + 1)) = wt u v := by funext i; unfold wt; simp
      rw [e, ih v (by lia)]
      simp only [far, wt, List.getElem?_cons_zero, Option.some.injEq]
theorem apart_words (n : Nat) (hn : n ≤ 4) (u v : List Nat) (hu : okW n u) (hv : okW n v) : WApart sc (txc u) (txc v) (wt u v) where
  len := by rw [txc_len, txc_len, hu.1, hv.1]
  two := fun i => by unfold wt; split <;> decide
  at' := fun i j x y hx hy => by
    rw [txc_get] at hx hy
    obtain ⟨a, ha, rfl⟩ := Option.map_eq_some_iff.mp hx
    obtain ⟨b, hb, rfl⟩ := Option.map_eq_some_iff.mp hy
    have hi : i < n := by rw [← hu.1]; exact (List.getElem?_eq_some_iff.mp ha).1
    have hj : j < n := by rw [← hv.1]; exact (List.getElem?_eq_some_iff.mp hb).1
    rw [sc_sign j i b a (by lia) (by lia) (hv.2 b (List.mem_of_getElem? hb)) (hu.2 a (List.mem_of_getElem? ha))]
    by_cases h : i = j
    · subst h
      rw [if_pos rfl, if_pos rfl]
      unfold wt
      rw [ha, hb]
      by_cases hab : a = b
      · subst hab; rw [if_pos rfl, if_pos rfl]
      · rw [if_neg (Ne.symm hab), if_neg (fun e => hab (Option.some.inj e))]
    · rw [if_neg (Ne.symm h), if_neg h]
  zero := fun i x y hx hy => by
    rw [txc_get] at hx hy
    obtain ⟨a, ha, rfl⟩ := Option.map_eq_some_iff.mp hx
    obtain ⟨b, hb, rfl⟩ := Option.map_eq_some_iff.mp hy
    have hi : i < n := by rw [← hu.1]; exact (List.getElem?_eq_some_iff.mp ha).1
    have := sc_sign i i a b (by lia) (by lia) (hu.2 a (List.mem_of_getElem? ha)) (hv.2 b (List.mem_of_getElem? hb))
    rw [if_pos rfl] at this
    unfold wt
    rw [ha, hb]
    constructor
    · intro e
      rw [e] at this
      have h0 : sc (signOf i (b : Int)) (signOf i (b : Int)) = 0 := by unfold sc; rw [if_pos rfl]
      rw [h0] at this
      by_cases hab : a = b
      · subst hab; rw [if_pos rfl]
      · rw [if_neg hab] at this; cases this
    · intro e
      by_cases hab : a = b
      · rw [hab]
      · rw [if_neg (fun h => hab (Option.some.inj h))] at e; cases e
theorem lev_words (n : Nat) (hn : n ≤ 4) (u v : List Nat) (hu : okW n u) (hv : okW n v) : levV [.str (txt (txc u)), .str (txt (txc v)), nat (far u v)] = some (nat (far u v)) := by
  show (if (txt (txc v)).length = (txt (txc u)).length ∧ (txt (txc u)).length ≤ 20 ∧ (0 : Int) ≤ (far u v : Int) then some (nat (lev sc (txt (txc u)).cps.toList (txt (txc v)).cps.toList ((far u v : Int)).toNat)) else none) = _
  rw [if_pos ⟨by rw [txt_len, txt_len, txc_len, txc_len, hu.1, hv.1], by rw [txt_len, txc_len, hu.1]; lia, Int.natCast_nonneg _⟩, Int.toNat_natCast]
  show some (nat (lev sc (txc u).toArray.toList (txc v).toArray.toList (far u v))) = _
  have hl : u.length = v.length := by rw [hu.1, hv.1]
  have hs := far_sum u v hl
  rw [List.toList_toArray, List.toList_toArray, lev_spec sc _ _ _ _ (apart_words n hn u v hu hv) (by rw [txc_len, hs]; exact Nat.le_refl _), txc_len, hs]
noncomputable def small0 (n : Nat) : List Nat := txc (List.replicate n 0)
theorem strs_map (l : List Nat) (g : Nat → Str) : asStrs (l.map fun c => AV.str (g c)) = some (l.map g) := by
  induction l with
  | nil => rfl
  | cons c l ih => simp only [List.map_cons, asStrs, ih]; rfl
theorem join_small (n : Nat) (hn : n = 2 ∨ n = 3 ∨ n = 4) (u : List Nat) (hu : okW n u) : joinV (.str "") (.lst ((txc u).map fun c => AV.str (b3 c))) = some (.str (txt (small0 n))) := by
  have hm : (txc u).map b3 = (List.range n).map fun p => txt [signOf p 0] := by
    refine List.ext_getElem? fun i => ?_
    rw [List.getElem?_map, List.getElem?_map, txc_get, Option.map_map]
    by_cases hi : i < n
    · rw [List.getElem?_eq_getElem (by rw [hu.1]; exact hi), List.getElem?_range hi]
      have := b3_tab ⟨i, by lia⟩ ⟨u[i]'(by rw [hu.1]; exact hi), hu.2 _ (List.getElem_mem _)⟩
      simpa using this
    · rw [List.getElem?_eq_none (by rw [hu.1]; lia), List.getElem?_eq_none (by simp; lia)]; rfl
  show (asStrs ((txc u).map fun c => AV.str (b3 c))).bind (fun ys => if ("" : Str).length ≤ 16 ∧ (ys.map (·.length)).sum + ys.length ≤ 1048576 then some (AV.str (Txt.join "" ys)) else none) = _
  rw [strs_map, Option.bind_some, hm]
  rcases hn with rfl | rfl | rfl <;> kernel_rfl
end Mine
end

section
open PySem PySem.W PyProof.Rows
set_option Elab.async false
set_option tactic.hygienic false
set_option maxRecDepth 100000
set_option autoImplicit false
set_option linter.unusedVariables false
namespace Mine
structure Cx (n w : Nat) (ws : List (List Nat)) : Prop where
  hn : n = 2 ∨ n = 3 ∨ n = 4
  w0 : 12 ≤ w
  w1 : w ≤ 31
  ok : ∀ u ∈ ws, okW n u
  len0 : 1 ≤ ws.length
  len1 : ws.length ≤ 5
section
variable {n w : Nat} {ws : List (List Nat)}
noncomputable abbrev XX (w : Nat) : Int := ((2 ^ w : Nat) : Int)
noncomputable abbrev Wh (n w : Nat) (ws : List (List Nat)) : Int := whole (XX w) n ws ws.length
noncomputable abbrev Du (n : Nat) (ws : List (List Nat)) : List Int := dueF n ws (3 ^ n)
theorem XX_pow (w : Nat) : XX w = 2 ^ w := by unfold XX; rw [Int.natCast_pow]; rfl
theorem pow4096 {w : Nat} (h : 12 ≤ w) : 4096 ≤ 2 ^ w := Nat.le_trans (by decide : 4096 ≤ 2 ^ 12) (Nat.pow_le_pow_right (by decide) h)
theorem pow3 {n : Nat} (h : n = 2 ∨ n = 3 ∨ n = 4) : 3 ^ n ≤ 81 := by rcases h with rfl | rfl | rfl <;> decide
theorem Cx.eval (c : Cx n w ws) : evalL (XX w) (Du n ws) = Wh n w ws := by
  have h := SS_whole (XX w) n ws c.ok ws.length (Nat.le_refl _)
  rw [List.take_length] at h
  rw [dueF_eval]; exact h
theorem Cx.due (c : Cx n w ws) : ∀ x ∈ Du n ws, 0 ≤ x ∧ x ≤ 2025 := fun x hx => by
  have := dueF_bound n ws c.len1 (3 ^ n) x hx
  have h3 := pow3 c.hn
  lia
theorem Cx.und (c : Cx n w ws) : ((undgs w ((Du n ws).map Int.toNat) : Nat) : Int) = Wh n w ws := by
  rw [← c.eval, XX_pow, evalL_undgs w _ fun x hx => (c.due x hx).1]
theorem Cx.dlen (c : Cx n w ws) : ((Du n ws).map Int.toNat).length = n + 1 := by rw [List.length_map, dueF_len]
theorem Cx.dlt (c : Cx n w ws) : ∀ d ∈ (Du n ws).map Int.toNat, d < 2 ^ w := fun d hd => by
  obtain ⟨x, hx, rfl⟩ := List.mem_map.mp hd
  have := c.due x hx
  have := pow4096 c.w0
  lia
theorem Cx.back (c : Cx n w ws) : ((Du n ws).map Int.toNat).map Int.ofNat = Du n ws := toNat_back _ fun d hd => (c.due d hd).1
theorem Cx.hi (c : Cx n w ws) : undgs w ((Du n ws).map Int.toNat) < 2 ^ (w * (n + 1)) := by
  have := undgs_lt w _ c.dlt
  rw [c.dlen] at this; exact this
theorem Cx.lo (c : Cx n w ws) : 2 ^ (w * n) ≤ undgs w ((Du n ws).map Int.toNat) := by
  have h := whole_ge (XX w) (by have := pow4096 c.w0; unfold XX; lia) n ws ws.length c.len0
  rw [show whole (XX w) n ws ws.length = Wh n w ws from rfl, ← c.und] at h
  unfold XX at h
  rw [← Int.natCast_pow, ← Nat.pow_mul] at h
  exact Int.ofNat_le.mp h
theorem Cx.nat (c : Cx n w ws) : (Wh n w ws).toNat = undgs w ((Du n ws).map Int.toNat) := by rw [← c.und, Int.toNat_natCast]
theorem Cx.nonneg (c : Cx n w ws) : 0 ≤ Wh n w ws := by rw [← c.und]; exact Int.natCast_nonneg _
theorem Cx.bits (c : Cx n w ws) : w * n + 1 ≤ Builtin.Int.intBits (Wh n w ws) ∧ Builtin.Int.intBits (Wh n w ws) ≤ w * (n + 1) := by
  rw [← c.und]
  have h1 := c.lo
  have h2 := c.hi
  refine ⟨?_, bits_lt h2⟩
  generalize undgs w ((Du n ws).map Int.toNat) = m at *
  have hm : m ≠ 0 := by have := Nat.two_pow_pos (w * n); lia
  unfold Builtin.Int.intBits
  rw [if_neg (by simpa using hm)]
  show w * n + 1 ≤ m.log2 + 1
  exact Nat.succ_le_succ ((Nat.le_log2 hm).mpr h1)
theorem Cx.ndig (c : Cx n w ws) : ndig (Wh n w ws) (w : Int) = n + 1 := by
  obtain ⟨h1, h2⟩ := c.bits
  unfold Mine.ndig
  rw [Int.toNat_natCast]
  have hw := c.w0
  rw [Nat.mul_succ] at h2
  generalize Builtin.Int.intBits (Wh n w ws) = b at *
  have e1 : b + w - 1 = w * (n + 1) + (b - 1 - w * n) := by rw [Nat.mul_succ]; lia
  rw [e1, Nat.mul_add_div (by lia), Nat.div_eq_of_lt (by lia)]
theorem Cx.wn (c : Cx n w ws) : w * (n + 1) ≤ 155 := by
  have h1 := c.w1
  have h2 : n + 1 ≤ 5 := by rcases c.hn with h | h | h <;> lia
  exact Nat.mul_le_mul h1 h2
theorem Cx.i2d (c : Cx n w ws) : i2dV [.int (Wh n w ws), Mine.nat w] = some (.lst (intL (Du n ws))) := by
  show (if 0 ≤ Wh n w ws ∧ (1 : Int) ≤ (w : Int) ∧ ((w : Int)).toNat * Mine.ndig (Wh n w ws) w ≤ 4000 ∧ Mine.ndig (Wh n w ws) w ≤ 30 ∧ (w : Int) < 100000 then some (AV.lst (intL ((dgs ((w : Int)).toNat (Mine.ndig (Wh n w ws) w) (Wh n w ws).toNat).map Int.ofNat))) else none) = _
  have hw := c.wn
  have hn : n + 1 ≤ 5 := by rcases c.hn with h | h | h <;> lia
  rw [c.ndig, Int.toNat_natCast, if_pos ⟨c.nonneg, by have := c.w0; lia, by lia, by lia, by have := c.w1; lia⟩, c.nat]
  have := dgs_undgs w _ c.dlt
  rw [c.dlen] at this
  rw [this, c.back]
theorem Cx.d2i (c : Cx n w ws) : d2iV [.lst (intL (Du n ws)), Mine.nat w] = some (.int (Wh n w ws)) := by
  show ((asInts (intL (Du n ws))).bind fun ds => _) = _
  rw [show asInts (intL (Du n ws)) = some (Du n ws) from asInts_map _, Option.bind_some, Int.toNat_natCast, if_pos, c.und]
  refine ⟨?_, by have := c.w0; lia, ?_, ?_⟩
  · rw [List.all_eq_true]
    intro x hx
    refine decide_eq_true ⟨(c.due x hx).1, c.dlt _ (List.mem_map_of_mem hx)⟩
  · rw [show (Du n ws).length = n + 1 from dueF_len n ws _]; have := c.wn; lia
  · rw [show (Du n ws).length = n + 1 from dueF_len n ws _]; rcases c.hn with h | h | h <;> lia
theorem Cx.x (c : Cx n w ws) : 4096 ≤ XX w := by have := pow4096 c.w0; unfold XX; lia
theorem pow3n (c : Cx n w ws) : (3 : Int) ^ n ≤ 81 ∧ 0 ≤ (3 : Int) ^ n ∧ (-3 : Int) ^ n ≤ 81 ∧ -27 ≤ (-3 : Int) ^ n := by
  rcases c.hn with h | h | h <;> subst h <;> decide
theorem Cx.bitsB (c : Cx n w ws) : Builtin.Int.intBits (XX w - 1) = w ∧ Builtin.Int.intBits (XX w + 2) = w + 1 := by
  have hx := pow4096 c.w0
  constructor
  · rw [show XX w - 1 = ((2 ^ w - 1 : Nat) : Int) by unfold XX; lia]
    unfold Builtin.Int.intBits
    rw [if_neg (by simp; lia)]
    show (2 ^ w - 1).log2 + 1 = w
    have h1 : (2 ^ w - 1).log2 < w := (Nat.log2_lt (by lia)).mpr (by lia)
    have h2 : w - 1 ≤ (2 ^ w - 1).log2 := (Nat.le_log2 (by lia)).mpr (by
      have : 2 ^ w = 2 ^ (w - 1) * 2 := by rw [← Nat.pow_succ]; congr 1; have := c.w0; lia
      lia)
    have := c.w0
    lia
  · rw [show XX w + 2 = ((2 ^ w + 2 : Nat) : Int) by unfold XX; lia]
    unfold Builtin.Int.intBits
    rw [if_neg (fun h => by have h := eq_of_beq h; lia)]
    show (2 ^ w + 2).log2 + 1 = w + 1
    have h1 : (2 ^ w + 2).log2 < w + 1 := (Nat.log2_lt (by lia)).mpr (by rw [Nat.pow_succ]; lia)
    have h2 : w ≤ (2 ^ w + 2).log2 := (Nat.le_log2 (by lia)).mpr (by lia)
    lia
theorem Cx.smallX (c : Cx n w ws) (k : Int) (h0 : 0 ≤ XX w + k) (h : k ≤ 2) : small (XX w + k) = true := by
  have e : XX w + k = ((XX w + k).toNat : Int) := by lia
  rw [e]
  refine small_of_lt (k := 32) ?_ (by decide)
  have : 2 ^ w ≤ 2 ^ 31 := Nat.pow_le_pow_right (by decide) c.w1
  unfold XX
  have e2 : (2 : Nat) ^ 32 = 4294967296 := by decide
  have e3 : (2 : Nat) ^ 31 = 2147483648 := by decide
  lia
theorem Cx.idmOk1 (c : Cx n w ws) : idmOk (Wh n w ws) (XX w - 1) := by
  have hx := c.x
  have hw := c.nonneg
  unfold idmOk
  rw [if_neg (show ¬ XX w - 1 < 0 by lia), if_neg (show ¬ XX w - 1 < 0 by lia), if_neg (show ¬ Wh n w ws < 0 by lia)]
  refine ⟨by lia, ?_⟩
  unfold dmpOk
  have := c.smallX (-1) (by lia) (by lia)
  rw [c.bitsB.1, c.ndig]
  have hn : n + 1 ≤ 5 := by rcases c.hn with h | h | h <;> lia
  have := c.wn
  refine ⟨by rw [show XX w - 1 = XX w + -1 by lia]; assumption, by lia, by lia, by have := c.w1; lia⟩
theorem Cx.idmOk2 (c : Cx n w ws) : idmOk (Wh n w ws) (-XX w - 2) := by
  have hx := c.x
  have hw := c.nonneg
  unfold idmOk
  rw [if_pos (show -XX w - 2 < 0 by lia), if_pos (show -XX w - 2 < 0 by lia)]
  have e : -(-XX w - 2) = XX w + 2 := by lia
  have hlo := c.lo
  have hW : 1 ≤ Wh n w ws := by
    rw [← c.und]
    have := Nat.two_pow_pos (w * n)
    lia
  rw [e, if_pos (show -Wh n w ws < 0 by lia)]
  refine ⟨by lia, ?_⟩
  unfold dmpOk
  rw [c.bitsB.2]
  have hb : Builtin.Int.intBits (-(-Wh n w ws) - 1) ≤ w * (n + 1) := by
    have h2 := c.hi
    rw [show -(-Wh n w ws) - 1 = ((undgs w ((Du n ws).map Int.toNat) - 1 : Nat) : Int) by rw [← c.und] at hW ⊢; lia]
    exact bits_lt (by lia)
  have hwn := c.wn
  have hd : (w + 1) * Mine.ndig (-(-Wh n w ws) - 1) ((w + 1 : Nat) : Int) ≤ 200 := by
    unfold Mine.ndig
    rw [Int.toNat_natCast]
    have := Nat.mul_div_le (Builtin.Int.intBits (-(-Wh n w ws) - 1) + (w + 1) - 1) (w + 1)
    have := c.w1
    lia
  have hd2 : Mine.ndig (-(-Wh n w ws) - 1) ((w + 1 : Nat) : Int) ≤ 30 := by
    unfold Mine.ndig
    rw [Int.toNat_natCast]
    have h1 : (Builtin.Int.intBits (-(-Wh n w ws) - 1) + (w + 1) - 1) / (w + 1) ≤ 200 / (w + 1) := Nat.div_le_div_right (by have := c.w1; lia)
    have h2 : 200 / (w + 1) ≤ 200 / 13 := Nat.div_le_div_left (by have := c.w0; lia) (by decide)
    lia
  exact ⟨c.smallX 2 (by lia) (by lia), by lia, hd2, by have := c.w1; lia⟩
theorem Cx.rest1 (c : Cx n w ws) : (Wh n w ws).fmod (XX w - 1) = 3 ^ n * alike n ws ws.length := by
  have hx := c.x
  obtain ⟨q, h⟩ := whole_minus (XX w) n ws ws.length
  have ha := alike_bound n ws ws.length c.len1
  have h3 := pow3n c
  have hb : 0 ≤ 3 ^ n * alike n ws ws.length ∧ 3 ^ n * alike n ws ws.length ≤ 81 * 25 := ⟨Int.mul_nonneg h3.2.1 ha.1, Int.mul_le_mul h3.1 ha.2 ha.1 (by decide)⟩
  rw [show Wh n w ws = whole (XX w) n ws ws.length from rfl, h, Int.fmod_eq_emod_of_nonneg _ (by lia), Int.mul_add_emod_self_left, Int.emod_eq_of_lt hb.1 (by lia)]
noncomputable def leftV (n w : Nat) (ws : List (List Nat)) : Int := if 0 < (-3) ^ n * unlike n ws ws.length then (-3) ^ n * unlike n ws ws.length - (XX w + 2) else (-3) ^ n * unlike n ws ws.length
theorem fmod_neg {a b r q : Int} (hb : b < 0) (h : a = b * q + r) (h1 : b < r) (h2 : r ≤ 0) : a.fmod b = r := by
  have e1 : a.fmod b = -((-a) % (-b)) := (neg_fdiv hb).2
  rw [e1, h, show -(b * q + r) = -b * q + -r by rw [Int.neg_mul]; lia, Int.mul_add_emod_self_left, Int.emod_eq_of_lt (by lia) (by lia), Int.neg_neg]
theorem Cx.rest2 (c : Cx n w ws) : (Wh n w ws).fmod (-XX w - 2) = leftV n w ws := by
  have hx := c.x
  have hf : ∀ i j, far (wat ws i) (wat ws j) ≤ n := fun i j => by
    unfold wat
    cases hi : ws[i]? with
    | none => simp [far]
    | some u =>
      have hu := c.ok u (List.mem_of_getElem? hi)
      cases hj : ws[j]? with
      | none => simp only [Option.getD_some, Option.getD_none]; cases u <;> simp [far]
      | some v =>
        have hv := c.ok v (List.mem_of_getElem? hj)
        have := far_le u v (by rw [hu.1, hv.1])
        simp only [Option.getD_some]
        rw [hu.1] at this; exact this
  obtain ⟨q, h⟩ := whole_plus (XX w) n (by rcases c.hn with h | h | h <;> lia) ws hf ws.length
  have hu := unlike_bound n ws ws.length c.len1
  have h3 := pow3n c
  have hb : (-3 : Int) ^ n * unlike n ws ws.length ≤ 81 * 20 ∧ -(27 * 20) ≤ (-3 : Int) ^ n * unlike n ws ws.length := by
    rcases c.hn with h | h | h <;> subst h <;> refine ⟨?_, ?_⟩ <;> lia
  unfold leftV
  split
  · refine fmod_neg (q := -q - 1) (by lia) ?_ (by lia) (by lia)
    rw [show Wh n w ws = whole (XX w) n ws ws.length from rfl, h]
    grind
  · refine fmod_neg (q := -q) (by lia) ?_ (by lia) (by lia)
    rw [show Wh n w ws = whole (XX w) n ws ws.length from rfl, h]
    grind
end
end Mine
end

section
open PySem PySem.W PyProof.Rows
set_option Elab.async false
set_option tactic.hygienic false
set_option maxRecDepth 100000
set_option autoImplicit false
set_option linter.unusedVariables false
namespace Mine
theorem ap_un {op : UnaryOp} {f : List Slot → Option AV} {sl : List Slot} {a r : AV} (hf : Ap f sl = some a) (h : unV op a = some r) : Ap (fun sl => (f sl).bind (unV op)) sl = some r := by
  show (Ap f sl).bind (unV op) = _
  rw [hf, Option.bind_some, h]
theorem listOf_ap {f : List Slot → Option AV} {sl : List Slot} {xs : List AV} (hf : Ap f sl = some (.lst xs)) : (fun sl => (f sl).bind listOf) sl = some xs := by
  show (Ap f sl).bind listOf = _
  rw [hf]; rfl
theorem idx_lst (l : List AV) (j : Nat) (x : AV) (h : l.length < 1000000) (hx : l[j]? = some x) : idxV (.lst l) (nat j) = some x := by
  have hj : j < l.length := (List.getElem?_eq_some_iff.mp hx).1
  have hc := cnd62 j (by lia)
  simp only [idxV, AV.any?, hc, if_true, Int.toNat_natCast]
  exact hx
theorem idx_view0 (x : Int) (r : List Int) : idxV (.view (intL (x :: r))) (.int 0) = some (.int x) := by
  have hc : (decide ((0 : Int) ≤ 0) && decide ((0 : Int) < 2 ^ 62)) = true := cnd62 0 (by lia)
  simp only [idxV, AV.any?, hc, if_true]
  rfl
theorem slice_view (xs : List Int) (h : xs.length < 1000000) : sliceV (.view (intL xs)) (.int 1) (.int 3) = some (.lst (intL ((xs.drop 1).take 2))) := by
  show (if (intL xs).length < 1000000 then some (AV.lst (sliceL (intL xs) (some 1) (some 3))) else none) = _
  rw [if_pos (by simpa [intL] using h)]
  have e1 : ∀ l : Nat, clipAt l (1 : Int) = min 1 l := fun l => clipAt_nat l 1
  have e3 : ∀ l : Nat, clipAt l (3 : Int) = min 3 l := fun l => clipAt_nat l 3
  unfold sliceL
  simp only [Option.elim_some, e1, e3]
  match xs with
  | [] => rfl
  | [_] => rfl
  | [_, _] => rfl
  | a :: b :: c :: r =>
    have h1 : (intL (a :: b :: c :: r)).length = r.length + 3 := by simp [intL]
    rw [h1, show min 1 (r.length + 3) = 1 by lia, show min 3 (r.length + 3) = 3 by lia]
    rfl
noncomputable def firstOf : List Int → Int
  | [] => 1
  | x :: _ => x
noncomputable def fOf (xs : List Int) : Int := (firstOf xs).fmod 60
noncomputable def nOf (xs : List Int) : Nat := (2 + (fOf xs).fmod 3).toNat
noncomputable def wOf (xs : List Int) : Nat := (12 + (fOf xs).fdiv 3).toNat
noncomputable def itemsL (xs : List Int) : List Int := (xs.drop 1).take 2 ++ [5, 16, 7]
noncomputable def wsOf (xs : List Int) : List (List Nat) := (itemsL xs).map fun x => figN (nOf xs) (x.fmod 81).toNat
theorem f_facts (xs : List Int) : 0 ≤ fOf xs ∧ fOf xs < 60 ∧ (nat (nOf xs) = .int (2 + (fOf xs).fmod 3)) ∧ (nat (wOf xs) = .int (12 + (fOf xs).fdiv 3)) ∧ (nOf xs = 2 ∨ nOf xs = 3 ∨ nOf xs = 4) ∧ 12 ≤ wOf xs ∧ wOf xs ≤ 31 := by
  have h0 : fOf xs = firstOf xs % 60 := Int.fmod_eq_emod_of_nonneg _ (by decide)
  have h1 : (fOf xs).fmod 3 = fOf xs % 3 := Int.fmod_eq_emod_of_nonneg _ (by decide)
  have h2 : (fOf xs).fdiv 3 = fOf xs / 3 := Int.fdiv_eq_ediv_of_nonneg _ (by decide)
  unfold nOf wOf
  rw [h1, h2]
  refine ⟨by lia, by lia, ?_, ?_, by lia, by lia, by lia⟩
  · show AV.int _ = AV.int _
    congr 1; lia
  · show AV.int _ = AV.int _
    congr 1; lia
theorem cx (xs : List Int) : Cx (nOf xs) (wOf xs) (wsOf xs) := by
  obtain ⟨_, _, _, _, h1, h2, h3⟩ := f_facts xs
  refine ⟨h1, h2, h3, fun u hu => ?_, ?_, ?_⟩
  · obtain ⟨x, _, rfl⟩ := List.mem_map.mp hu
    exact figN_ok _ _
  · simp [wsOf, itemsL]
  · simp [wsOf, itemsL]; lia
noncomputable def figOf (n : Nat) : AV → AV
  | .int x => .lst (nats (figN n (x.fmod 81).toNat))
  | a => a
noncomputable def txtOfV : AV → AV
  | .lst l => match asInts l with
    | some ws => .str (txtOf ws)
    | none => .none
  | a => a
theorem figOf_map (n : Nat) (l : List Int) : (intL l).map (figOf n) = WL (l.map fun x => figN n (x.fmod 81).toNat) := by
  unfold intL WL
  rw [List.map_map, List.map_map]
  rfl
theorem txtOf_map (ws : List (List Nat)) : (WL ws).map txtOfV = TL ws := by
  unfold WL TL
  rw [List.map_map]
  refine List.map_congr_left fun u zq => ?_
  show (match asInts (nats u) with | some ws => AV.str (txtOf ws) | none => AV.none) = _
  rw [asInts_nats]; rfl
theorem ex_loopA {fi : List Slot → Option (List AV)} {B g : SF} {v : Fl} {xs : List AV} {f : Int} {n w : Nat} {ws : List (List Nat)} {r : List Slot} {t : Slot} (hfi : fi (B6 xs f n w ws (t :: r)) = some (TL ws))
    (hB : ∀ u ∈ ws, B (B6 xs f n w ws (.val (.str (txt (txc u))) :: r)) = some (.next, B6 xs f n w ws (.val (.str (txt (txc u))) :: r)))
    (hg : ∀ t', ∃ sl', g (B6 xs f n w ws (t' :: r)) = some (v, sl')) : ∃ sl', seqF (fun sl => (fi sl).bind fun xs => forF 6 B xs sl) g (B6 xs f n w ws (t :: r)) = some (v, sl') := by
  obtain ⟨t', e⟩ := loopA B xs f n w ws r hB t
  exact ex_next (for_of hfi e) (hg t')
theorem ex_loopJ {fi : List Slot → Option (List AV)} {B : SF} {xs : List AV} {f : Int} {n w : Nat} {ws : List (List Nat)} {t6 du nu ma co wo a b c le pa re : Slot} {i : Nat} (p q r : Nat → Int) {x y z : Int} {sj sf : Slot}
    (hfi : fi (B6 xs f n w ws (RR t6 (vi x) (vi y) (vi z) (.val (nat i)) sj sf du nu ma co wo a b c le pa re)) = some (nats (List.range i)))
    (hB : ∀ (k : Nat) (x y z : Int) (sf : Slot), k < i → ∃ sf', B (B6 xs f n w ws (RR t6 (vi x) (vi y) (vi z) (.val (nat i)) (.val (nat k)) sf du nu ma co wo a b c le pa re)) = some (.next, B6 xs f n w ws (RR t6 (vi (x + p k)) (vi (y + q k)) (vi (z + r k)) (.val (nat i)) (.val (nat k)) sf' du nu ma co wo a b c le pa re))) :
    ∃ sj' sf', seqF (fun sl => (fi sl).bind fun xs => forF 11 B xs sl) (fun sl => some (.next, sl)) (B6 xs f n w ws (RR t6 (vi x) (vi y) (vi z) (.val (nat i)) sj sf du nu ma co wo a b c le pa re)) =
      some (.next, B6 xs f n w ws (RR t6 (vi (x + sm p i)) (vi (y + sm q i)) (vi (z + sm r i)) (.val (nat i)) sj' sf' du nu ma co wo a b c le pa re)) := by
  obtain ⟨sj', sf', e⟩ := loopJ B xs f n w ws t6 du nu ma co wo a b c le pa re i p q r hB x y z sj sf
  exact ⟨sj', sf', seqF_next (for_of hfi e)⟩
theorem ex2_next {f g : SF} {sl sl1 : List Slot} {R : Slot → Slot → Option (Fl × List Slot)} (h : f sl = some (.next, sl1)) (h2 : ∃ s t, g sl1 = R s t) : ∃ s t, seqF f g sl = R s t := by rw [seqF_next h]; exact h2
theorem ex_loopI {fi : List Slot → Option (List AV)} {B g : SF} {v : Fl} {xs : List AV} {f : Int} {n w : Nat} {ws : List (List Nat)} {t6 du nu ma co wo a b c le pa re : Slot} {N : Nat} (p q r : Nat → Int) {si sj sf : Slot}
    (hfi : fi (B6 xs f n w ws (RR t6 (vi 0) (vi 0) (vi 0) si sj sf du nu ma co wo a b c le pa re)) = some (nats (List.range N)))
    (hB : ∀ (k : Nat) (x y z : Int) (sj sf : Slot), k < N → ∃ sj' sf', B (B6 xs f n w ws (RR t6 (vi x) (vi y) (vi z) (.val (nat k)) sj sf du nu ma co wo a b c le pa re)) = some (.next, B6 xs f n w ws (RR t6 (vi (x + p k)) (vi (y + q k)) (vi (z + r k)) (.val (nat k)) sj' sf' du nu ma co wo a b c le pa re)))
    (hg : ∀ si' sj' sf', ∃ sl', g (B6 xs f n w ws (RR t6 (vi (sm p N)) (vi (sm q N)) (vi (sm r N)) si' sj' sf' du nu ma co wo a b c le pa re)) = some (v, sl')) :
    ∃ sl', seqF (fun sl => (fi sl).bind fun xs => forF 10 B xs sl) g (B6 xs f n w ws (RR t6 (vi 0) (vi 0) (vi 0) si sj sf du nu ma co wo a b c le pa re)) = some (v, sl') := by
  obtain ⟨si', sj', sf', e⟩ := loopI B xs f n w ws t6 du nu ma co wo a b c le pa re N p q r hB 0 0 0 si sj sf
  rw [Int.zero_add, Int.zero_add, Int.zero_add] at e
  exact ex_next (for_of hfi e) (hg si' sj' sf')
theorem ex_loopN {fi : List Slot → Option (List AV)} {B g : SF} {v : Fl} {xs : List AV} {f : Int} {n w : Nat} {ws : List (List Nat)} {t6 wh al un i j fa le pa re : Slot} {N : Nat} {nu ma co wo a b c : Slot}
    (hfi : fi (B6 xs f n w ws (RR t6 wh al un i j fa (.mls (intL (dueF n ws 0))) nu ma co wo a b c le pa re)) = some (nats (List.range N)))
    (hB : ∀ (t : Nat) (ma co wo a b c : Slot), t < N → ∃ ma' co' wo' a' b' c', B (B6 xs f n w ws (RR t6 wh al un i j fa (.mls (intL (dueF n ws t))) (.val (nat t)) ma co wo a b c le pa re)) = some (.next, B6 xs f n w ws (RR t6 wh al un i j fa (.mls (intL (dueF n ws (t + 1)))) (.val (nat t)) ma' co' wo' a' b' c' le pa re)))
    (hg : ∀ nu' ma' co' wo' a' b' c', ∃ sl', g (B6 xs f n w ws (RR t6 wh al un i j fa (.mls (intL (dueF n ws N))) nu' ma' co' wo' a' b' c' le pa re)) = some (v, sl')) :
    ∃ sl', seqF (fun sl => (fi sl).bind fun xs => forF 14 B xs sl) g (B6 xs f n w ws (RR t6 wh al un i j fa (.mls (intL (dueF n ws 0))) nu ma co wo a b c le pa re)) = some (v, sl') := by
  obtain ⟨nu', ma', co', wo', a', b', c', e⟩ := loopN B xs f n w ws t6 wh al un i j fa le pa re N hB nu ma co wo a b c
  exact ex_next (for_of hfi e) (hg nu' ma' co' wo' a' b' c')
theorem neq_str (a b : Str) : cmpV .NotEq (.str a) (.str b) = some (!(a == b)) := rfl
theorem neq_nat (a b : Nat) : cmpV .NotEq (nat a) (nat b) = some (decide (a ≠ b)) := by
  show some (!((a : Int) == (b : Int))) = _
  congr 1
  by_cases h : a = b
  · subst h; simp
  · rw [decide_eq_true h]
    have : ((a : Int) == (b : Int)) = false := by rw [beq_eq_false_iff_ne]; lia
    rw [this]; rfl
theorem eq_nat (a b : Nat) : cmpV .Eq (nat a) (nat b) = some (decide (a = b)) := by
  show some ((a : Int) == (b : Int)) = _
  congr 1
  by_cases h : a = b
  · subst h; simp
  · rw [decide_eq_false h, beq_eq_false_iff_ne]; lia
noncomputable def b3Of : AV → AV
  | .str ⟨⟨[c]⟩⟩ => .str (b3 c)
  | a => a
theorem signs_txt (l : List Nat) : signs (txt l) = l.map fun c => AV.str (txt [c]) := by
  unfold signs
  rfl
noncomputable def unl (u v : List Nat) : AV → Bool
  | .int k => decide (u[k.toNat]? ≠ v[k.toNat]?)
  | _ => false
theorem far_count : ∀ (u v : List Nat), u.length = v.length → (List.range u.length).countP (fun k => decide (u[k]? ≠ v[k]?)) = far u v
  | [], [], _ => rfl
  | a :: u, b :: v, h => by
    simp only [List.length_cons] at h
    have ih := far_count u v (by lia)
    rw [List.length_cons, List.range_succ_eq_map, List.countP_cons, List.countP_map]
    have e : ((fun k => decide ((a :: u)[k]? ≠ (b :: v)[k]?)) ∘ Nat.succ) = fun k => decide (u[k]? ≠ v[k]?) := by funext k; simp
    rw [e, ih]
    simp only [far, List.getElem?_cons_zero, ne_eq, Option.some.injEq, decide_not]
    by_cases hab : a = b
    · subst hab; simp
    · simp [hab]; lia
  | a :: u, [], h => by cases h
  | [], b :: v, h => by cases h
theorem far_len (n : Nat) (u v : List Nat) (hu : okW n u) (hv : okW n v) : ((nats (List.range n)).filter (unl u v)).length = far u v := by
  rw [← far_count u v (by rw [hu.1, hv.1]), hu.1, ← List.countP_eq_length_filter]
  unfold nats intL
  rw [List.map_map, List.countP_map]
  rfl
theorem lenV_lst (l : List AV) (h : l.length < 1000000) : lenV [.lst l] = some (nat l.length) := by
  show (if l.length < 1000000 then some (AV.int l.length) else none) = _
  rw [if_pos h]
theorem wl_get {ws : List (List Nat)} {i : Nat} (h : i < ws.length) : (WL ws)[i]? = some (.lst (nats (wat ws i))) := by
  unfold WL wat
  rw [List.getElem?_map, List.getElem?_eq_getElem h]; rfl
theorem tl_get {ws : List (List Nat)} {i : Nat} (h : i < ws.length) : (TL ws)[i]? = some (.str (txt (txc (wat ws i)))) := by
  unfold TL wat
  rw [List.getElem?_map, List.getElem?_eq_getElem h]; rfl
theorem wat_ok {n : Nat} {ws : List (List Nat)} (h : ∀ u ∈ ws, okW n u) {i : Nat} (hi : i < ws.length) : okW n (wat ws i) := by
  unfold wat
  rw [List.getElem?_eq_getElem hi]
  exact h _ (List.getElem_mem hi)
theorem Cx.pows {n w : Nat} {ws : List (List Nat)} (c : Cx n w ws) (k : Int) (h0 : 0 ≤ XX w + k) (h : k ≤ 2) (m : Nat) (hm : m ≤ 4) : small ((XX w + k) ^ m) = true := by
  have hs : (XX w + k).toNat < 2 ^ 32 := by
    have : 2 ^ w ≤ 2 ^ 31 := Nat.pow_le_pow_right (by decide) c.w1
    unfold XX
    have e2 : (2 : Nat) ^ 32 = 4294967296 := by decide
    have e3 : (2 : Nat) ^ 31 = 2147483648 := by decide
    lia
  have e : XX w + k = ((XX w + k).toNat : Int) := by lia
  rw [e, ← Int.natCast_pow]
  refine small_of_lt (k := 32 * 4 + 1) ?_ (by decide)
  have h1 : (XX w + k).toNat ^ m ≤ (2 ^ 32) ^ m := Nat.pow_le_pow_left (by lia) m
  have h2 : ((2 : Nat) ^ 32) ^ m ≤ 2 ^ (32 * 4) := by rw [← Nat.pow_mul]; exact Nat.pow_le_pow_right (by decide) (by lia)
  have h3 : (2 : Nat) ^ (32 * 4) < 2 ^ (32 * 4 + 1) := Nat.pow_lt_pow_right (by decide) (by decide)
  lia
theorem ifF_trueA {c : List Slot → Option AV} {f g : SF} {sl : List Slot} {a : AV} (h : Ap c sl = some a) (ht : truth a = some true) : ifF c f g sl = f sl := ifF_true h ht
theorem ifF_falseA {c : List Slot → Option AV} {f g : SF} {sl : List Slot} {a : AV} (h : Ap c sl = some a) (ht : truth a = some false) : ifF c f g sl = g sl := ifF_false h ht
theorem ex_falseA {c : List Slot → Option AV} {f g h : SF} {sl : List Slot} {a : AV} {v : Fl} (hc : Ap c sl = some a) (ht : truth a = some false) (hg : g sl = some (.next, sl)) (h2 : ∃ sl', h sl = some (v, sl')) : ∃ sl', seqF (ifF c f g) h sl = some (v, sl') := ex_false hc ht hg h2
theorem skip_false {c : List Slot → Option AV} {f g h : SF} {sl : List Slot} {R : Option (Fl × List Slot)} (hc : Ap c sl = some (.bool false)) (hg : g sl = some (.next, sl)) (h2 : h sl = R) : seqF (ifF c f g) h sl = R := (seqF_next ((ifF_falseA hc rfl).trans hg)).trans h2
theorem skip_next {f g : SF} {sl sl1 : List Slot} {R : Option (Fl × List Slot)} (h : f sl = some (.next, sl1)) (h2 : g sl1 = R) : seqF f g sl = R := (seqF_next h).trans h2
theorem ap_join {f g : List Slot → Option AV} {sl : List Slot} {a b r : AV} (hf : Ap f sl = some a) (hg : Ap g sl = some b) (h : joinV a b = some r) : Ap (fun sl => (f sl).bind fun a => (g sl).bind fun b => joinV a b) sl = some r := by
  show ((Ap f sl).bind fun a => (Ap g sl).bind fun b => joinV a b) = _
  rw [hf, Option.bind_some, hg, Option.bind_some, h]
theorem ap_count {f g : List Slot → Option AV} {sl : List Slot} {a b r : AV} (hf : Ap f sl = some a) (hg : Ap g sl = some b) (h : countV a b = some r) : Ap (fun sl => (f sl).bind fun a => (g sl).bind fun b => countV a b) sl = some r := by
  show ((Ap f sl).bind fun a => (Ap g sl).bind fun b => countV a b) = _
  rw [hf, Option.bind_some, hg, Option.bind_some, h]
theorem ap_rep {f g : List Slot → Option AV} {sl : List Slot} {a b r : AV} (hf : Ap f sl = some a) (hg : Ap g sl = some b) (h : repV a b = some r) : Ap (fun sl => (f sl).bind fun a => (g sl).bind fun b => repV a b) sl = some r := by
  show ((Ap f sl).bind fun a => (Ap g sl).bind fun b => repV a b) = _
  rw [hf, Option.bind_some, hg, Option.bind_some, h]
theorem strOf_ap {f : List Slot → Option AV} {sl : List Slot} {x : Str} (hf : Ap f sl = some (.str x)) : (fun sl => (f sl).bind strOf) sl = some (signs x) := by
  show (Ap f sl).bind strOf = _
  rw [hf]; rfl
theorem tupOf_ap {f : List Slot → Option AV} {sl : List Slot} {xs : List AV} (hf : Ap f sl = some (.tup xs)) : (fun sl => (f sl).bind tupOf) sl = some xs := by
  show (Ap f sl).bind tupOf = _
  rw [hf]; rfl
theorem anyOf_ap {f : List Slot → Option AV} {sl : List Slot} {xs : List AV} (hf : Ap f sl = some (.mut xs)) : (fun sl => (f sl).bind AV.any?) sl = some xs := by
  show (Ap f sl).bind AV.any? = _
  rw [hf]; rfl
theorem numsOnly_ap {f : List Slot → Option AV} {sl : List Slot} {xs : List AV} (hf : Ap f sl = some (.lst xs)) (h : (asInts xs).isSome = true) : (fun sl => (f sl).bind numsOnly) sl = some xs := by
  show (Ap f sl).bind numsOnly = _
  rw [hf, Option.bind_some]
  show (if (asInts xs).isSome = true then some xs else none) = _
  rw [if_pos h]
theorem ap_zip {f1 f2 fe : List Slot → Option AV} {sl : List Slot} {xs ys out : List AV} (h1 : Ap f1 sl = some (.lst xs)) (h2 : Ap f2 sl = some (.lst ys)) (hl : xs.length < 1000000 ∧ ys.length < 1000000) (h : zipVL fe xs ys = some out) : Ap (fun sl => (f1 sl).bind fun a => (f2 sl).bind fun b => zipV fe a b) sl = some (.lst out) := by
  show ((Ap f1 sl).bind fun a => (Ap f2 sl).bind fun b => zipV fe a b) = _
  rw [h1, Option.bind_some, h2, Option.bind_some]
  show (if xs.length < 1000000 ∧ ys.length < 1000000 then (zipVL fe xs ys).map AV.lst else none) = _
  rw [if_pos hl, h]; rfl
theorem zip_mul {fe : List Slot → Option AV} (h : ∀ x y : Nat, x < 3 → y < 3 → Ap fe [.val (nat x), .val (nat y)] = some (nat (x * y))) : ∀ (m u : List Nat), (∀ a ∈ m, a < 3) → (∀ a ∈ u, a < 3) → zipVL fe (nats m) (nats u) = some (nats (List.zipWith (· * ·) m u))
  | [], _, _, _ => rfl
  | _ :: _, [], _, _ => rfl
  | x :: m, y :: u, hm, hu => by
    show (if (nat x).flat = true ∧ (nat y).flat = true then (Ap fe [.val (nat x), .val (nat y)]).bind (fun r => if r.flat = true then (zipVL fe (nats m) (nats u)).map (r :: ·) else none) else none) = _
    rw [if_pos ⟨rfl, rfl⟩, h x y (hm x List.mem_cons_self) (hu y List.mem_cons_self), Option.bind_some, if_pos (show (nat (x * y)).flat = true from rfl), zip_mul h m u (fun a ha => hm a (List.mem_cons_of_mem _ ha)) (fun a ha => hu a (List.mem_cons_of_mem _ ha))]
    rfl
theorem sum_zip (m u : List Nat) : sumV [.lst (nats (List.zipWith (· * ·) m u))] = some (nat (dot m u)) := by
  show (asInts (nats _)).map (fun ns => AV.int ns.sum) = _
  rw [asInts_nats]
  show some (AV.int _) = some (AV.int _)
  congr 2
  induction m generalizing u with
  | nil => rfl
  | cons x m ih =>
    cases u with
    | nil => rfl
    | cons y u =>
      simp only [List.zipWith_cons_cons, List.map_cons, List.sum_cons, ih, dot]
      simp
theorem count_nats (l : List Nat) : countV (.lst (nats l)) (.int 0) = some (nat (l.count 0)) := by
  show (asInts (nats l)).map (fun ns => AV.int (ns.count 0 : Nat)) = _
  rw [asInts_nats]
  show some (AV.int _) = some (AV.int _)
  congr 3
  induction l with
  | nil => rfl
  | cons x l ih =>
    rw [List.map_cons, List.count_cons, List.count_cons, ih]
    congr 1
    cases x <;> rfl
theorem augItem_ap {i j : Nat} {op : Operator} {fi fe : List Slot → Option AV} {sl : List Slot} {xs : List AV} {v old r : AV} (hl : sl[i]?.bind mls? = some xs) (hi : Ap fi sl = some (nat j)) (he : Ap fe sl = some v) (h : xs.length < 1000000) (ho : xs[j]? = some old) (hr : augV op old v = some r) (hf : r.firm = true) : augItemF i op fi fe sl = some (.next, sl.set i (.mls (xs.set j r))) := by
  have hj : j < xs.length := (List.getElem?_eq_some_iff.mp ho).1
  show (Ap fi sl).bind (fun j => (Ap fe sl).bind fun v => _) = _
  rw [hi, Option.bind_some, he, Option.bind_some]
  simp only [hl]
  rw [if_pos ⟨Int.natCast_nonneg j, by lia, h⟩, Int.toNat_natCast, ho, Option.bind_some, hr, Option.bind_some, if_pos hf]
theorem newF_mls {i : Nat} {f : List Slot → Option (List AV)} {sl sl' : List Slot} {xs : List AV} (h : f sl = some xs) (hf : firmL xs = true) (hp : putS sl i (.mls xs) = some sl') : newF 1 i f sl = some (.next, sl') := by
  unfold newF
  rw [h, Option.bind_some, if_pos hf]
  show (putS sl i (.mls xs)).map _ = _
  rw [hp]; rfl
theorem ap_and_t {f g : List Slot → Option AV} {sl : List Slot} {r : AV} (hf : Ap f sl = some (.bool true)) (hg : Ap g sl = some r) : Ap (andV f g) sl = some r := by
  show (Ap f sl).bind (fun a => (truth a).bind fun c => if c then Ap g sl else some a) = _
  rw [hf, Option.bind_some]; exact hg
theorem ret_ap {f : List Slot → Option AV} {g : SF} {sl : List Slot} {a : AV} (h : Ap f sl = some a) : ∃ sl', seqF (retF f) g sl = some (.ret a, sl') := by
  refine ⟨sl, seqF_ret ?_⟩
  show (Ap f sl).map (fun a => (Fl.ret a, sl)) = _
  rw [h]; rfl
theorem intL_lay : ∀ l : List Int, PyData.canLayAll0 (pyL (intL l)) = true
  | [] => rfl
  | x :: l => by show ((PyData.int x).canLay0 && PyData.canLayAll0 (pyL (intL l))) = true; rw [intL_lay l]; rfl
theorem intL_eqv : ∀ l : List Int, PyData.eqvAll (pyL (intL l)) (pyL (intL l)) = true
  | [] => rfl
  | x :: l => by show (PyData.eqv (.int x) (.int x) && PyData.eqvAll (pyL (intL l)) (pyL (intL l))) = true; rw [intL_eqv l]; simp [PyData.eqv]
theorem intL_depth : ∀ l : List Int, PyData.depthAll (pyL (intL l)) ≤ 1
  | [] => by decide
  | x :: l => by
    have ih := intL_depth l
    show PyData.depthAll (PyData.int x :: pyL (intL l)) ≤ 1
    simp only [PyData.depthAll, PyData.depth]
    lia
theorem neq_lists (l : List Int) : cmpV .NotEq (.lst (intL l)) (.mut (intL l)) = some false := by
  show (if (PyData.canLayAll0 (pyL (intL l)) && PyData.canLayAll0 (pyL (intL l)) && decide ((PyData.list (pyL (intL l))).depth < 500)) = true then some (PyData.eqvAll (pyL (intL l)) (pyL (intL l))) else none).map (!·) = _
  have h := intL_depth l
  have hd : (PyData.list (pyL (intL l))).depth < 500 := by simp only [PyData.depth]; lia
  rw [intL_lay, intL_eqv, decide_eq_true hd]; rfl
theorem rep_zero (n : Nat) (h : n < 1000) : binV .Mult (.lst [.int 0]) (nat n) = some (.lst (nats (List.replicate n 0))) := by
  have e : ∀ k : Nat, (List.replicate k [AV.int 0]).flatten = nats (List.replicate k 0) := fun k => by
    induction k with
    | zero => rfl
    | succ k ih => rw [List.replicate_succ, List.flatten_cons, ih]; rfl
  show (if (([AV.int 0] : List AV).length * ((n : Int)).toNat < 1000000 && decide ((n : Int) < 1000000) && decide (-1000000 < (n : Int))) = true then some (AV.lst (List.replicate ((n : Int)).toNat [AV.int 0]).flatten) else none) = _
  rw [if_pos, Int.toNat_natCast, e]
  rw [decide_eq_true (show ([AV.int 0] : List AV).length * ((n : Int)).toNat < 1000000 by simp; lia), decide_eq_true (show (n : Int) < 1000000 by lia), decide_eq_true (show (-1000000 : Int) < (n : Int) by lia)]
  rfl
theorem test_ap {f : List Slot → Option AV} {sl : List Slot} {b : Bool} (h : Ap f sl = some (.bool b)) : (fun sl => (f sl).bind truth) sl = some b := by
  show (Ap f sl).bind truth = _
  rw [h]; rfl
theorem comp_filterT {fi : List Slot → Option (List AV)} {f fe : List Slot → Option AV} {ix : List Nat} {sl : List Slot} {items : List AV} (p : AV → Bool) (hi : fi sl = some items) (hf : firmL items = true) (hl : items.length < 1000000)
    (h : ∀ x ∈ items, Ap f (cslots sl ix x) = some (.bool (p x)) ∧ Ap fe (cslots sl ix x) = some x ∧ x.firm = true) : compF fi (fun sl => (f sl).bind truth) fe ix sl = some (items.filter p) :=
  comp_filterG p hi hf hl fun x hx => ⟨test_ap (h x hx).1, (h x hx).2⟩
theorem Cx.smallM {n w : Nat} {ws : List (List Nat)} (c : Cx n w ws) : small (XX w - 1) = true := by
  have := c.x
  rw [Int.sub_eq_add_neg]; exact c.smallX (-1) (by lia) (by lia)
theorem Cx.powsM {n w : Nat} {ws : List (List Nat)} (c : Cx n w ws) (m : Nat) (hm : m ≤ 4) : small ((XX w - 1) ^ m) = true := by
  have := c.x
  rw [Int.sub_eq_add_neg]; exact c.pows (-1) (by lia) (by lia) m hm
theorem Cx.nat2 {n w : Nat} {ws : List (List Nat)} (c : Cx n w ws) (k : Int) (h0 : 0 ≤ XX w + k) (h : k ≤ 2) (m : Nat) (hm : m ≤ 4) : ((XX w + k) ^ m).natAbs < 2 ^ 129 := by
  have hs : (XX w + k).toNat < 2 ^ 32 := by
    have : 2 ^ w ≤ 2 ^ 31 := Nat.pow_le_pow_right (by decide) c.w1
    unfold XX
    have e2 : (2 : Nat) ^ 32 = 4294967296 := by decide
    have e3 : (2 : Nat) ^ 31 = 2147483648 := by decide
    lia
  have e : XX w + k = ((XX w + k).toNat : Int) := by lia
  rw [e, ← Int.natCast_pow, Int.natAbs_natCast]
  have h1 : (XX w + k).toNat ^ m ≤ (2 ^ 32) ^ m := Nat.pow_le_pow_left (by lia) m
  have h2 : ((2 : Nat) ^ 32) ^ m ≤ 2 ^ (32 * 4) := by rw [← Nat.pow_mul]; exact Nat.pow_le_pow_right (by decide) (by lia)
  have h3 : (2 : Nat) ^ (32 * 4) < 2 ^ 129 := Nat.pow_lt_pow_right (by decide) (by decide)
  lia
theorem small_abs {x : Int} {k : Nat} (h : x.natAbs < 2 ^ k) (hk : k ≤ 4000) : small x = true := by
  unfold small BIG
  exact decide_eq_true (Nat.lt_of_lt_of_le h (Nat.pow_le_pow_right (by decide) hk))
theorem Cx.mul1 {n w : Nat} {ws : List (List Nat)} (c : Cx n w ws) (m : Nat) (hm : m ≤ 4) : small (2 * (XX w - 1) ^ m) = true := by
  have := c.x
  refine small_abs (k := 130) ?_ (by decide)
  rw [Int.natAbs_mul, Int.sub_eq_add_neg]
  have := c.nat2 (-1) (by lia) (by lia) m hm
  rw [Nat.pow_succ]
  show 2 * _ < _
  lia
theorem rep_due (n : Nat) (h : n < 1000) {ws : List (List Nat)} : repV (.lst [.int 0]) (.int ((n : Int) + 1)) = some (.lst (intL (dueF n ws 0))) := by
  have e : ∀ k : Nat, (List.replicate k [AV.int 0]).flatten = intL (List.replicate k 0) := fun k => by
    induction k with
    | zero => rfl
    | succ k ih => rw [List.replicate_succ, List.flatten_cons, ih]; rfl
  show (if ([AV.int 0] : List AV).length * ((n : Int) + 1).toNat < 1000000 ∧ (n : Int) + 1 < 1000000 ∧ -1000000 < (n : Int) + 1 then some (AV.lst (List.replicate ((n : Int) + 1).toNat [AV.int 0]).flatten) else none) = _
  rw [if_pos ⟨by simp; lia, by lia, by lia⟩, show ((n : Int) + 1).toNat = n + 1 by lia, e]
  rfl
theorem ex6_next {f g : SF} {sl sl1 : List Slot} {R : Slot → Slot → Slot → Slot → Slot → Slot → Option (Fl × List Slot)} (h : f sl = some (.next, sl1)) (h2 : ∃ a b c d e k, g sl1 = R a b c d e k) : ∃ a b c d e k, seqF f g sl = R a b c d e k := by rw [seqF_next h]; exact h2
theorem ex6_loopW {fi : List Slot → Option (List AV)} {B g : SF} {R : Slot → Slot → Slot → Slot → Slot → Slot → Option (Fl × List Slot)} {xs : List AV} {f : Int} {n w : Nat} {ws : List (List Nat)} {t6 wh al un i j fa du nu ma a b c le pa re : Slot} {m : List Nat} {so : Slot} (hl : ws.length < 1000)
    (hfi : fi (B6 xs f n w ws (RR t6 wh al un i j fa du nu ma (.mls (nats [0, 0, 0])) so a b c le pa re)) = some (WL ws))
    (hB : ∀ (us : List (List Nat)) (u : List Nat), u ∈ ws → us.length < 1000 → B (B6 xs f n w ws (RR t6 wh al un i j fa du nu ma (.mls (nats (CC m us))) (.val (.lst (nats u))) a b c le pa re)) = some (.next, B6 xs f n w ws (RR t6 wh al un i j fa du nu ma (.mls (nats (CC m (us ++ [u])))) (.val (.lst (nats u))) a b c le pa re)))
    (hg : ∀ so', ∃ a1 b1 c1 d1 e1 k1, g (B6 xs f n w ws (RR t6 wh al un i j fa du nu ma (.mls (nats (CC m ws))) so' a b c le pa re)) = R a1 b1 c1 d1 e1 k1) :
    ∃ a1 b1 c1 d1 e1 k1, seqF (fun sl => (fi sl).bind fun xs => forF 17 B xs sl) g (B6 xs f n w ws (RR t6 wh al un i j fa du nu ma (.mls (nats [0, 0, 0])) so a b c le pa re)) = R a1 b1 c1 d1 e1 k1 := by
  obtain ⟨so', e⟩ := loopW B xs f n w ws t6 wh al un i j fa du nu ma a b c le pa re m hB hl so
  exact ex6_next (for_of hfi e) (hg so')
theorem cc_get (m : List Nat) (us : List (List Nat)) (r : Nat) (h : r < 3) : (nats (CC m us))[r]? = some (nat (cnt m us r)) := by
  match r, h with
  | 0, _ => rfl
  | 1, _ => rfl
  | 2, _ => rfl
theorem cc_set (m : List Nat) (us : List (List Nat)) (u : List Nat) : (nats (CC m us)).set (dot m u % 3) (nat (cnt m us (dot m u % 3) + 1)) = nats (CC m (us ++ [u])) := by
  rw [nats_set]
  congr 1
  have h := Nat.mod_lt (dot m u) (by decide : 0 < 3)
  simp only [CC, cnt_snoc]
  generalize dot m u % 3 = r at *
  match r, h with
  | 0, _ => simp
  | 1, _ => simp
  | 2, _ => simp
theorem int_get (l : List Int) (z : Nat) (h : z < l.length) : (intL l)[z]? = some (.int (l.getD z 0)) := by
  unfold intL
  rw [List.getElem?_map, List.getElem?_eq_getElem h, List.getD_eq_getElem?_getD, List.getElem?_eq_getElem h]; rfl
theorem int_set (l : List Int) (z : Nat) (v : Int) : (intL l).set z (.int v) = intL (l.set z v) := by simp [intL, List.map_set]
theorem ap_callZ {fn : List AV → Option AV} {f : List Slot → Option (List AV)} {sl : List Slot} {xs ys : List AV} {r : AV} (hf : f sl = some xs) (hz : freezeL xs = ys) (h : fn ys = some r) : Ap (fun sl => (f sl).bind fun avs => fn (freezeL avs)) sl = some r := by
  show (f sl).bind (fun avs => fn (freezeL avs)) = _
  rw [hf, Option.bind_some, hz, h]
theorem idm_call {a b : Int} (h : idmOk a b) : idmV [.int a, .int b] = some (.tup [.int (a.fdiv b), .int (a.fmod b)]) := by
  show (if idmOk a b then some (AV.tup [.int (a.fdiv b), .int (a.fmod b)]) else none) = _
  rw [if_pos h]
theorem fdiv_abs {a b : Int} (ha : 0 ≤ a) : (a.fdiv b).natAbs ≤ a.natAbs := by
  by_cases hb : b < 0
  · rw [(neg_fdiv hb).1]
    have := Int.natAbs_ediv_le_natAbs (-a) (-b)
    lia
  · rw [Int.fdiv_eq_ediv_of_nonneg _ (by lia)]
    exact Int.natAbs_ediv_le_natAbs a b
theorem Cx.part {n w : Nat} {ws : List (List Nat)} (c : Cx n w ws) (b : Int) : small ((Wh n w ws).fdiv b) = true := by
  refine small_abs (k := 155) ?_ (by decide)
  refine Nat.lt_of_le_of_lt (fdiv_abs c.nonneg) ?_
  rw [← c.und, Int.natAbs_natCast]
  exact Nat.lt_of_lt_of_le c.hi (Nat.pow_le_pow_right (by decide) c.wn)
theorem Cx.smallN {n w : Nat} {ws : List (List Nat)} (c : Cx n w ws) : small (-XX w - 2) = true := by
  have h1 := c.x
  have h := c.smallX 2 (by lia) (by lia)
  unfold small at h ⊢
  rw [decide_eq_true_eq] at h ⊢
  rw [show (-XX w - 2).natAbs = (XX w + 2).natAbs by lia]; exact h
theorem ap_flat {f : List Slot → Option AV} {sl : List Slot} {a r : AV} (h2 : flatV a = some r) (h : Ap f sl = some a) : Ap (fun sl => (f sl).bind flatV) sl = some r := by
  show (Ap f sl).bind flatV = _
  rw [h, Option.bind_some, h2]
theorem neq_int (a b : Int) : cmpV .NotEq (.int a) (.int b) = some (a != b) := rfl
theorem eq_int (a b : Int) : cmpV .Eq (.int a) (.int b) = some (a == b) := rfl
end Mine
end

section
open PySem PySem.W PyProof.Rows
set_option Elab.async false
set_option tactic.hygienic false
set_option maxRecDepth 100000
set_option autoImplicit false
set_option linter.unusedVariables false
namespace Mine
noncomputable abbrev U18 : List Slot := RR .unset .unset .unset .unset .unset .unset .unset .unset .unset .unset .unset .unset .unset .unset .unset .unset .unset .unset
set_option maxHeartbeats 4000000 in
theorem law_run (xs : List Int) (hlen : xs.length < 1000) : ∃ sl', law_.1 (.scr (intL xs) :: .unset :: .unset :: .unset :: .unset :: .unset :: U18) = some (.ret (.bool true), sl') := by
  obtain ⟨f0, f1, en, ew, hn, hw0, hw1⟩ := f_facts xs
  have c := cx xs
  unfold law_ pk
  dsimp only
  -- first
  refine ex_next (sl1 := .scr (intL xs) :: .val (.int (fOf xs)) :: .unset :: .unset :: .unset :: .unset :: U18) ?_ ?_
  · refine setF_ap (ap_bin (a := .int (firstOf xs)) ?_ ap_con (mod_int _ _ (by decide))) rfl rfl
    cases xs with
    | nil => exact ap_ite_f (a := .view []) (ap_var rfl) rfl ap_con
    | cons x r =>
      refine ap_ite_t (a := .view (intL (x :: r))) (ap_var rfl) ?_ (ap_idx (ap_var rfl) ap_con (idx_view0 x r))
      show (if (intL (x :: r)).length < 1000000 then some (!(intL (x :: r)).isEmpty) else none) = _
      rw [if_pos (by rw [List.length_map]; lia)]; rfl
  -- size
  refine ex_next (sl1 := .scr (intL xs) :: .val (.int (fOf xs)) :: .val (nat (nOf xs)) :: .unset :: .unset :: .unset :: U18) ?_ ?_
  · refine setF_ap (ap_bin ap_con (ap_bin (ap_var rfl) ap_con (mod_int _ _ (by decide))) ?_) rfl rfl
    rw [en]; rfl
  have wexp : ∀ sl : List Slot, sl[1]?.bind Slot.read = some (.int (fOf xs)) → Ap (fun sl => (some (AV.int 12)).bind fun a => ((sl[1]?.bind Slot.read).bind fun a => (some (AV.int 3)).bind fun b => binV Operator.FloorDiv a b).bind fun b => binV Operator.Add a b) sl = some (nat (wOf xs)) := fun sl h =>
    ap_bin ap_con (ap_bin (ap_var h) ap_con (fdiv_int _ _ (by decide) (small_i _ (by decide) (by decide)))) (by rw [ew]; rfl)
  -- base
  refine ex_next (sl1 := .scr (intL xs) :: .val (.int (fOf xs)) :: .val (nat (nOf xs)) :: .val (nat (2 ^ wOf xs)) :: .unset :: .unset :: U18) ?_ ?_
  · refine setF_ap (ap_bin ap_con (wexp _ rfl) ?_) rfl rfl
    rw [pow_int _ _ (small_i _ (by decide) (by decide)) (by lia) (by lia), Int.toNat_natCast]
    show some (AV.int _) = some (AV.int _)
    rw [Int.natCast_pow]; rfl
  -- words
  refine ex_next (sl1 := .scr (intL xs) :: .val (.int (fOf xs)) :: .val (nat (nOf xs)) :: .val (nat (2 ^ wOf xs)) :: .val (.lst (WL (wsOf xs))) :: .unset :: U18) ?_ ?_
  · refine newF_val (xs := (intL (itemsL xs)).map (figOf (nOf xs))) ?_ (by rw [figOf_map]; exact firm_lists _) (by rw [figOf_map]; rfl)
    refine comp_mapG (figOf (nOf xs)) ?_ (firm_intL _) ?_ (fun x hx => ?_)
    · refine listOf_ap (ap_bin (ap_slice (ap_var rfl) ap_con ap_con (slice_view xs (by lia))) (ap_list (cons_of ap_con (cons_of ap_con (cons_of ap_con rfl))) (by decide)) ?_)
      rw [add_lst _ _ (by simp [intL]; lia)]
      simp [intL, itemsL]
    · simp [intL, itemsL]; lia
    · obtain ⟨y, hy, rfl⟩ := List.mem_map.mp hx
      refine ⟨rfl, ?_, firm_intL _⟩
      have hy1 : y.fmod 81 = ((y.fmod 81).toNat : Int) := by
        rw [Int.fmod_eq_emod_of_nonneg _ (by decide)]; lia
      refine ap_call (xs := [nat (y.fmod 81).toNat, nat (nOf xs)]) (cons_of (ap_bin (ap_var rfl) ap_con ((mod_int _ _ (by decide)).trans ?_)) (cons_of (ap_var rfl) rfl)) rfl (fig_call _ _ (by lia))
      rw [hy1]; rfl
  -- texts
  refine ex_next (sl1 := B6 (intL xs) (fOf xs) (nOf xs) (wOf xs) (wsOf xs) U18) ?_ ?_
  · refine newF_val (xs := TL (wsOf xs)) ?_ ?_ rfl
    · rw [← txtOf_map]
      refine comp_mapG txtOfV (listOf_ap (ap_var rfl)) (firm_lists _) (by simp [WL]; have := c.len1; lia) (fun x hx => ?_)
      obtain ⟨u, hu, rfl⟩ := List.mem_map.mp hx
      have ht := txt_call (nOf xs) hn u (c.ok u hu)
      refine ⟨rfl, ?_, ?_⟩
      · refine ap_call (cons_of (ap_var rfl) rfl) ?_ ?_
        · show [AV.lst (freezeL (nats u))] = _
          rw [show freezeL (nats u) = nats u from freeze_intL _]
        · rw [ht]
          show some (AV.str (txt (txc u))) = some (match asInts (nats u) with | some ws => AV.str (txtOf ws) | none => AV.none)
          rw [asInts_nats]; rfl
      · show (match asInts (nats u) with | some ws => AV.str (txtOf ws) | none => AV.none).firm = true
        rw [asInts_nats]; rfl
    · rw [firmL_iff]
      intro x hx
      obtain ⟨u, hu, rfl⟩ := List.mem_map.mp hx
      rfl
  generalize fOf xs = f at *
  generalize nOf xs = n at *
  generalize wOf xs = w at *
  generalize wsOf xs = ws at *
  generalize intL xs = sc0 at *
  -- the texts are made small
  refine ex_loopA (listOf_ap (ap_var rfl)) (fun u hu => ?_) (fun t6 => ?_)
  · refine skip_false ?_ rfl rfl
    refine ap_cmp (u := .str (txt (small0 n))) (v := .str (txt (small0 n))) (r := false) ?_ ?_ (by rw [neq_str]; simp)
    · refine ap_join ap_con (ap_comp (comp_mapG b3Of (strOf_ap (ap_var rfl)) ?_ ?_ (fun x hx => ?_))) ?_
      · rw [signs_txt, firmL_iff]
        intro x hx
        obtain ⟨k, _, rfl⟩ := List.mem_map.mp hx
        rfl
      · rw [signs_txt, List.length_map, txc_len, (c.ok u hu).1]; lia
      · rw [signs_txt] at hx
        obtain ⟨k, _, rfl⟩ := List.mem_map.mp hx
        exact ⟨rfl, ap_call (cons_of (ap_var rfl) rfl) rfl rfl, rfl⟩
      · rw [signs_txt, List.map_map]
        exact join_small n hn u (c.ok u hu)
    · refine ap_call (xs := [.lst (nats (List.replicate n 0))]) (cons_of (ap_bin (ap_list (cons_of ap_con rfl) (by decide)) (ap_var rfl) (rep_zero n (by lia))) rfl) ?_ ?_
      · show [AV.lst (freezeL (nats _))] = _
        rw [show freezeL (nats (List.replicate n 0)) = nats (List.replicate n 0) from freeze_intL _]
      · exact txt_call n hn _ ⟨List.length_replicate .., fun a ha => by rw [List.eq_of_mem_replicate ha]; decide⟩
  refine ex_next (sl1 := B6 sc0 f n w ws (RR t6 (vi 0) .unset .unset .unset .unset .unset .unset .unset .unset .unset .unset .unset .unset .unset .unset .unset .unset)) rfl ?_
  refine ex_next (sl1 := B6 sc0 f n w ws (RR t6 (vi 0) (vi 0) .unset .unset .unset .unset .unset .unset .unset .unset .unset .unset .unset .unset .unset .unset .unset)) rfl ?_
  refine ex_next (sl1 := B6 sc0 f n w ws (RR t6 (vi 0) (vi 0) (vi 0) .unset .unset .unset .unset .unset .unset .unset .unset .unset .unset .unset .unset .unset .unset)) rfl ?_
  refine ex_loopI (N := ws.length) (fun i => (XX w + 2) ^ n + sm (fun j => 2 * (XX w - 1) ^ far (wat ws i) (wat ws j) * (XX w + 2) ^ (n - far (wat ws i) (wat ws j))) i) (fun i => 1 + sm (fun j => if far (wat ws i) (wat ws j) = 0 then 2 else 0) i) (fun i => sm (fun j => if far (wat ws i) (wat ws j) = n then 2 else 0) i) ?_ (fun i x y z sj sf hi => ?_) (fun si sj sf => ?_)
  · refine range_of (cons_of (ap_fn (cons_of (ap_var rfl) rfl) (lenV_lst _ ?_)) rfl) ?_
    · rw [List.length_map]; have := c.len1; lia
    · rw [List.length_map]
      exact range_nat _ (by have := c.len1; lia)
  · have hl := c.len1
    have hwi := wat_ok c.ok hi
    refine ex2_next (sl1 := B6 sc0 f n w ws (RR t6 (vi (x + (XX w + 2) ^ n)) (vi y) (vi z) (.val (nat i)) sj sf .unset .unset .unset .unset .unset .unset .unset .unset .unset .unset .unset)) ?_ ?_
    · refine aug_ap rfl (ap_bin (ap_bin (ap_var rfl) ap_con (add_int _ _)) (ap_var rfl) (pow_int _ _ (c.smallX 2 (by have := c.x; lia) (by lia)) (by lia) (by lia))) ?_
      rw [Int.toNat_natCast]; rfl
    refine ex2_next (sl1 := B6 sc0 f n w ws (RR t6 (vi (x + (XX w + 2) ^ n)) (vi (y + 1)) (vi z) (.val (nat i)) sj sf .unset .unset .unset .unset .unset .unset .unset .unset .unset .unset .unset)) ?_ ?_
    · exact aug_ap rfl ap_con rfl
    have main := fun (fi : List Slot → Option (List AV)) (B : SF) => ex_loopJ (fi := fi) (B := B) (xs := sc0) (f := f) (n := n) (w := w) (ws := ws) (t6 := t6) (du := .unset) (nu := .unset) (ma := .unset) (co := .unset) (wo := .unset) (a := .unset) (b := .unset) (c := .unset) (le := .unset) (pa := .unset) (re := .unset) (i := i) (fun j => 2 * (XX w - 1) ^ far (wat ws i) (wat ws j) * (XX w + 2) ^ (n - far (wat ws i) (wat ws j))) (fun j => if far (wat ws i) (wat ws j) = 0 then 2 else 0) (fun j => if far (wat ws i) (wat ws j) = n then 2 else 0) (x := x + (XX w + 2) ^ n) (y := y + 1) (z := z) (sj := sj) (sf := sf)
    simp only [Int.add_assoc] at main ⊢
    refine main _ _ ?_ (fun j x y z sf hj => ?_)
    · exact range_of (cons_of (ap_var rfl) rfl) (range_nat _ (by lia))
    · have hj' : j < ws.length := by lia
      have hwj := wat_ok c.ok hj'
      have hfar : far (wat ws i) (wat ws j) ≤ n := by have := far_le (wat ws i) (wat ws j) (by rw [hwi.1, hwj.1]); rw [hwi.1] at this; exact this
      refine ⟨.val (nat (far (wat ws i) (wat ws j))), ?_⟩
      refine skip_next (sl1 := B6 sc0 f n w ws (RR t6 (vi x) (vi y) (vi z) (.val (nat i)) (.val (nat j)) (.val (nat (far (wat ws i) (wat ws j)))) .unset .unset .unset .unset .unset .unset .unset .unset .unset .unset .unset)) ?_ ?_
      · refine setF_ap (ap_fn (cons_of (ap_comp (comp_filterT (unl (wat ws i) (wat ws j)) (items := nats (List.range n)) ?_ (firm_intL _) ?_ (fun k hk => ?_))) rfl) (lenV_lst _ ?_)) ?_ ?_
        · exact range_of (cons_of (ap_var rfl) rfl) (range_nat _ (by lia))
        · rw [nats_len, List.length_range]; lia
        · obtain ⟨q, hq, rfl⟩ := List.mem_map.mp hk
          obtain ⟨p, hp, rfl⟩ := List.mem_map.mp hq
          have hp := List.mem_range.mp hp
          refine ⟨?_, ap_var rfl, rfl⟩
          have e1 : (wat ws i)[p]? = some ((wat ws i)[p]'(by rw [hwi.1]; exact hp)) := List.getElem?_eq_getElem _
          have e2 : (wat ws j)[p]? = some ((wat ws j)[p]'(by rw [hwj.1]; exact hp)) := List.getElem?_eq_getElem _
          refine ((ap_cmp (ap_idx (ap_idx (ap_var rfl) (ap_var rfl) (idx_lst _ i _ ?_ (wl_get hi))) (ap_var rfl) (idx_lst _ p _ ?_ (nats_get _ _ _ e1))) (ap_idx (ap_idx (ap_var rfl) (ap_var rfl) (idx_lst _ j _ ?_ (wl_get hj'))) (ap_var rfl) (idx_lst _ p _ ?_ (nats_get _ _ _ e2))) ?_))
          · rw [List.length_map]; lia
          · rw [nats_len, hwi.1]; lia
          · rw [List.length_map]; lia
          · rw [nats_len, hwj.1]; lia
          · rw [neq_nat]
            show some _ = some (decide ((wat ws i)[((p : Int)).toNat]? ≠ (wat ws j)[((p : Int)).toNat]?))
            rw [Int.toNat_natCast, e1, e2]
            simp
        · rw [far_len n _ _ hwi hwj]; lia
        · rfl
        · rw [far_len n _ _ hwi hwj]; rfl
      refine skip_false ?_ rfl ?_
      · refine ap_cmp (ap_call (xs := [.str (txt (txc (wat ws i))), .str (txt (txc (wat ws j))), nat (far (wat ws i) (wat ws j))]) (cons_of (ap_idx (ap_var rfl) (ap_var rfl) (idx_lst _ i _ ?_ (tl_get hi))) (cons_of (ap_idx (ap_var rfl) (ap_var rfl) (idx_lst _ j _ ?_ (tl_get hj'))) (cons_of (ap_var rfl) rfl))) rfl (lev_words n (by lia) _ _ hwi hwj)) (ap_var rfl) ((neq_nat _ _).trans (by simp))
        · rw [List.length_map]; lia
        · rw [List.length_map]; lia
      generalize far (wat ws i) (wat ws j) = d at *
      refine skip_next (sl1 := B6 sc0 f n w ws (RR t6 (vi (x + 2 * (XX w - 1) ^ d * (XX w + 2) ^ (n - d))) (vi y) (vi z) (.val (nat i)) (.val (nat j)) (.val (nat d)) .unset .unset .unset .unset .unset .unset .unset .unset .unset .unset .unset)) ?_ ?_
      · have hx := c.x
        refine aug_ap (b := .int (2 * (XX w - 1) ^ d * (XX w + 2) ^ (n - d))) rfl (ap_bin (ap_bin ap_con (ap_bin (ap_bin (ap_var rfl) ap_con (sub_int _ _)) (ap_var rfl) (pow_int _ _ c.smallM (by lia) (by lia))) (mul_int _ _ (small_i _ (by decide) (by decide)) (c.powsM _ (by lia)))) (ap_bin (ap_bin (ap_var rfl) ap_con (add_int _ _)) (ap_bin (ap_var rfl) (ap_var rfl) (sub_int _ _)) (pow_int _ _ (c.smallX 2 (by lia) (by lia)) (by lia) (by lia))) ?_) rfl
        rw [show (((n : Int) - (d : Int)).toNat) = n - d by lia]
        exact mul_int _ _ (c.mul1 _ (by lia)) (c.pows 2 (by lia) (by lia) _ (by lia))
      refine skip_next (sl1 := B6 sc0 f n w ws (RR t6 (vi (x + 2 * (XX w - 1) ^ d * (XX w + 2) ^ (n - d))) (vi (y + if d = 0 then 2 else 0)) (vi z) (.val (nat i)) (.val (nat j)) (.val (nat d)) .unset .unset .unset .unset .unset .unset .unset .unset .unset .unset .unset)) ?_ ?_
      · by_cases h : d = 0
        · rw [if_pos h]
          exact (ifF_trueA (a := .bool true) (ap_cmp (ap_var rfl) ap_con ((eq_nat d 0).trans (by rw [decide_eq_true h]))) rfl).trans (seqF_next (aug_ap rfl ap_con rfl))
        · rw [if_neg h, Int.add_zero]
          exact (ifF_falseA (a := .bool false) (ap_cmp (ap_var rfl) ap_con ((eq_nat d 0).trans (by rw [decide_eq_false h]))) rfl)
      refine skip_next (sl1 := B6 sc0 f n w ws (RR t6 (vi (x + 2 * (XX w - 1) ^ d * (XX w + 2) ^ (n - d))) (vi (y + if d = 0 then 2 else 0)) (vi (z + if d = n then 2 else 0)) (.val (nat i)) (.val (nat j)) (.val (nat d)) .unset .unset .unset .unset .unset .unset .unset .unset .unset .unset .unset)) ?_ rfl
      · by_cases h : d = n
        · rw [if_pos h]
          exact (ifF_trueA (a := .bool true) (ap_cmp (ap_var rfl) (ap_var rfl) ((eq_nat d n).trans (by rw [decide_eq_true h]))) rfl).trans (seqF_next (aug_ap rfl ap_con rfl))
        · rw [if_neg h, Int.add_zero]
          exact (ifF_falseA (a := .bool false) (ap_cmp (ap_var rfl) (ap_var rfl) ((eq_nat d n).trans (by rw [decide_eq_false h]))) rfl)
  refine ex_next (sl1 := B6 sc0 f n w ws (RR t6 (vi (Wh n w ws)) (vi (alike n ws ws.length)) (vi (unlike n ws ws.length)) si sj sf (.mls (intL (dueF n ws 0))) .unset .unset .unset .unset .unset .unset .unset .unset .unset .unset)) ?_ ?_
  · refine newF_mls (numsOnly_ap (xs := intL (dueF n ws 0)) (ap_rep (a := .lst [.int 0]) (ap_list (cons_of ap_con rfl) (by decide)) (ap_bin (ap_var rfl) ap_con (add_int _ _)) (rep_due n (by lia))) (by rw [asInts_map]; rfl)) (firm_intL _) rfl
  refine ex_loopN (N := 3 ^ n) ?_ (fun t ma co wo a b c' ht => ?_) (fun nu ma co wo a b c' => ?_)
  · refine range_of (xs := [nat (3 ^ n)]) (cons_of (ap_bin ap_con (ap_var rfl) ((pow_int _ _ (small_i _ (by decide) (by decide)) (by lia) (by lia)).trans ?_)) rfl) (range_nat _ ?_)
    · rw [Int.toNat_natCast]
      show some (AV.int _) = some (AV.int _)
      rw [Int.natCast_pow]; rfl
    · have := pow3 hn; lia
  · have h3 := pow3 hn
    have hfig := figN_ok n t
    refine ex6_next (sl1 := B6 sc0 f n w ws (RR t6 (vi (Wh n w ws)) (vi (alike n ws ws.length)) (vi (unlike n ws ws.length)) si sj sf (.mls (intL (dueF n ws t))) (.val (nat t)) (.val (.lst (nats (figN n t)))) co wo a b c' .unset .unset .unset)) ?_ ?_
    · exact setF_ap (ap_call (xs := [nat t, nat n]) (cons_of (ap_var rfl) (cons_of (ap_var rfl) rfl)) rfl (fig_call n t (by lia))) (firm_intL _) rfl
    refine ex6_next (sl1 := B6 sc0 f n w ws (RR t6 (vi (Wh n w ws)) (vi (alike n ws ws.length)) (vi (unlike n ws ws.length)) si sj sf (.mls (intL (dueF n ws t))) (.val (nat t)) (.val (.lst (nats (figN n t)))) (.mls (nats [0, 0, 0])) wo a b c' .unset .unset .unset)) ?_ ?_
    · exact newF_mls (numsOnly_ap (ap_list (cons_of ap_con (cons_of ap_con (cons_of ap_con rfl))) (by decide)) rfl) (firm_intL _) rfl
    refine ex6_loopW (m := figN n t) (by have := c.len1; lia) ?_ (fun us u hu hl => ?_) (fun so => ?_)
    · exact listOf_ap (ap_var rfl)
    · have hu' := c.ok u hu
      refine skip_next ((augItem_ap (j := dot (figN n t) u % 3) (xs := nats (CC (figN n t) us)) (v := .int 1) (old := nat (cnt (figN n t) us (dot (figN n t) u % 3))) (r := nat (cnt (figN n t) us (dot (figN n t) u % 3) + 1)) rfl ?_ ap_con (by rw [nats_len]; show 3 < 1000000; decide) (cc_get _ _ _ (Nat.mod_lt _ (by decide))) rfl rfl).trans (by rw [cc_set]; rfl)) rfl
      refine ap_bin (ap_fn (cons_of (ap_zip (ap_var rfl) (ap_var rfl) ⟨?_, ?_⟩ (zip_mul (fun x y hx hy => ?_) (figN n t) u hfig.2 hu'.2)) rfl) (sum_zip _ _)) ap_con ((mod_int _ _ (by decide)).trans ?_)
      · rw [nats_len, hfig.1]; lia
      · rw [nats_len, hu'.1]; lia
      · refine ap_bin (ap_var rfl) (ap_var rfl) ((mul_int _ _ (small_i _ (by lia) (by lia)) (small_i _ (by lia) (by lia))).trans ?_)
        rfl
      · rw [Int.fmod_eq_emod_of_nonneg _ (by decide)]; rfl
    refine ex6_next (sl1 := B6 sc0 f n w ws (RR t6 (vi (Wh n w ws)) (vi (alike n ws ws.length)) (vi (unlike n ws ws.length)) si sj sf (.mls (intL (dueF n ws t))) (.val (nat t)) (.val (.lst (nats (figN n t)))) (.mls (nats (CC (figN n t) ws))) so (.val (nat (cnt (figN n t) ws 0))) (.val (nat (cnt (figN n t) ws 1))) (.val (nat (cnt (figN n t) ws 2))) .unset .unset .unset)) ?_ ?_
    · exact unpackF_eq (anyOf_ap (ap_var rfl)) rfl
    have hc := cnt_all (figN n t) ws
    have hl1 := c.len1
    have hz := zer_le n t
    refine ⟨.val (.lst (nats (figN n t))), .mls (nats (CC (figN n t) ws)), so, .val (nat (cnt (figN n t) ws 0)), .val (nat (cnt (figN n t) ws 1)), .val (nat (cnt (figN n t) ws 2)), ?_⟩
    refine skip_next ((augItem_ap (j := zer (figN n t)) (xs := intL (dueF n ws t)) (v := .int (val (figN n t) ws)) (old := .int ((dueF n ws t).getD (zer (figN n t)) 0)) (r := .int ((dueF n ws t).getD (zer (figN n t)) 0 + val (figN n t) ws)) rfl (ap_count (ap_var rfl) ap_con (count_nats _)) ?_ ?_ (int_get _ _ (by rw [dueF_len]; exact hz)) rfl rfl).trans (by rw [int_set]; rfl)) rfl
    · unfold val val3
      generalize cnt (figN n t) ws 0 = a at *
      generalize cnt (figN n t) ws 1 = b at *
      generalize cnt (figN n t) ws 2 = d at *
      have sm3 : ∀ x : Nat, x ≤ 5 → small (x : Int) = true := fun x hx => small_i _ (by lia) (by lia)
      have ma := sm3 a (by lia)
      have mb := sm3 b (by lia)
      have mc := sm3 d (by lia)
      exact ap_bin (ap_bin (ap_bin (ap_bin (ap_bin (ap_bin (ap_var rfl) (ap_var rfl) (mul_int _ _ ma ma)) (ap_bin (ap_var rfl) (ap_var rfl) (mul_int _ _ mb mb)) (add_int _ _)) (ap_bin (ap_var rfl) (ap_var rfl) (mul_int _ _ mc mc)) (add_int _ _)) (ap_bin (ap_var rfl) (ap_var rfl) (mul_int _ _ ma mb)) (sub_int _ _)) (ap_bin (ap_var rfl) (ap_var rfl) (mul_int _ _ mb mc)) (sub_int _ _)) (ap_bin (ap_var rfl) (ap_var rfl) (mul_int _ _ mc ma)) (sub_int _ _)
    · rw [List.length_map, dueF_len]; lia
  refine ex_falseA (a := .bool false) ?_ rfl rfl ?_
  · refine ap_or_ff (ap_cmp (ap_call (xs := [.int (Wh n w ws), nat w]) (cons_of (ap_var rfl) (cons_of (wexp _ rfl) rfl)) rfl c.i2d) (ap_var rfl) (neq_lists _)) (ap_cmp (ap_callZ (xs := [.mut (intL (Du n ws)), nat w]) (ys := [.lst (intL (Du n ws)), nat w]) (cons_of (ap_var rfl) (cons_of (wexp _ rfl) rfl)) ?_ c.d2i) (ap_var rfl) ((neq_int _ _).trans (by simp)))
    show [AV.lst (freezeL (intL (Du n ws))), nat w] = _
    rw [show freezeL (intL (Du n ws)) = intL (Du n ws) from freeze_intL _]
  have hun := unlike_bound n ws ws.length c.len1
  have hal := alike_bound n ws ws.length c.len1
  have hx := c.x
  refine ex_next (sl1 := B6 sc0 f n w ws (RR t6 (vi (Wh n w ws)) (vi (alike n ws ws.length)) (vi (unlike n ws ws.length)) si sj sf (.mls (intL (Du n ws))) nu ma co wo a b c' (vi ((-3) ^ n * unlike n ws ws.length)) .unset .unset)) ?_ ?_
  · refine setF_ap (ap_bin (ap_bin (ap_un ap_con rfl) (ap_var rfl) (pow_int (-3) n (by decide +kernel) (by lia) (by lia))) (ap_var rfl) ?_) rfl rfl
    rw [Int.toNat_natCast]
    exact mul_int _ _ (by rcases hn with rfl | rfl | rfl <;> decide +kernel) (small_i _ hun.1 (by lia))
  refine ex_next (sl1 := B6 sc0 f n w ws (RR t6 (vi (Wh n w ws)) (vi (alike n ws ws.length)) (vi (unlike n ws ws.length)) si sj sf (.mls (intL (Du n ws))) nu ma co wo a b c' (vi (leftV n w ws)) .unset .unset)) ?_ ?_
  · unfold leftV
    by_cases h : 0 < (-3) ^ n * unlike n ws ws.length
    · rw [if_pos h]
      exact (ifF_trueA (a := .bool true) (ap_cmp (ap_var rfl) ap_con ((gt_int _ _).trans (by rw [decide_eq_true h]))) rfl).trans (seqF_next (aug_ap rfl (ap_bin (ap_var rfl) ap_con (add_int _ _)) rfl))
    · rw [if_neg h]
      exact ifF_falseA (a := .bool false) (ap_cmp (ap_var rfl) ap_con ((gt_int _ _).trans (by rw [decide_eq_false h]))) rfl
  refine ex_next (sl1 := B6 sc0 f n w ws (RR t6 (vi (Wh n w ws)) (vi (alike n ws ws.length)) (vi (unlike n ws ws.length)) si sj sf (.mls (intL (Du n ws))) nu ma co wo a b c' (vi (leftV n w ws)) (vi ((Wh n w ws).fdiv (XX w - 1))) (vi ((Wh n w ws).fmod (XX w - 1))))) ?_ ?_
  · exact unpackF_eq (tupOf_ap (ap_call (xs := [.int (Wh n w ws), .int (XX w - 1)]) (cons_of (ap_var rfl) (cons_of (ap_bin (ap_var rfl) ap_con (sub_int _ _)) rfl)) rfl (idm_call c.idmOk1))) rfl
  have hp3 := pow3n c
  refine ex_falseA (a := .bool false) ?_ rfl rfl ?_
  · refine ap_or_ff (ap_cmp (v := .int (3 ^ n * alike n ws ws.length)) (r := false) (ap_var rfl) (ap_bin (ap_bin ap_con (ap_var rfl) (pow_int 3 n (by decide +kernel) (by lia) (by lia))) (ap_var rfl) ?_) ((neq_int _ _).trans ?_)) (ap_cmp (ap_bin (ap_bin (ap_var rfl) (ap_bin (ap_var rfl) ap_con (sub_int _ _)) (mul_int _ _ (c.part _) c.smallM)) (ap_var rfl) (add_int _ _)) (ap_var rfl) ((neq_int _ _).trans ?_))
    · rw [Int.toNat_natCast]
      exact mul_int _ _ (small_i _ hp3.2.1 (by lia)) (small_i _ hal.1 (by lia))
    · rw [c.rest1]; simp
    · rw [Int.mul_comm, Int.mul_fdiv_add_fmod]; simp
  refine ex_next (sl1 := B6 sc0 f n w ws (RR t6 (vi (Wh n w ws)) (vi (alike n ws ws.length)) (vi (unlike n ws ws.length)) si sj sf (.mls (intL (Du n ws))) nu ma co wo a b c' (vi (leftV n w ws)) (vi ((Wh n w ws).fdiv (-XX w - 2))) (vi ((Wh n w ws).fmod (-XX w - 2))))) ?_ ?_
  · exact unpackF_eq (tupOf_ap (ap_call (xs := [.int (Wh n w ws), .int (-XX w - 2)]) (cons_of (ap_var rfl) (cons_of (ap_bin (ap_un (ap_var rfl) rfl) ap_con (sub_int _ _)) rfl)) rfl (idm_call c.idmOk2))) rfl
  refine ret_ap (ap_flat rfl (ap_and_t (ap_cmp (ap_var rfl) (ap_var rfl) ((eq_int _ _).trans ?_)) (ap_cmp (ap_bin (ap_bin (ap_var rfl) (ap_bin (ap_un (ap_var rfl) rfl) ap_con (sub_int _ _)) (mul_int _ _ (c.part _) c.smallN)) (ap_var rfl) (add_int _ _)) (ap_var rfl) ((eq_int _ _).trans ?_))))
  · rw [c.rest2]; simp
  · rw [Int.mul_comm, Int.mul_fdiv_add_fmod]; simp
end Mine
end

section
open PySem PySem.W PyProof.Rows
set_option Elab.async false
set_option tactic.hygienic false
set_option maxRecDepth 100000
set_option autoImplicit false
set_option linter.unusedVariables false
namespace Mine
theorem ints_repL {W : Addr → Prop} {h : Heap} : ∀ {vs : List Value} {xs : List Int}, IntsAre vs xs → RepL W h (intL xs) vs
  | _, _, .nil => rfl
  | _, _, .cons n t r => ⟨_, _, rfl, ⟨t, rfl⟩, ints_repL r⟩
theorem law_ok : DefOk dLaw ["script"] nLaw where
  bind := fun pm code doc vals h => by
    obtain ⟨a, rfl⟩ := vlen1 h
    kernel_rfl
  pre := rfl
  nodup := by decide +kernel
  kinds := by decide +kernel
  free := by decide +kernel
  co := by kernel_rfl
  gen := by kernel_rfl
  fn := by kernel_rfl
theorem law_call (G : Gl) (ok : Ok1 G) (A : Around) (s : Shared) (a d : Addr) (us : List Value) (xs : List Int) (ro : Room A 36) (kk : Kept G.h₀ s.heap) (H : Heap) (tb0 : TB H s.heap) (hm : G.mg "law" = some (.ref a)) (hl : s.heap.IsList d us.toArray) (hi : IntsAre us xs) (hlen : xs.length < 1000)
    {Q : Value → Shared → Prop} (hQ : ∀ s', Ext s s' → Q (.bool true) s') : wpAny G.M A (PySem.call (.ref a) [.ref d]) Q (fun zq zq => False) s := by
  have hd : dLaw ∈ recsOf G.q := by rw [ok.q]; exact (rec_mem "law" (by kernel_rfl)).1
  have hname : dLaw.name = "law" := (rec_mem "law" (by kernel_rfl)).2
  obtain ⟨sl', h1⟩ := law_run xs hlen
  refine call_open (lvl := 35) (d := dLaw) (names := nLaw) hd law_ok (fun h hk env zq A W s sl m os va ro ef eo st fl sl' hf Q hQ => law_.2 (G.at h hk) (ok.at h hk) A W env s sl m os va ro ef eo st fl sl' hf Q hQ) (by rw [hname]; exact hm)
    ro kk tb0 rfl (sl0 := Slot.scr (intL xs) :: List.replicate 23 .unset) (fun W h' hW hk i sv hs => ?_) h1 fun s' flow xx fr => ?_
  · cases i with
    | zero =>
      cases hs
      refine ⟨fun zq => ⟨_, rfl, rfl, d, us, rfl, fun w => ?_, ?_, ints_repL hi, firm_intL _⟩, fun h => nomatch h⟩
      · obtain ⟨o', e', _⟩ := hl
        rw [hW d w] at e'; cases e'
      · obtain ⟨o', e', r⟩ := hl
        exact ⟨o', hk _ _ e', r⟩
    | succ i =>
      rw [List.getElem?_cons_succ] at hs
      exact ⟨fun h => absurd h (by simp), fun zq => List.eq_of_mem_replicate (List.mem_of_getElem? hs)⟩
  · obtain ⟨v, rfl, rv⟩ := fr
    cases (show v = .bool true from rv)
    exact hQ s' xx
end Mine
end

section
open PySem PySem.W PyProof.Rows
set_option Elab.async false
set_option tactic.hygienic false
set_option maxRecDepth 100000
set_option autoImplicit false
set_option linter.unusedVariables false
namespace Mine
theorem tbf_top {loose : List Str} {mean : ExcName → Option Value} {mg mb : Str → Option Value} {h : Heap} (T : Top q1 loose mean mg mb h) (g q : Str) (hs : ((recsOf q1).find? (fun d => d.name == g)).isSome = true) (hp : (innerPos (.stmts (recAt g).body)).isSome = true) {P : Addr} (t : TabIs mg h g P) : TBf g q P h := by
  obtain ⟨hm, hn⟩ := rec_mem g hs
  obtain ⟨a, o, pm, code, doc, h1, h2, h3, h4⟩ := T.fn _ hm
  obtain ⟨a', o', fd, c, P', k1, k2, k3, k4, k5, k6⟩ := T.tab _ hm
  obtain ⟨a2, o2, fd2, c2, oc2, vs2, t1, t2, t3, t4, t5, t6, t7⟩ := t
  rw [hn] at h1 k1
  rw [h1] at k1 t1; cases k1; cases t1
  rw [h2] at k2 t2; cases k2; cases t2
  rw [h3] at k3 t3; cases k3; cases t3
  rw [k4] at t4; cases t4
  obtain ⟨pos, hpos⟩ := Option.isSome_iff_exists.mp hp
  have hc := CodeHd.of k5 k6
  have e : P' = P := by
    obtain ⟨⟨oc, vs, e1, e2, e3, e4⟩, _⟩ := k6
    rw [e1] at t5; cases t5
    rw [e3] at t6; cases t6
    rw [e4] at t7; cases t7; rfl
  subst e
  exact ⟨mg, a, o, _, c, #[], pos, T.g, h1, h2, h3, k4, hpos, hc, k6.2, .inl rfl⟩
theorem tb_top {loose : List Str} {mean : ExcName → Option Value} {mg mb : Str → Option Value} {h : Heap} (T : Top q1 loose mean mg mb h) (x : XP1 mg h) : TB h h := by
  obtain ⟨_, P, P', n, t, t'⟩ := x
  have a := tbf_top T "_int2digits" qDig (by kernel_rfl) (by kernel_rfl) t
  have b := tbf_top T "_digits2int" qInt (by kernel_rfl) (by kernel_rfl) t'
  exact ⟨P, P', n, a, b, a, b, fun zq zq e zq => .inl e⟩
theorem TBf.isTab {name q : Str} {P : Addr} {h : Heap} (x : TBf name q P h) : isCodeTable h P := by
  obtain ⟨mg, a, o, fd, c, ps, pos, n, h1, h2, h3, h4, h5, hc, h7, _⟩ := x
  exact (hc.tab h7).isCodeTable
theorem oldK_of {H h : Heap} (k : Kept H h) (g : ∀ b, h.get? b = none → H.get? b = none) (t : TB H h) : OldK H h where
  old := fun b o e => by
    obtain ⟨P, P', n, _, _, c, d, t⟩ := t
    cases hs : tabby o with
    | false => exact .inl (k b o e hs)
    | true =>
      rcases t b o e hs with y | ⟨hb, vs, more, rfl, y⟩
      · exact .inl y
      · exact .inr (.inl ⟨by rcases hb with rfl | rfl; exact c.isTab; exact d.isTab, rfl, vs, more, rfl, y⟩)
  there := fun b o e => by
    cases q : h.get? b with
    | none => rw [g b q] at e; cases e
    | some o' => exact ⟨o', rfl⟩
set_option tactic.hygienic true in
theorem walk1 : WalkO q1 ["b3_exceptions"] XP1 (fun zq zq => True) (OpenLaw.row PySem.Challenge.rw_re0173_01).toRowW lawDef.1 lawDef.2 fun f vs => PySem.call f vs := by
  intro w s₀ s₁ mg mb G y fa o pm cd doc dV kV ho hd hcd hD hmg hg args vals as hpre hlay hrd hwl hlo
  have hx : XP1 mg s₁.heap := G.X
  refine Ground.open G ?_
  intro T B D TE TW
  wrow_args hpre hlay hrd hwl hlo
  rename_i xs hsx hlay0 hL1 hr1 hl2 w4 w3 dd us w0 hL ra w1 r0 hI hr hcond1 hcond2
  have tb := tb_top T hx
  have T' : Top q1 [("b3_exceptions" : Str)] (ExcName.means s₀.heap) mg mb s₁.heap := T
  let GG : Gl := { prog := PySem.Challenge.rw_re0173_01.row.prog, w := w, q := q1, loose := [("b3_exceptions" : Str)], mg := mg, mb := mb, h₀ := s₁.heap, start := s₁.heap, top := TopK.of T', dd := data1, b3 := hx.1 }
  have ok : Ok1 GG := ⟨rfl, rfl, rfl⟩
  have hm : GG.mg "law" = some (.ref fa) := hmg
  refine noE' (G := GG) (law_call GG ok callerA s₁ fa dd us xs ⟨rfl, by decide, by decide⟩ (fun zq zq e zq => e) s₁.heap tb hm hL hI (by lia) fun s' x => ?_)
  refine ⟨.inl ⟨.bool true, .bool true, [], rfl, fun cls => rfl, .bool true, ?_, fun zq => ⟨List.nodup_nil, fun a ha => by cases ha⟩⟩, oldK_of x.kept (fun b e => x.gone e) (x.tb tb), ?_, ?_⟩
  · kernel_rfl
  · obtain ⟨h, t, rfl, _⟩ := x; rfl
  · obtain ⟨h, t, rfl, _⟩ := x; exact AllBare.of_eq hg
theorem holds01 : PySem.Challenge.rw_re0173_01.Holds := hd1 walk1
end Mine
end

theorem PySem.Challenge.cw_re0173_01_holds : PySem.Challenge.rw_re0173_01.Holds :=
  Mine.holds01
