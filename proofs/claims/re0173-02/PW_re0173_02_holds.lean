import PyProof.Rows.All
import Wide.All
import OpenK.AllK
import Wide.FinOn
import KE.KRevSl
import PySem.Challenge.RW_re0173_02
set_option Elab.async false
set_option bootstrap.genMatcherCode false
section
open PySem PySem.W PyProof.Rows
set_option Elab.async false
set_option tactic.hygienic false
namespace Mine
section
variable (p : Program) (w : World) (n₀ : Nat) (ann : Option Value)

noncomputable def Goes (N : Nat) {α : Type} (x : Sem α) (s : Shared) (pos : Pos) (a : α) (s' : Shared) (pos' : Pos) : Prop :=
  ∀ (K : α → Sem Fin) (H : Value → Sem Fin) (gd : Bool → Bool) (lv : List Value → List Value) (c : Code) (fr : Frame) (B : List Frame),
    ∃ n, n ≤ N ∧ segGo treeTable p w n₀ ann 1 n s ⟨x.wrap K H gd lv, c, pos, fr :: B⟩ = some (s', ⟨K a, c, pos', fr :: B⟩)
end
section
variable {p : Program} {w : World} {n₀ : Nat} {ann : Option Value} {α β : Type}

theorem segGo_add {tb} {b n m : Nat} {s s' s'' : Shared} {t t' t'' : Thread} (h : segGo tb p w n₀ ann b n s t = some (s', t'))
    (k : segGo tb p w n₀ ann b m s' t' = some (s'', t'')) : segGo tb p w n₀ ann b (n + m) s t = some (s'', t'') := by
  induction n generalizing s t with
  | zero =>
    obtain ⟨rfl, rfl⟩ : s = s' ∧ t = t' := by simpa [segGo] using h
    rw [Nat.zero_add]; exact k
  | succ n ih =>
    rw [show n + 1 + m = n + m + 1 by lia]
    unfold segGo at h ⊢
    cases he : endAt b t with
    | some f => rw [he] at h; cases h
    | none =>
      rw [he] at h
      cases hk : stepOk n₀ ann t with
      | false => rw [hk] at h; cases h
      | true =>
        rw [hk] at h
        cases hs : step (denote tb) p w s t with
        | halt o s₂ => rw [hs] at h; cases h
        | go s₂ t₂ => rw [hs] at h; exact ih h

theorem Goes.pure (a : α) (s : Shared) (pos : Pos) : Goes p w n₀ ann 0 (Pure.pure a : Sem α) s pos a s pos := fun zq zq zq zq zq zq zq => ⟨0, Nat.le_refl _, rfl⟩

theorem Goes.le {N N' : Nat} {m : Sem α} {s s₁ : Shared} {p₀ p₁ : Pos} {a : α} (g : Goes p w n₀ ann N m s p₀ a s₁ p₁) (h : N ≤ N') : Goes p w n₀ ann N' m s p₀ a s₁ p₁ := fun K H gd lv c fr B => by
  obtain ⟨n, h1, h2⟩ := g K H gd lv c fr B
  exact ⟨n, Nat.le_trans h1 h, h2⟩

theorem Goes.bind {N₁ N₂ : Nat} {m : Sem α} {f : α → Sem β} {s s₁ s₂ : Shared} {p₀ p₁ p₂ : Pos} {a : α} {b : β} (h : Goes p w n₀ ann N₁ m s p₀ a s₁ p₁)
    (k : Goes p w n₀ ann N₂ (f a) s₁ p₁ b s₂ p₂) : Goes p w n₀ ann (N₁ + N₂) (m >>= f) s p₀ b s₂ p₂ := fun K H gd lv c fr B => by
  rw [Sem.bind_eq_wrap', Sem.wrap_wrap]
  obtain ⟨n, ha, hn⟩ := h (fun a => (f a).wrap K H gd lv) (fun e => (Sem.raise e).wrap K H gd lv) (fun g => gd (id g)) (fun l => lv (id l)) c fr B
  obtain ⟨m, hb, hm⟩ := k K H gd lv c fr B
  exact ⟨n + m, Nat.add_le_add ha hb, segGo_add hn hm⟩

theorem Goes.onRaise {N : Nat} {m : Sem α} {h : Value → Sem Unit} {s s₁ : Shared} {p₀ p₁ : Pos} {a : α} (g : Goes p w n₀ ann N m s p₀ a s₁ p₁) :
    Goes p w n₀ ann N (m.onRaise h) s p₀ a s₁ p₁ := fun K H gd lv c fr B => by
  rw [Sem.onRaise_eq_wrap, Sem.wrap_wrap]; exact g _ _ _ _ c fr B
theorem Goes.keep {N : Nat} {m : Sem α} {vs : List Value} {s s₁ : Shared} {p₀ p₁ : Pos} {a : α} (g : Goes p w n₀ ann N m s p₀ a s₁ p₁) :
    Goes p w n₀ ann N (m.keep vs) s p₀ a s₁ p₁ := fun K H gd lv c fr B => by
  rw [Sem.keep_eq_wrap, Sem.wrap_wrap]; exact g _ _ _ _ c fr B
theorem Goes.holding {N : Nat} {m : Sem α} {vs : List Value} {s s₁ : Shared} {p₀ p₁ : Pos} {a : α} (g : Goes p w n₀ ann N m s p₀ a s₁ p₁) :
    Goes p w n₀ ann N (PySem.holding vs m) s p₀ a s₁ p₁ := by
  unfold PySem.holding; split
  · exact g
  · exact g.keep

theorem Goes.standAt {s : Shared} {pos pos' : Pos} : Goes p w n₀ ann 1 (standAt pos') s pos () s pos' := fun zq zq zq zq zq zq B => ⟨1, Nat.le_refl _, by obtain ⟨⟩ := s; cases B <;> kernel_rfl⟩
theorem Goes.rule {s : Shared} {pos : Pos} {tag : String} : Goes p w n₀ ann 1 (rule tag) s pos () s pos := fun zq zq zq zq zq zq B => ⟨1, Nat.le_refl _, by obtain ⟨⟩ := s; cases B <;> kernel_rfl⟩
theorem Goes.fresh {s : Shared} {pos : Pos} : Goes p w n₀ ann 1 fresh s pos s.toks { s with toks := s.toks + 1 } pos := fun zq zq zq zq zq zq B => ⟨1, Nat.le_refl _, by obtain ⟨⟩ := s; cases B <;> kernel_rfl⟩
theorem Goes.mkInt {s : Shared} {pos : Pos} {i : Int} : Goes p w n₀ ann 1 (mkInt i) s pos (.int i s.toks) { s with toks := s.toks + 1 } pos := fun zq zq zq zq zq zq B => ⟨1, Nat.le_refl _, by obtain ⟨⟩ := s; cases B <;> kernel_rfl⟩
theorem Goes.mkText {s : Shared} {pos : Pos} {x : Str} : Goes p w n₀ ann 1 (mkText x) s pos (.str x s.toks) { s with toks := s.toks + 1 } pos := fun zq zq zq zq zq zq B => ⟨1, Nat.le_refl _, by obtain ⟨⟩ := s; cases B <;> kernel_rfl⟩
theorem Goes.alloc {s : Shared} {pos : Pos} {o : Obj} : Goes p w n₀ ann 1 (alloc o) s pos s.heap.objs.size { s with heap := s.heap.push o } pos := fun zq zq zq zq zq zq B => ⟨1, Nat.le_refl _, by obtain ⟨⟩ := s; cases B <;> kernel_rfl⟩
theorem Goes.loadPart {s : Shared} {pos : Pos} {a : Addr} {part : Option Value} {o : Obj} (h : s.heap.get? a = some o) : Goes p w n₀ ann 1 (loadPart a part) s pos o s pos := fun K H gd lv c fr B => ⟨1, Nat.le_refl _, by
  obtain ⟨heap, gens, drawn, toks, os⟩ := s
  dsimp only at h
  have e : segGo treeTable p w n₀ ann 1 1 ⟨heap, gens, drawn, toks, os⟩ ⟨(PySem.loadPart a part).wrap K H gd lv, c, pos, fr :: B⟩ =
    (match (match heap.get? a with
      | some o => Step.go ⟨heap, gens, drawn, toks, os⟩ ⟨K o, c, pos, fr :: B⟩
      | none => .halt (.stuck (if a < heap.objs.size then "load: the object has been freed" else "load: no object at this address")) ⟨heap, gens, drawn, toks, os⟩) with
    | .go s' t' => some (s', t')
    | .halt _ _ => none) := by cases B <;> kernel_rfl
  rw [e, h]⟩
theorem Goes.load {s : Shared} {pos : Pos} {a : Addr} {o : Obj} (h : s.heap.get? a = some o) : Goes p w n₀ ann 1 (load a) s pos o s pos := Goes.loadPart h
theorem Goes.updatePart {s : Shared} {pos : Pos} {a : Addr} {part : Option Value} {f : Obj → Obj} {o : Obj} (h : s.heap.get? a = some o) (ha : n₀ ≤ a) :
    Goes p w n₀ ann 1 (updatePart a part f) s pos () { s with heap := s.heap.update a f } pos := fun K H gd lv c fr B => ⟨1, Nat.le_refl _, by
  obtain ⟨heap, gens, drawn, toks, os⟩ := s
  dsimp only at h
  have e : segGo treeTable p w n₀ ann 1 1 ⟨heap, gens, drawn, toks, os⟩ ⟨(PySem.updatePart a part f).wrap K H gd lv, c, pos, fr :: B⟩ =
    (match (true && (Nat.ble n₀ a || a == mainNs || a == cStatics || ann == some (.ref a))) with
    | false => none
    | true => (match (if (heap.get? a).isSome then Step.go ⟨heap.update a f, gens, drawn, toks, os⟩ ⟨K (), c, pos, fr :: B⟩ else .halt (.stuck "update: no object at this address, or it has been freed") ⟨heap, gens, drawn, toks, os⟩) with
      | .go s' t' => some (s', t')
      | .halt _ _ => none)) := by cases B <;> kernel_rfl
  rw [e, h, Nat.ble_eq_true_of_le ha]; rfl⟩
theorem Goes.of_eq {N : Nat} {x y : Sem α} {s s' : Shared} {p₀ p₁ : Pos} {a : α} (e : x = y) (g : Goes p w n₀ ann N y s p₀ a s' p₁) : Goes p w n₀ ann N x s p₀ a s' p₁ := e ▸ g

theorem hash_call (k : Int) (t : Tok) (refuse : Sem Value) (K H gd lv) (c : Code) (pos : Pos) (fr : Frame) (B : List Frame) (heap : Heap) (gens : Array GenState) (drawn : Drawn) (toks : Nat) (os : OsState) :
    ∀ w : World, segGo treeTable p w n₀ ann 1 5 ⟨heap, gens, drawn, toks, os⟩ ⟨(callSpecialIfBoundUnlessNone? (.int k t) "__hash__" refuse).wrap K H gd lv, c, pos, fr :: B⟩ =
      some (⟨heap, gens, drawn, toks + 1, os⟩, ⟨K (some (.int (rawHash k) toks)), c, pos, fr :: B⟩) := by
  refine byRow2 "special-get-raises" (fun w => ?_) fun w => ?_
  · cases B <;> kernel_rfl
  · cases B <;> kernel_rfl

theorem Goes.hashCall {k : Int} {t : Tok} {refuse : Sem Value} {s : Shared} {pos : Pos} :
    Goes p w n₀ ann 5 (callSpecialIfBoundUnlessNone? (.int k t) "__hash__" refuse) s pos (some (.int (rawHash k) s.toks)) { s with toks := s.toks + 1 } pos :=
  fun K H gd lv c fr B => ⟨5, Nat.le_refl _, by obtain ⟨heap, gens, drawn, toks, os⟩ := s; exact hash_call k t refuse K H gd lv c pos fr B heap gens drawn toks os w⟩

theorem specialOf_int_hash (k : Int) (t : Tok) : specialOf (.int k t) "__hash__" = pure (some (.builtin "int.__hash__")) := slot_int_hash.lookup

theorem Goes.pyHash {k : Int} {t : Tok} {s : Shared} {pos : Pos} : Goes p w n₀ ann 5 (pyHash (.int k t)) s pos (hashInt k) { s with toks := s.toks + 1 } pos := by
  refine Goes.le ?_ (Nat.le_refl (0 + (0 + (0 + (5 + 0)))))
  have hr := rawHash_range k
  unfold PySem.pyHash
  have hv : [Value.int k t].any Value.onHeap = false := rfl
  refine Goes.bind (a := ()) (s₁ := s) (p₁ := pos) ?_ ?_
  · rw [cRoomFor, if_neg (by rw [hv]; exact Bool.false_ne_true)]; exact Goes.pure _ _ _
  refine Goes.bind (a := some (.builtin "int.__hash__")) (s₁ := s) (p₁ := pos) (by rw [specialOf_int_hash]; exact Goes.pure _ _ _) ?_
  show Goes _ _ _ _ _ (if (some (Value.builtin "int.__hash__") == some Value.none) = true then _ else _) _ _ _ _ _
  rw [if_neg (by rw [beq_builtin_none]; exact Bool.false_ne_true)]
  refine Goes.bind (a := some (.builtin "int.__hash__")) (s₁ := s) (p₁ := pos) (by rw [specialOf_int_hash]; exact Goes.pure _ _ _) ?_
  refine Goes.bind (a := some (.int (rawHash k) s.toks)) (s₁ := { s with toks := s.toks + 1 }) (p₁ := pos) Goes.hashCall ?_
  show Goes _ _ _ _ _ (if (decide (-(2 : Int) ^ 63 ≤ rawHash k) && decide (rawHash k < 2 ^ 63)) = true then _ else _) _ _ _ _ _
  rw [if_pos (by rw [decide_eq_true hr.1, decide_eq_true hr.2]; rfl)]
  exact Goes.pure _ _ _

theorem Goes.dictEntries {d : Addr} {part : Option Value} {o : Obj} {es ep} {s : Shared} {pos : Pos} (ho : s.heap.get? d = some o) (hd : o.data = .dict es ep) :
    Goes p w n₀ ann 1 (dictEntries d part) s pos es s pos := by
  refine Goes.le ?_ (Nat.le_refl (1 + 0))
  unfold PySem.dictEntries
  refine Goes.bind (Goes.loadPart ho) ?_
  rw [hd]; exact Goes.pure _ _ _
theorem Goes.dictEpoch {d : Addr} {part : Option Value} {o : Obj} {es ep} {s : Shared} {pos : Pos} (ho : s.heap.get? d = some o) (hd : o.data = .dict es ep) :
    Goes p w n₀ ann 1 (dictEpoch d part) s pos ep s pos := by
  refine Goes.le ?_ (Nat.le_refl (1 + 0))
  unfold PySem.dictEpoch
  refine Goes.bind (Goes.loadPart ho) ?_
  rw [hd]; exact Goes.pure _ _ _

theorem no_place {es : Array DictEntry} {h : Int} (hn : ∀ e ∈ es, e.hash ≠ h) : placesWithHash es.size (fun i => es[i]?.map (·.hash)) h = [] := by
  unfold placesWithHash
  rw [List.filter_eq_nil_iff]
  intro i hi
  have hi : i < es.size := List.mem_range.mp hi
  show ¬ ((es[i]?.map (·.hash)) == some h) = true
  rw [Array.getElem?_eq_getElem hi]
  simpa using hn _ (Array.getElem_mem hi)

theorem Goes.dictFind {d : Addr} {o : Obj} {es ep} {k : Int} {t : Tok} {h : Int} {s : Shared} {pos : Pos} (ho : s.heap.get? d = some o) (hd : o.data = .dict es ep) (hn : ∀ e ∈ es, e.hash ≠ h) :
    Goes p w n₀ ann 1 (dictFind d (.int k t) h) s pos none s pos := by
  refine Goes.le ?_ (Nat.le_refl (1 + 0))
  unfold PySem.dictFind
  refine Goes.holding (Goes.bind (Goes.dictEntries ho hd) ?_)
  dsimp only
  rw [no_place hn]
  exact Goes.pure _ _ _

noncomputable def dObj (es : Array DictEntry) (ep : Nat) : Obj := { cls := .type "dict", data := .dict es ep }

theorem Goes.updateKeys {d : Addr} {part : Option Value} {es ep} {f : Array DictEntry → Array DictEntry} {s : Shared} {pos : Pos} {h' : Heap} (ho : s.heap.get? d = some (dObj es ep)) (ha : n₀ ≤ d)
    (hu : s.heap.update d (Obj.mapDictKeys f) = h') (hg : h'.get? d = some (dObj (f es) (ep + 1))) (hz : (f es).size ≤ sizeLine + 1) :
    Goes p w n₀ ann 3 (updateDictKeys d f part) s pos () { s with heap := h' } pos := by
  refine Goes.le ?_ (Nat.le_refl (1 + (1 + (1 + 0))))
  unfold updateDictKeys
  refine Goes.bind (Goes.loadPart ho) ?_
  refine Goes.bind (Goes.updatePart ho ha) ?_
  rw [hu]
  unfold lookBehind
  refine Goes.bind (Goes.loadPart (s := { s with heap := h' }) hg) ?_
  have e : (dObj (f es) (ep + 1)).data.pastItsLine = none := by
    show (if (f es).size > sizeLine + 1 then some "dict:memory" else none) = none
    rw [if_neg (Nat.not_lt.mpr hz)]
  rw [e]
  exact Goes.pure _ _ _

theorem Goes.setHashed {d : Addr} {es ep} {k : Int} {t : Tok} {h : Int} {v : Value} {s : Shared} {pos : Pos} {h' : Heap} (ho : s.heap.get? d = some (dObj es ep)) (ha : n₀ ≤ d) (hn : ∀ e ∈ es, e.hash ≠ h)
    (hu : s.heap.update d (Obj.mapDictKeys (·.push ⟨h, .int k t, v⟩)) = h') (hg : h'.get? d = some (dObj (es.push ⟨h, .int k t, v⟩) (ep + 1))) (hz : es.size ≤ sizeLine) :
    Goes p w n₀ ann 5 (dictSetHashed d (.int k t) h v) s pos () { s with heap := h' } pos := by
  refine Goes.le ?_ (Nat.le_refl (1 + (1 + 3)))
  unfold dictSetHashed
  refine Goes.holding (Goes.bind (Goes.dictFind ho rfl hn) ?_)
  dsimp only
  exact Goes.bind Goes.rule (Goes.updateKeys ho ha hu hg (by rw [Array.size_push]; lia))
theorem Goes.put {d : Addr} {es ep} {k : Int} {t : Tok} {h : Int} {v : Value} {s : Shared} {pos : Pos} {h' : Heap} (ho : s.heap.get? d = some (dObj es ep)) (ha : n₀ ≤ d) (hn : ∀ e ∈ es, e.hash ≠ h)
    (hu : s.heap.update d (Obj.mapDictKeys (·.push ⟨h, .int k t, v⟩)) = h') (hg : h'.get? d = some (dObj (es.push ⟨h, .int k t, v⟩) (ep + 1))) (hz : es.size ≤ sizeLine) :
    Goes p w n₀ ann 4 (dictPut d h (.int k t) v) s pos () { s with heap := h' } pos := by
  refine Goes.le ?_ (Nat.le_refl (1 + 3))
  unfold dictPut
  refine Goes.bind (Goes.dictFind ho rfl hn) ?_
  exact Goes.updateKeys ho ha hu hg (by rw [Array.size_push]; lia)
theorem Goes.set {d : Addr} {es ep} {k : Int} {t : Tok} {v : Value} {s : Shared} {pos : Pos} {h' : Heap} (ho : s.heap.get? d = some (dObj es ep)) (ha : n₀ ≤ d) (hn : ∀ e ∈ es, e.hash ≠ hashInt k)
    (hu : s.heap.update d (Obj.mapDictKeys (·.push ⟨hashInt k, .int k t, v⟩)) = h') (hg : h'.get? d = some (dObj (es.push ⟨hashInt k, .int k t, v⟩) (ep + 1))) (hz : es.size ≤ sizeLine) :
    Goes p w n₀ ann 10 (dictSet d (.int k t) v) s pos () { s with heap := h', toks := s.toks + 1 } pos := by
  refine Goes.le ?_ (Nat.le_refl (5 + 5))
  unfold dictSet
  exact Goes.holding (Goes.bind Goes.pyHash (Goes.setHashed (s := { s with toks := s.toks + 1 }) ho ha hn hu hg hz))

theorem update_push (h : Heap) (es ep f) : (h.push (dObj es ep)).update h.objs.size (Obj.mapDictKeys f) = h.push (dObj (f es) (ep + 1)) := by
  obtain ⟨objs, l⟩ := h
  show Heap.mk ((objs.push (dObj es ep)).modify objs.size (Obj.mapDictKeys f)) l = Heap.mk (objs.push (dObj (f es) (ep + 1))) l
  congr 1
  apply Array.ext
  · simp
  · intro i h1 h2
    simp only [Array.getElem_modify, Array.getElem_push]
    simp only [Array.size_modify, Array.size_push] at h1
    by_cases hi : i < objs.size
    · rw [if_neg (by lia), dif_pos hi, dif_pos hi]
    · rw [if_pos (by lia), dif_neg hi, dif_neg hi]; rfl
theorem get_push (h : Heap) (es ep) : (h.push (dObj es ep)).get? h.objs.size = some (dObj es ep) := Heap.get?_push_size _ rfl
end
end Mine
end

section
open PySem PySem.W PyProof.Rows
set_option Elab.async false
set_option tactic.hygienic false
namespace Mine
section
variable {p : Program} {w : World} {n₀ : Nat} {ann : Option Value}

noncomputable abbrev KV := Int × Str
noncomputable def kvTree (pos : Pos) (x : KV) : Sem Value × Sem Value := (mkInt x.1, do let y ← mkText x.2; standAt pos; pure y)

noncomputable def ent (x : KV) (T u : Nat) : DictEntry := ⟨hashInt x.1, .int x.1 T, .str x.2 u⟩
noncomputable def longOf : Nat → List KV → List DictEntry
  | _, [] => []
  | T, x :: r => ent x T (T + 1) :: longOf (T + 3) r
noncomputable def shortOf : Nat → List KV → List DictEntry
  | _, [] => []
  | T, x :: r => ent x T (T + 1) :: shortOf (T + 2) r
theorem longOf_length : ∀ (T : Nat) (l : List KV), (longOf T l).length = l.length
  | _, [] => rfl
  | T, _ :: r => congrArg (· + 1) (longOf_length (T + 3) r)
theorem shortOf_length : ∀ (T : Nat) (l : List KV), (shortOf T l).length = l.length
  | _, [] => rfl
  | T, _ :: r => congrArg (· + 1) (shortOf_length (T + 2) r)
theorem longOf_hash : ∀ (T : Nat) (l : List KV), (longOf T l).map (·.hash) = l.map fun x => hashInt x.1
  | _, [] => rfl
  | T, x :: r => congrArg (hashInt x.1 :: ·) (longOf_hash (T + 3) r)
theorem shortOf_hash : ∀ (T : Nat) (l : List KV), (shortOf T l).map (·.hash) = l.map fun x => hashInt x.1
  | _, [] => rfl
  | T, x :: r => congrArg (hashInt x.1 :: ·) (shortOf_hash (T + 2) r)

noncomputable def Apart (es : List DictEntry) (l : List KV) : Prop := (es.map (·.hash) ++ l.map fun x => hashInt x.1).Nodup
theorem Apart.head {es : List DictEntry} {x : KV} {l : List KV} (h : Apart es (x :: l)) : ∀ e ∈ es.toArray, e.hash ≠ hashInt x.1 := by
  intro e he
  have he : e ∈ es := by simpa using he
  unfold Apart at h
  rw [List.nodup_append] at h
  exact h.2.2 _ (List.mem_map_of_mem he) _ (by simp)
theorem Apart.next {es : List DictEntry} {x : KV} {l : List KV} {t u} (h : Apart es (x :: l)) : Apart (es ++ [ent x t u]) l := by
  unfold Apart at h ⊢
  simpa [ent] using h

theorem Goes.longLoop (h : Heap) (hn : n₀ ≤ h.objs.size) {pos : Pos} : ∀ (l : List KV) (es : List DictEntry) (s : Shared), s.heap = h.push (dObj es.toArray es.length) → Apart es l → es.length + l.length ≤ sizeLine →
    Goes p w n₀ ann (13 * l.length) (forIn (l.map (kvTree pos)) PUnit.unit fun (x : Sem Value × Sem Value) (__s : PUnit) =>
        (match x with
        | (k, v) => do
          let kv ← k
          let vv ← PySem.holding [kv] v
          PySem.holding [kv, vv] (dictSet h.objs.size kv vv)
          Pure.pure (ForInStep.yield PUnit.unit) : Sem (ForInStep PUnit))) s pos PUnit.unit
      { s with heap := h.push (dObj (es ++ longOf s.toks l).toArray (es.length + l.length)), toks := s.toks + 3 * l.length } pos
  | [], es, s, hs, _, _ => by
    obtain ⟨heap, gens, drawn, toks, os⟩ := s
    dsimp only at hs; subst hs
    simp only [List.map_nil, List.forIn_nil, longOf, List.append_nil, List.length_nil, Nat.mul_zero, Nat.add_zero]
    exact Goes.pure _ _ _
  | x :: l, es, s, hs, ha, hz => by
    obtain ⟨heap, gens, drawn, toks, os⟩ := s
    dsimp only at hs; subst hs
    rw [List.length_cons] at hz
    rw [List.map_cons, List.forIn_cons]
    have ih := Goes.longLoop h hn l (es ++ [ent x toks (toks + 1)]) ⟨h.push (dObj (es ++ [ent x toks (toks + 1)]).toArray (es.length + 1)), gens, drawn, toks + 3, os⟩ (pos := pos)
      (by dsimp only; rw [List.length_append]; rfl) ha.next (by rw [List.length_append, List.length_singleton]; lia)
    have e : (⟨h.push (dObj (es ++ longOf toks (x :: l)).toArray (es.length + (x :: l).length)), gens, drawn, toks + 3 * (x :: l).length, os⟩ : Shared) =
        ⟨h.push (dObj ((es ++ [ent x toks (toks + 1)]) ++ longOf (toks + 3) l).toArray ((es ++ [ent x toks (toks + 1)]).length + l.length)), gens, drawn, toks + 3 + 3 * l.length, os⟩ := by
      rw [longOf, List.append_assoc, List.length_append, List.length_singleton, List.length_cons, List.singleton_append, show es.length + (l.length + 1) = es.length + 1 + l.length by lia, show toks + 3 * (l.length + 1) = toks + 3 + 3 * l.length by lia]
    dsimp only
    rw [e]
    refine Goes.le (N := (1 + (1 + (1 + 0)) + (10 + 0)) + 13 * l.length) ?_ (by rw [List.length_cons]; lia)
    refine Goes.bind (a := ForInStep.yield PUnit.unit) (s₁ := ⟨h.push (dObj (es ++ [ent x toks (toks + 1)]).toArray (es.length + 1)), gens, drawn, toks + 3, os⟩) (p₁ := pos) ?_ (by exact ih)
    refine Goes.le (N := 1 + ((1 + (1 + 0)) + (10 + 0))) ?_ (by lia)
    refine Goes.bind (a := .int x.1 toks) (s₁ := ⟨h.push (dObj es.toArray es.length), gens, drawn, toks + 1, os⟩) (p₁ := pos) Goes.mkInt ?_
    refine Goes.bind (a := .str x.2 (toks + 1)) (s₁ := ⟨h.push (dObj es.toArray es.length), gens, drawn, toks + 2, os⟩) (p₁ := pos) ?_ ?_
    · refine Goes.holding (Goes.bind (a := .str x.2 (toks + 1)) (s₁ := ⟨h.push (dObj es.toArray es.length), gens, drawn, toks + 2, os⟩) (p₁ := pos) Goes.mkText ?_)
      exact Goes.bind Goes.standAt (Goes.pure _ _ _)
    · refine Goes.bind (Goes.holding (Goes.set (s := ⟨h.push (dObj es.toArray es.length), gens, drawn, toks + 2, os⟩) (h' := h.push (dObj (es ++ [ent x toks (toks + 1)]).toArray (es.length + 1)))
        (get_push h es.toArray es.length) hn ha.head ?_ ?_ ?_)) (Goes.pure _ _ _)
      · rw [update_push]; simp [ent]
      · rw [get_push]; simp [ent]
      · rw [List.size_toArray]; lia

theorem Goes.pairs {pos : Pos} : ∀ (l : List KV) (s : Shared), Goes p w n₀ ann (3 * l.length) (evalPairs (l.map (kvTree pos))) s pos ((shortOf s.toks l).map fun e => (e.key, e.val)) { s with toks := s.toks + 2 * l.length } pos
  | [], s => by
    simp only [List.map_nil, evalPairs, shortOf, List.length_nil, Nat.mul_zero, Nat.add_zero]
    exact Goes.pure _ _ _
  | x :: l, s => by
    rw [List.map_cons, evalPairs]
    refine Goes.le (N := 1 + ((1 + (1 + 0)) + (3 * l.length + 0))) ?_ (by rw [List.length_cons]; lia)
    refine Goes.bind (a := .int x.1 s.toks) (s₁ := { s with toks := s.toks + 1 }) (p₁ := pos) Goes.mkInt ?_
    refine Goes.bind (a := .str x.2 (s.toks + 1)) (s₁ := { s with toks := s.toks + 2 }) (p₁ := pos) ?_ ?_
    · refine Goes.holding (Goes.bind (a := .str x.2 (s.toks + 1)) (s₁ := { s with toks := s.toks + 2 }) (p₁ := pos) (Goes.mkText (s := { s with toks := s.toks + 1 })) ?_)
      exact Goes.bind Goes.standAt (Goes.pure _ _ _)
    · have ih := Goes.pairs (pos := pos) l { s with toks := s.toks + 2 }
      have e : ({ s with toks := s.toks + 2 * (x :: l).length } : Shared) = { s with toks := s.toks + 2 + 2 * l.length } := by
        rw [List.length_cons, show s.toks + 2 * (l.length + 1) = s.toks + 2 + 2 * l.length by lia]
      rw [e]
      exact Goes.bind (Goes.holding ih) (Goes.pure _ _ _)

theorem Goes.shortLoop (h : Heap) (hn : n₀ ≤ h.objs.size) {pos : Pos} : ∀ (l : List KV) (T : Nat) (es : List DictEntry) (s : Shared), s.heap = h.push (dObj es.toArray es.length) → Apart es l → es.length + l.length ≤ sizeLine →
    Goes p w n₀ ann (10 * l.length) (forIn ((shortOf T l).map fun e => (e.key, e.val)) PUnit.unit fun (x : Value × Value) (__s : PUnit) =>
        (match x with
        | (k, v) => do
          dictSet h.objs.size k v
          Pure.pure (ForInStep.yield PUnit.unit) : Sem (ForInStep PUnit))) s pos PUnit.unit
      { s with heap := h.push (dObj (es ++ shortOf T l).toArray (es.length + l.length)), toks := s.toks + l.length } pos
  | [], T, es, s, hs, _, _ => by
    obtain ⟨heap, gens, drawn, toks, os⟩ := s
    dsimp only at hs; subst hs
    simp only [shortOf, List.map_nil, List.forIn_nil, List.append_nil, List.length_nil, Nat.add_zero]
    exact Goes.pure _ _ _
  | x :: l, T, es, s, hs, ha, hz => by
    obtain ⟨heap, gens, drawn, toks, os⟩ := s
    dsimp only at hs; subst hs
    rw [List.length_cons] at hz
    rw [shortOf, List.map_cons, List.forIn_cons]
    have ih := Goes.shortLoop h hn l (T + 2) (es ++ [ent x T (T + 1)]) ⟨h.push (dObj (es ++ [ent x T (T + 1)]).toArray (es.length + 1)), gens, drawn, toks + 1, os⟩ (pos := pos)
      (by dsimp only; rw [List.length_append]; rfl) ha.next (by rw [List.length_append, List.length_singleton]; lia)
    have e : (⟨h.push (dObj (es ++ ent x T (T + 1) :: shortOf (T + 2) l).toArray (es.length + (x :: l).length)), gens, drawn, toks + (x :: l).length, os⟩ : Shared) =
        ⟨h.push (dObj ((es ++ [ent x T (T + 1)]) ++ shortOf (T + 2) l).toArray ((es ++ [ent x T (T + 1)]).length + l.length)), gens, drawn, toks + 1 + l.length, os⟩ := by
      rw [List.append_assoc, List.length_append, List.length_singleton, List.length_cons, List.singleton_append, show es.length + (l.length + 1) = es.length + 1 + l.length by lia, show toks + (l.length + 1) = toks + 1 + l.length by lia]
    dsimp only
    rw [e]
    refine Goes.le (N := (10 + 0) + 10 * l.length) ?_ (by rw [List.length_cons]; lia)
    refine Goes.bind (a := ForInStep.yield PUnit.unit) (s₁ := ⟨h.push (dObj (es ++ [ent x T (T + 1)]).toArray (es.length + 1)), gens, drawn, toks + 1, os⟩) (p₁ := pos) ?_ (by exact ih)
    refine Goes.bind (Goes.set (s := ⟨h.push (dObj es.toArray es.length), gens, drawn, toks, os⟩) (h' := h.push (dObj (es ++ [ent x T (T + 1)]).toArray (es.length + 1)))
        (get_push h es.toArray es.length) hn ha.head ?_ ?_ ?_) (Goes.pure _ _ _)
    · rw [update_push]; simp [ent]
    · rw [get_push]; simp [ent]
    · rw [List.size_toArray]; lia

noncomputable def runOf (T : Nat) (l : List KV) : List DictEntry := if l.length ≤ 15 then shortOf T l else longOf T l
theorem runOf_hash (T : Nat) (l : List KV) : (runOf T l).map (·.hash) = l.map fun x => hashInt x.1 := by
  unfold runOf; split
  · exact shortOf_hash T l
  · exact longOf_hash T l
theorem runOf_length (T : Nat) (l : List KV) : (runOf T l).length = l.length := by
  unfold runOf; split
  · exact shortOf_length T l
  · exact longOf_length T l

theorem Goes.subDict {s : Shared} {pos : Pos} (l : List KV) (hn : n₀ ≤ s.heap.objs.size) (ha : (l.map fun x => hashInt x.1).Nodup) (hz : l.length ≤ sizeLine) :
    Goes p w n₀ ann (13 * l.length + 2) (subDict (l.map (kvTree pos))) s pos s.heap.objs.size { s with heap := s.heap.push (dObj (runOf s.toks l).toArray l.length), toks := s.toks + 3 * l.length } pos := by
  obtain ⟨heap, gens, drawn, toks, os⟩ := s
  unfold PySem.subDict
  refine Goes.le (N := 1 + (13 * l.length + 1)) ?_ (by lia)
  refine Goes.bind (a := heap.objs.size) (s₁ := ⟨heap.push (dObj #[] 0), gens, drawn, toks, os⟩) (p₁ := pos) Goes.alloc ?_
  rw [List.length_map]
  have ha' : Apart [] l := by unfold Apart; simpa using ha
  by_cases hl : l.length ≤ 15
  · rw [if_pos hl]
    have e : runOf toks l = shortOf toks l := if_pos hl
    dsimp only
    rw [e]
    refine Goes.le (N := (3 * l.length + (10 * l.length + 0)) + 0) ?_ (by lia)
    refine Goes.bind (a := ()) (s₁ := ⟨heap.push (dObj (shortOf toks l).toArray l.length), gens, drawn, toks + 3 * l.length, os⟩) (p₁ := pos) (Goes.holding ?_) (Goes.pure _ _ _)
    refine Goes.bind (Goes.pairs l ⟨heap.push (dObj #[] 0), gens, drawn, toks, os⟩) (Goes.holding ?_)
    have x := Goes.shortLoop (p := p) (w := w) (ann := ann) (pos := pos) heap hn l toks [] ⟨heap.push (dObj #[] 0), gens, drawn, toks + 2 * l.length, os⟩ rfl ha' (by simpa using hz)
    simp only [List.nil_append, List.length_nil, Nat.zero_add] at x
    rw [show toks + 3 * l.length = toks + 2 * l.length + l.length by lia]
    exact Goes.bind x (Goes.pure _ _ _)
  · rw [if_neg hl]
    have e : runOf toks l = longOf toks l := if_neg hl
    dsimp only
    rw [e]
    refine Goes.le (N := (1 + (13 * l.length + 0)) + 0) ?_ (by lia)
    refine Goes.bind (a := ()) (s₁ := ⟨heap.push (dObj (longOf toks l).toArray l.length), gens, drawn, toks + 3 * l.length, os⟩) (p₁ := pos) (Goes.holding ?_) (Goes.pure _ _ _)
    refine Goes.bind Goes.rule ?_
    have x := Goes.longLoop (p := p) (w := w) (ann := ann) (pos := pos) heap hn l [] ⟨heap.push (dObj #[] 0), gens, drawn, toks, os⟩ rfl ha' (by simpa using hz)
    simp only [List.nil_append, List.length_nil, Nat.zero_add] at x
    exact Goes.bind x (Goes.pure _ _ _)
end
end Mine
end

section
open PySem PySem.W PyProof.Rows
set_option Elab.async false
set_option tactic.hygienic false
namespace Mine
section
variable {p : Program} {w : World} {n₀ : Nat} {ann : Option Value}

noncomputable def hm (base : Heap) (es : List DictEntry) (mids : List Obj) : Heap := ⟨(base.objs.push (dObj es.toArray es.length)) ++ mids.toArray, base.life⟩

theorem hm_push (base : Heap) (es : List DictEntry) (mids : List Obj) (o : Obj) : (hm base es mids).push o = hm base es (mids ++ [o]) := by
  unfold hm Heap.push
  simp
theorem hm_size (base : Heap) (es : List DictEntry) (mids : List Obj) : (hm base es mids).objs.size = base.objs.size + 1 + mids.length := by
  simp [hm]; lia
theorem hm_main (base : Heap) (es : List DictEntry) (mids : List Obj) : (hm base es mids).get? base.objs.size = some (dObj es.toArray es.length) := by
  unfold hm Heap.get?
  simp only
  rw [Array.getElem?_append_left (by simp), Array.getElem?_push_size]
  rfl
theorem hm_last (base : Heap) (es fs : List DictEntry) (mids : List Obj) (n : Nat) : (hm base es (mids ++ [dObj fs.toArray n])).get? (base.objs.size + 1 + mids.length) = some (dObj fs.toArray n) := by
  rw [← hm_push, ← hm_size base es mids]
  exact get_push _ _ _
theorem hm_update (base : Heap) (es : List DictEntry) (mids : List Obj) (e : DictEntry) : (hm base es mids).update base.objs.size (Obj.mapDictKeys (·.push e)) = hm base (es ++ [e]) mids := by
  unfold hm Heap.update
  simp only
  congr 1
  apply Array.ext
  · simp
  · intro i h1 h2
    simp only [Array.getElem_modify, Array.getElem_append, Array.getElem_push]
    simp only [Array.size_modify, Array.size_append, Array.size_push] at h1
    by_cases hi : i < base.objs.size
    · rw [if_neg (by lia), dif_pos (by simp; lia), dif_pos hi, dif_pos (by simp; lia), dif_pos hi]
    · by_cases h3 : i = base.objs.size
      · rw [if_pos h3.symm, dif_pos (by simp; lia), dif_neg hi, dif_pos (by simp; lia), dif_neg hi]
        simp [dObj, Obj.mapDictKeys]
      · rw [if_neg (by lia), dif_neg (by simp; lia), dif_neg (by simp; lia)]
        simp

theorem Goes.mergeLoop (base : Heap) (hn : n₀ ≤ base.objs.size) (es fs : List DictEntry) (mids : List Obj) {pos : Pos} (hk : ∀ e ∈ fs, ∃ k t, e.key = .int k t) (ha : ((es ++ fs).map (·.hash)).Nodup) (hz : es.length + fs.length ≤ sizeLine) :
    ∀ (k i : Nat) (s : Shared), i + k = fs.length → s.heap = hm base (es ++ fs.take i) (mids ++ [dObj fs.toArray fs.length]) →
    Goes p w n₀ ann (6 * k) (forIn (List.range' i k) PUnit.unit fun i (__s : PUnit) => (do
        let __do_lift ← PySem.dictEntries (base.objs.size + 1 + mids.length)
        match __do_lift[i]? with
        | some e => do
          PySem.holding [e.key, e.val] (dictPut base.objs.size e.hash e.key e.val)
          let __do_lift ← PySem.dictEpoch (base.objs.size + 1 + mids.length)
          if (__do_lift != fs.length) = true then do
              unsupported "dict.changed-during-merge"
              Pure.pure (ForInStep.yield PUnit.unit)
            else Pure.pure (ForInStep.yield PUnit.unit)
        | _ => do
          unsupported "dict.changed-during-merge"
          Pure.pure (ForInStep.yield PUnit.unit) : Sem (ForInStep PUnit))) s pos PUnit.unit { s with heap := hm base (es ++ fs) (mids ++ [dObj fs.toArray fs.length]) } pos
  | 0, i, s, hi, hs => by
    obtain ⟨heap, gens, drawn, toks, os⟩ := s
    dsimp only at hs; subst hs
    rw [List.range'_zero, List.forIn_nil, List.take_of_length_le (by lia)]
    exact Goes.pure _ _ _
  | k + 1, i, s, hi, hs => by
    obtain ⟨heap, gens, drawn, toks, os⟩ := s
    dsimp only at hs; subst hs
    rw [List.range'_succ, List.forIn_cons]
    have hlt : i < fs.length := by lia
    obtain ⟨key, t, hkey⟩ := hk fs[i] (List.getElem_mem hlt)
    have et : fs.take (i + 1) = fs.take i ++ [fs[i]] := by rw [List.take_succ_eq_append_getElem hlt]
    have ih := Goes.mergeLoop base hn es fs mids (pos := pos) hk ha hz k (i + 1) ⟨hm base (es ++ fs.take (i + 1)) (mids ++ [dObj fs.toArray fs.length]), gens, drawn, toks, os⟩ (by lia) rfl
    refine Goes.le (N := (1 + (4 + (1 + 0))) + 6 * k) ?_ (by lia)
    refine Goes.bind (a := ForInStep.yield PUnit.unit) (s₁ := ⟨hm base (es ++ fs.take (i + 1)) (mids ++ [dObj fs.toArray fs.length]), gens, drawn, toks, os⟩) (p₁ := pos) ?_ (by exact ih)
    refine Goes.bind (Goes.dictEntries (hm_last base _ fs mids fs.length) rfl) ?_
    have e1 : fs.toArray[i]? = some fs[i] := by simp [hlt]
    rw [e1]
    have hq : ∀ e ∈ (es ++ fs.take i).toArray, e.hash ≠ fs[i].hash := by
      intro e he
      have he : e ∈ es ++ fs.take i := by simpa using he
      have ha' : ((es ++ fs.take i).map (·.hash) ++ (fs.drop i).map (·.hash)).Nodup := by
        rw [← List.map_append, List.append_assoc, List.take_append_drop]; exact ha
      rw [List.nodup_append] at ha'
      exact ha'.2.2 _ (List.mem_map_of_mem he) _ (List.mem_map_of_mem (by rw [List.drop_eq_getElem_cons hlt]; exact List.mem_cons_self))
    have eh : (⟨fs[i].hash, .int key t, fs[i].val⟩ : DictEntry) = fs[i] := by rw [← hkey]
    dsimp only
    refine Goes.bind (Goes.holding (by
      rw [hkey]
      refine Goes.put (s := ⟨hm base (es ++ fs.take i) (mids ++ [dObj fs.toArray fs.length]), gens, drawn, toks, os⟩) (h' := hm base (es ++ fs.take (i + 1)) (mids ++ [dObj fs.toArray fs.length])) (hm_main _ _ _) hn hq ?_ ?_ ?_
      · rw [eh, hm_update, et, List.append_assoc]
      · rw [hm_main, et, eh, ← List.append_assoc]
        simp only [List.length_append, List.length_take, List.length_singleton, List.push_toArray]
      · simp; lia)) ?_
    refine Goes.bind (Goes.dictEpoch (hm_last base _ fs mids fs.length) rfl) ?_
    rw [if_neg (by simp)]
    exact Goes.pure _ _ _

theorem Goes.merge (base : Heap) (hn : n₀ ≤ base.objs.size) (hs1 : 2 ≤ base.objs.size) (es fs : List DictEntry) (mids : List Obj) {pos : Pos} (h0 : es ≠ []) (hk : ∀ e ∈ fs, ∃ k t, e.key = .int k t) (ha : ((es ++ fs).map (·.hash)).Nodup) (hz : es.length + fs.length ≤ sizeLine)
    (s : Shared) (hs : s.heap = hm base es (mids ++ [dObj fs.toArray fs.length])) :
    Goes p w n₀ ann (6 * fs.length + 5) (mergeMapping base.objs.size (.ref (base.objs.size + 1 + mids.length)) false) s pos () { s with heap := hm base (es ++ fs) (mids ++ [dObj fs.toArray fs.length]) } pos := by
  obtain ⟨heap, gens, drawn, toks, os⟩ := s
  dsimp only at hs; subst hs
  unfold mergeMapping
  refine Goes.le (N := (1 + 0) + ((1 + 0) + (0 + (1 + (1 + (1 + (6 * fs.length + 0))))))) ?_ (by lia)
  have ht : Goes p w n₀ ann 1 (typeOf (.ref (base.objs.size + 1 + mids.length))) ⟨hm base es (mids ++ [dObj fs.toArray fs.length]), gens, drawn, toks, os⟩ pos (.type "dict") ⟨hm base es (mids ++ [dObj fs.toArray fs.length]), gens, drawn, toks, os⟩ pos :=
    Goes.le (N := 1 + 0) (Goes.bind (Goes.loadPart (hm_last base es fs mids fs.length)) (Goes.pure _ _ _)) (Nat.le_refl _)
  refine Goes.bind (a := true) (s₁ := ⟨hm base es (mids ++ [dObj fs.toArray fs.length]), gens, drawn, toks, os⟩) (p₁ := pos) ?_ ?_
  · unfold isInstance
    refine Goes.bind ht ?_
    rw [isSubtype_dict_dict]; exact Goes.pure _ _ _
  dsimp only
  rw [if_pos rfl]
  refine Goes.bind (a := some (.builtin "dict.__iter__")) (s₁ := ⟨hm base es (mids ++ [dObj fs.toArray fs.length]), gens, drawn, toks, os⟩) (p₁ := pos) ?_ ?_
  · unfold specialOf
    refine Goes.bind ht ?_
    rw [F.slot_dict_iter.lookup]; exact Goes.pure _ _ _
  refine Goes.bind (a := true) (s₁ := ⟨hm base es (mids ++ [dObj fs.toArray fs.length]), gens, drawn, toks, os⟩) (p₁ := pos) ?_ ?_
  · rw [beq_self_eq_true]; exact Goes.pure _ _ _
  dsimp only
  rw [if_neg (fun h => by have h : base.objs.size + 1 + mids.length = (1 : Nat) := eq_of_beq h; lia)]
  refine Goes.bind (Goes.dictEntries (hm_main base es _) rfl) ?_
  rw [if_neg (by simp [h0])]
  refine Goes.bind (Goes.dictEntries (hm_last base es fs mids fs.length) rfl) ?_
  refine Goes.bind (Goes.dictEpoch (hm_last base es fs mids fs.length) rfl) ?_
  have x := Goes.mergeLoop (p := p) (w := w) (ann := ann) base hn es fs mids (pos := pos) hk ha hz fs.length 0 ⟨hm base es (mids ++ [dObj fs.toArray fs.length]), gens, drawn, toks, os⟩ (by lia) (by simp)
  rw [List.size_toArray, List.range_eq_range']
  exact Goes.bind x (Goes.pure _ _ _)
end
end Mine
end

section
open PySem PySem.W PyProof.Rows
set_option Elab.async false
set_option tactic.hygienic false
namespace Mine
section
variable {p : Program} {w : World} {n₀ : Nat} {ann : Option Value}

noncomputable def flushOf (run : List (Sem Value × Sem Value)) (main : Option Addr) : Sem (Option Addr) :=
  if run.isEmpty = true then pure main
  else match main with
    | none => do
      let d ← subDict run
      pure (some d)
    | some d => do
      let sub ← holding [Value.ref d] (subDict run)
      (holding [Value.ref d, Value.ref sub] (mergeMapping d (Value.ref sub) false)).onRaise fun x => do
          let _ ← holding [Value.ref d, x] (runValue (Code.builtin "proto.let_go" { }))
          pure ()
      pure (some d)

noncomputable abbrev Turn := (Option (Sem Value) × Sem Value) → (Option Addr × List (Sem Value × Sem Value)) → Sem (ForInStep (Option Addr × List (Sem Value × Sem Value)))

noncomputable def itemsOf (pos : Pos) (l : List KV) : List (Option (Sem Value) × Sem Value) := l.map fun x => (some (kvTree pos x).1, (kvTree pos x).2)

noncomputable def Turns (f : Turn) : Prop := ∀ (k v : Sem Value) (main : Option Addr) (run : List (Sem Value × Sem Value)),
  f (some k, v) (main, run) = if ((run ++ [(k, v)]).length == 17) = true then (do let main ← flushOf (run ++ [(k, v)]) main; pure (ForInStep.yield (main, []))) else pure (ForInStep.yield (main, run ++ [(k, v)]))

theorem dictDisplay_eq (items : List (Option (Sem Value) × Sem Value)) : ∃ f : Turn, Turns f ∧ dictDisplay items = (do
    let s ← forIn items ((none : Option Addr), ([] : List (Sem Value × Sem Value))) f
    let r ← flushOf s.2 s.1
    match r with
    | some d => pure (Value.ref d)
    | none => newDict) := by
  unfold dictDisplay
  refine ⟨_, ?_, rfl⟩
  intro k v main run
  rfl

theorem gather {f : Turn} (hf : Turns f) (pos : Pos) (main : Option Addr) : ∀ (l : List KV) (run : List (Sem Value × Sem Value)), run.length + l.length < 17 →
    forIn (itemsOf pos l) (main, run) f = pure (main, run ++ l.map (kvTree pos))
  | [], run, _ => by simp [itemsOf]
  | x :: l, run, h => by
    rw [List.length_cons] at h
    unfold itemsOf
    rw [List.map_cons, List.forIn_cons, hf, if_neg (by simp; lia), pure_bind]
    have := gather hf pos main l (run ++ [((kvTree pos x).1, (kvTree pos x).2)]) (by simp; lia)
    unfold itemsOf at this
    dsimp only
    rw [this]; simp

theorem chunk {f : Turn} (hf : Turns f) (pos : Pos) (main : Option Addr) (rest : List KV) : ∀ (l : List KV) (run : List (Sem Value × Sem Value)), run.length + l.length = 17 → l ≠ [] →
    forIn (itemsOf pos (l ++ rest)) (main, run) f = (do let m ← flushOf (run ++ l.map (kvTree pos)) main; forIn (itemsOf pos rest) (m, []) f)
  | [], _, _, h0 => absurd rfl h0
  | [x], run, h, _ => by
    unfold itemsOf
    rw [List.singleton_append, List.map_cons, List.forIn_cons, hf, if_pos (by simp at h ⊢; lia)]
    simp
  | x :: y :: l, run, h, _ => by
    unfold itemsOf
    rw [List.length_cons, List.length_cons] at h
    rw [List.cons_append, List.map_cons, List.forIn_cons, hf, if_neg (by simp; lia), pure_bind]
    have := chunk hf pos main rest (y :: l) (run ++ [((kvTree pos x).1, (kvTree pos x).2)]) (by simp; lia) (by simp)
    unfold itemsOf at this
    dsimp only
    rw [this]; simp

noncomputable def dispE : Nat → List (List KV) → List DictEntry
  | _, [] => []
  | T, c :: r => runOf T c ++ dispE (T + 3 * c.length) r
noncomputable def dispM : Nat → List (List KV) → List Obj
  | _, [] => []
  | T, c :: r => dObj (runOf T c).toArray c.length :: dispM (T + 3 * c.length) r
theorem longOf_key : ∀ (T : Nat) (l : List KV), ∀ e ∈ longOf T l, ∃ k t, e.key = .int k t
  | _, [], _, h => nomatch h
  | T, x :: r, e, h => by
    rcases List.mem_cons.mp h with rfl | h
    · exact ⟨_, _, rfl⟩
    · exact longOf_key _ r e h
theorem shortOf_key : ∀ (T : Nat) (l : List KV), ∀ e ∈ shortOf T l, ∃ k t, e.key = .int k t
  | _, [], _, h => nomatch h
  | T, x :: r, e, h => by
    rcases List.mem_cons.mp h with rfl | h
    · exact ⟨_, _, rfl⟩
    · exact shortOf_key _ r e h
theorem runOf_key (T : Nat) (l : List KV) : ∀ e ∈ runOf T l, ∃ k t, e.key = .int k t := by
  unfold runOf; split
  · exact shortOf_key T l
  · exact longOf_key T l

theorem Goes.flushSome (base : Heap) (hn : n₀ ≤ base.objs.size) (hs1 : 2 ≤ base.objs.size) (es : List DictEntry) (mids : List Obj) {pos : Pos} (l : List KV) (h0 : es ≠ []) (hl : l ≠ []) (s : Shared) (hs : s.heap = hm base es mids)
    (ha : (es.map (·.hash) ++ l.map fun x => hashInt x.1).Nodup) (hz : es.length + l.length ≤ sizeLine) :
    Goes p w n₀ ann (19 * l.length + 7) (flushOf (l.map (kvTree pos)) (some base.objs.size)) s pos (some base.objs.size)
      { s with heap := hm base (es ++ runOf s.toks l) (mids ++ [dObj (runOf s.toks l).toArray l.length]), toks := s.toks + 3 * l.length } pos := by
  obtain ⟨heap, gens, drawn, toks, os⟩ := s
  dsimp only at hs; subst hs
  unfold flushOf
  rw [if_neg (by simp [hl])]
  dsimp only
  have ha2 := (List.nodup_append.mp ha).2.1
  refine Goes.le (N := (13 * l.length + 2) + ((6 * l.length + 5) + 0)) ?_ (by lia)
  refine Goes.bind (Goes.holding (Goes.subDict l (by show n₀ ≤ (hm base es mids).objs.size; rw [hm_size]; lia) ha2 (by lia))) ?_
  have e1 : (⟨(hm base es mids).push (dObj (runOf toks l).toArray l.length), gens, drawn, toks + 3 * l.length, os⟩ : Shared) =
      ⟨hm base es (mids ++ [dObj (runOf toks l).toArray (runOf toks l).length]), gens, drawn, toks + 3 * l.length, os⟩ := by rw [hm_push, runOf_length]
  dsimp only
  rw [e1, hm_size]
  have x := Goes.merge (p := p) (w := w) (ann := ann) base hn hs1 es (runOf toks l) mids (pos := pos) h0 (runOf_key toks l) (by rw [List.map_append, runOf_hash]; exact ha) (by rw [runOf_length]; exact hz)
    ⟨hm base es (mids ++ [dObj (runOf toks l).toArray (runOf toks l).length]), gens, drawn, toks + 3 * l.length, os⟩ rfl
  rw [runOf_length] at x ⊢
  exact Goes.bind (Goes.onRaise (Goes.holding x)) (Goes.pure _ _ _)

theorem Goes.chunks (base : Heap) (hn : n₀ ≤ base.objs.size) (hs1 : 2 ≤ base.objs.size) {pos : Pos} {f : Turn} (hf : Turns f) (last : List KV) (hlast : last.length < 17) (hl0 : last ≠ []) :
    ∀ (cs : List (List KV)) (es : List DictEntry) (mids : List Obj) (s : Shared), (∀ c ∈ cs, c.length = 17) → es ≠ [] → s.heap = hm base es mids →
    (es.map (·.hash) ++ (cs.flatten ++ last).map fun x => hashInt x.1).Nodup → es.length + (cs.flatten ++ last).length ≤ sizeLine →
    Goes p w n₀ ann (26 * (cs.flatten ++ last).length) (do
        let s ← forIn (itemsOf pos (cs.flatten ++ last)) (some base.objs.size, ([] : List (Sem Value × Sem Value))) f
        let r ← flushOf s.2 s.1
        match r with
        | some d => Pure.pure (Value.ref d)
        | none => newDict) s pos (.ref base.objs.size)
      { s with heap := hm base (es ++ dispE s.toks (cs ++ [last])) (mids ++ dispM s.toks (cs ++ [last])), toks := s.toks + 3 * (cs.flatten ++ last).length } pos
  | [], es, mids, s, hc, h0, hs, ha, hz => by
    rw [List.flatten_nil, List.nil_append] at ha hz ⊢
    rw [gather hf pos _ last [] (by simpa using hlast), pure_bind, List.nil_append, List.nil_append, dispE, dispM, dispE, dispM, List.append_nil]
    refine Goes.le (N := (19 * last.length + 7) + 0) ?_ (by have := List.length_pos_iff.mpr hl0; lia)
    refine Goes.bind (Goes.flushSome base hn hs1 es mids last h0 hl0 s hs ha hz) ?_
    exact Goes.pure _ _ _
  | c :: cs, es, mids, s, hc, h0, hs, ha, hz => by
    obtain ⟨heap, gens, drawn, toks, os⟩ := s
    dsimp only at hs; subst hs
    have hcl : c.length = 17 := hc c List.mem_cons_self
    have hcne : c ≠ [] := by intro e; rw [e] at hcl; cases hcl
    rw [List.flatten_cons, List.append_assoc] at ha hz ⊢
    rw [chunk hf pos _ (cs.flatten ++ last) c [] (by simpa using hcl) hcne, List.nil_append]
    rw [bind_assoc]
    rw [List.map_append, ← List.append_assoc] at ha
    rw [List.length_append] at hz
    have ih := Goes.chunks base hn hs1 (pos := pos) hf last hlast hl0 cs (es ++ runOf toks c) (mids ++ [dObj (runOf toks c).toArray c.length])
      ⟨hm base (es ++ runOf toks c) (mids ++ [dObj (runOf toks c).toArray c.length]), gens, drawn, toks + 3 * c.length, os⟩ (fun c' h => hc c' (List.mem_cons_of_mem _ h)) (by simp [h0]) rfl
      (by rw [List.map_append, runOf_hash]; exact ha) (by rw [List.length_append, runOf_length]; lia)
    refine Goes.le (N := (19 * c.length + 7) + 26 * (cs.flatten ++ last).length) ?_ (by rw [List.length_append (as := c)]; lia)
    refine Goes.bind (Goes.flushSome base hn hs1 es mids c h0 hcne ⟨hm base es mids, gens, drawn, toks, os⟩ rfl (List.nodup_append.mp ha).1 (by lia)) ?_
    have e : (⟨hm base (es ++ dispE toks (c :: cs ++ [last])) (mids ++ dispM toks (c :: cs ++ [last])), gens, drawn, toks + 3 * (c ++ (cs.flatten ++ last)).length, os⟩ : Shared) =
        ⟨hm base (es ++ runOf toks c ++ dispE (toks + 3 * c.length) (cs ++ [last])) (mids ++ [dObj (runOf toks c).toArray c.length] ++ dispM (toks + 3 * c.length) (cs ++ [last])), gens, drawn, toks + 3 * c.length + 3 * (cs.flatten ++ last).length, os⟩ := by
      rw [List.cons_append, dispE, dispM, List.append_assoc es, List.append_assoc mids, List.singleton_append, List.length_append (as := c), Nat.mul_add, Nat.add_assoc]
    dsimp only
    rw [e]
    exact ih

theorem Goes.display (s : Shared) (hn : n₀ ≤ s.heap.objs.size) (hs1 : 2 ≤ s.heap.objs.size) {pos : Pos} (c : List KV) (cs : List (List KV)) (last : List KV) (hc : ∀ d ∈ c :: cs, d.length = 17) (hlast : last.length < 17) (hl0 : last ≠ [])
    (ha : (((c :: cs).flatten ++ last).map fun x => hashInt x.1).Nodup) (hz : ((c :: cs).flatten ++ last).length ≤ sizeLine) :
    Goes p w n₀ ann (26 * ((c :: cs).flatten ++ last).length) (dictDisplay (itemsOf pos ((c :: cs).flatten ++ last))) s pos (.ref s.heap.objs.size)
      { s with heap := hm s.heap (runOf s.toks c ++ dispE (s.toks + 3 * c.length) (cs ++ [last])) (dispM (s.toks + 3 * c.length) (cs ++ [last])), toks := s.toks + 3 * ((c :: cs).flatten ++ last).length } pos := by
  obtain ⟨heap, gens, drawn, toks, os⟩ := s
  obtain ⟨f, hf, e⟩ := dictDisplay_eq (itemsOf pos ((c :: cs).flatten ++ last))
  rw [e]
  have hcl : c.length = 17 := hc c List.mem_cons_self
  have hcne : c ≠ [] := by intro e; rw [e] at hcl; cases hcl
  rw [List.flatten_cons, List.append_assoc] at ha hz ⊢
  rw [chunk hf pos _ (cs.flatten ++ last) c [] (by simpa using hcl) hcne, List.nil_append, bind_assoc]
  rw [List.map_append] at ha
  rw [List.length_append] at hz
  refine Goes.le (N := (13 * c.length + 2 + 0) + 26 * (cs.flatten ++ last).length) ?_ (by rw [List.length_append (as := c)]; lia)
  refine Goes.bind (a := some heap.objs.size) (s₁ := ⟨hm heap (runOf toks c) [], gens, drawn, toks + 3 * c.length, os⟩) (p₁ := pos) ?_ ?_
  · unfold flushOf
    rw [if_neg (by simp [hcne])]
    dsimp only
    have x := Goes.subDict (p := p) (w := w) (ann := ann) (pos := pos) (s := ⟨heap, gens, drawn, toks, os⟩) c hn (List.nodup_append.mp ha).1 (by lia)
    have e : (⟨hm heap (runOf toks c) [], gens, drawn, toks + 3 * c.length, os⟩ : Shared) = ⟨heap.push (dObj (runOf toks c).toArray c.length), gens, drawn, toks + 3 * c.length, os⟩ := by
      unfold hm Heap.push; rw [runOf_length]; simp
    rw [e]
    exact Goes.bind x (Goes.pure _ _ _)
  · have x := Goes.chunks (p := p) (w := w) (ann := ann) heap hn hs1 (pos := pos) hf last hlast hl0 cs (runOf toks c) [] ⟨hm heap (runOf toks c) [], gens, drawn, toks + 3 * c.length, os⟩ (fun d h => hc d (List.mem_cons_of_mem _ h))
      (by intro e; have := congrArg List.length e; rw [runOf_length, hcl] at this; cases this) rfl (by rw [runOf_hash]; exact ha) (by rw [runOf_length]; lia)
    have e : (⟨hm heap (runOf toks c ++ dispE (toks + 3 * c.length) (cs ++ [last])) (dispM (toks + 3 * c.length) (cs ++ [last])), gens, drawn, toks + 3 * (c ++ (cs.flatten ++ last)).length, os⟩ : Shared) =
        ⟨hm heap (runOf toks c ++ dispE (toks + 3 * c.length) (cs ++ [last])) ([] ++ dispM (toks + 3 * c.length) (cs ++ [last])), gens, drawn, toks + 3 * c.length + 3 * (cs.flatten ++ last).length, os⟩ := by
      rw [List.nil_append, List.length_append (as := c), Nat.mul_add, Nat.add_assoc]
    dsimp only
    rw [e]
    exact x
end
end Mine
end

section
open PySem PySem.W PyProof.Rows
set_option Elab.async false
set_option maxRecDepth 100000
set_option maxHeartbeats 0
namespace Mine
noncomputable abbrev P1 : Program := PySem.Challenge.pw_re0173_02
noncomputable def env1 : Env := { scope := P1.main.scope, locals := mainNs, globals := mainNs, cells := [], code := .ref 13, frame := some 14 }
noncomputable def body1 : List Stmt := behindTheImports P1
noncomputable def c1 : Code := .body body1 env1
noncomputable def q0 : Pos := ⟨0, 0, 0, 0⟩
noncomputable abbrev B0 : List Frame := [topFrame q0]
noncomputable def S0 (w : World) (os : OsState) : Shared := ⟨boot_heap w.params, Array.mk [], boot_drawn, boot_toks, os⟩
noncomputable def pre1 (w : World) (os : OsState) := topGo treeTable P1 w 11 (some (.ref 6)) 12 (S0 w os) (topStub P1)
noncomputable def Sa (w : World) (os : OsState) : Shared := ((pre1 w os).map (·.1)).getD (S0 w os)
theorem t2 (w : World) (os : OsState) : pre1 w os = some (Sa w os, ⟨denote treeTable c1, c1, q0, B0⟩) := by kernel_rfl
noncomputable def blk1 (w : World) (os : OsState) := segRun treeTable P1 w 11 (some (.ref 6)) 1 1 (Sa w os) (blockOf body1 env1 c1 q0 B0)
theorem t2b (w : World) (os : OsState) : blk1 w os = some (.next, Sa w os, c1, q0) := by kernel_rfl
noncomputable def l1 : List Stmt := body1.take 9
noncomputable def seg1 (w : World) (os : OsState) := segRun treeTable P1 w 11 (some (.ref 6)) 1 500 (Sa w os) (piecesOf l1 env1 c1 q0 B0)
noncomputable def Sb (w : World) (os : OsState) : Shared := ((seg1 w os).map (·.2.1)).getD (S0 w os)
theorem t3 (w : World) (os : OsState) : seg1 w os = some (.next, Sb w os, c1, ⟨76, 0, 76, 8⟩) := by kernel_rfl
-- the dict
noncomputable def dictKeys : Stmt → List (Option Expr)
  | .Assign _ (.Dict ks _ _) _ => ks
  | _ => []
noncomputable def dictVals : Stmt → List Expr
  | .Assign _ (.Dict _ vs _) _ => vs
  | _ => []
noncomputable def dictPos : Stmt → Pos
  | .Assign _ (.Dict _ _ p) _ => p
  | _ => default
noncomputable def stmtPos : Stmt → Pos
  | .Assign _ _ p => p
  | _ => default
noncomputable def kvOf : List (Option Expr) → List Expr → List KV
  | some (.Constant (.int k) _ _) :: ks, .Constant (.str v) _ _ :: vs => (k, v) :: kvOf ks vs
  | _, _ => []
noncomputable def chunks17 : Nat → List KV → List (List KV)
  | 0, _ => []
  | n + 1, l => l.take 17 :: chunks17 n (l.drop 17)
noncomputable def dSt1 : Stmt := body1.getD 9 (.Pass default)
noncomputable def dPos1 : Pos := dictPos dSt1
noncomputable def data1 : List KV := kvOf (dictKeys dSt1) (dictVals dSt1)
theorem dSt1_eq : dSt1 = .Assign [.Name "b3_exceptions" ⟨77, 0, 77, 13⟩] (.Dict (dictKeys dSt1) (dictVals dSt1) dPos1) (stmtPos dSt1) := by kernel_rfl
theorem items1 : (evalEachOpt (dictKeys dSt1) env1).zip ((evalEach (dictVals dSt1) env1).map fun v => do let x ← v; standAt dPos1; pure x) = itemsOf dPos1 data1 := by kernel_rfl
noncomputable def cs1 : List (List KV) := chunks17 37 (data1.drop 17)
noncomputable def last1 : List KV := data1.drop 646
theorem cut1 : data1 = (data1.take 17 :: cs1).flatten ++ last1 := by kernel_rfl
theorem len1 : ((data1.take 17 :: cs1).all fun c => c.length == 17) = true := by kernel_rfl
theorem last1_len : last1.length = 4 := by kernel_rfl
theorem data1_len : data1.length = 650 := by kernel_rfl
noncomputable def rising : List KV → Bool
  | x :: y :: r => decide (x.1 < y.1) && rising (y :: r)
  | _ => true
theorem rising1 : (rising data1 && data1.all fun x => decide (0 ≤ x.1) && decide (x.1 < 2 ^ 60)) = true := by kernel_rfl
end Mine
end

section
open PySem PySem.W PyProof.Rows
set_option Elab.async false
set_option maxRecDepth 100000
set_option maxHeartbeats 0
namespace Mine
theorem rising_sorted : ∀ (l : List KV), rising l = true → (∀ x ∈ l, 0 ≤ x.1 ∧ x.1 < 2 ^ 60) → (l.map fun x => hashInt x.1).Pairwise (· < ·)
  | [], _, _ => .nil
  | [x], _, _ => by simp
  | x :: y :: r, h, hb => by
    simp only [rising, Bool.and_eq_true, decide_eq_true_eq] at h
    have ih := rising_sorted (y :: r) h.2 fun z hz => hb z (List.mem_cons_of_mem _ hz)
    have hh : ∀ k : Int, 0 ≤ k → k < 2 ^ 60 → hashInt k = k := by
      intro k h0 h1
      unfold hashInt rawHash
      have e : (k.natAbs : Int) % 2305843009213693951 = k := by omega
      have e2 : ¬ k = -1 := by omega
      simp [if_neg (show ¬ k < 0 by omega), e, e2]
    rw [List.map_cons, List.pairwise_cons]
    refine ⟨fun z hz => ?_, ih⟩
    rw [List.map_cons, List.mem_cons] at hz
    have hx := hb x List.mem_cons_self
    have hy := hb y (List.mem_cons_of_mem _ List.mem_cons_self)
    rw [hh x.1 hx.1 hx.2]
    rw [List.map_cons, List.pairwise_cons, hh y.1 hy.1 hy.2] at ih
    rcases hz with rfl | hz
    · rw [hh y.1 hy.1 hy.2]; exact h.1
    · exact Int.lt_trans h.1 (ih.1 z hz)
theorem rising_nodup {l : List KV} (h : (rising l && l.all fun x => decide (0 ≤ x.1) && decide (x.1 < 2 ^ 60)) = true) : (l.map fun x => hashInt x.1).Nodup := by
  simp only [Bool.and_eq_true, List.all_eq_true, decide_eq_true_eq] at h
  exact (rising_sorted l h.1 h.2).imp fun a b => Int.ne_of_lt a b

noncomputable def Sc (w : World) (os : OsState) : Shared :=
  { Sb w os with heap := hm (Sb w os).heap (runOf (Sb w os).toks (data1.take 17) ++ dispE ((Sb w os).toks + 51) (cs1 ++ [last1])) (dispM ((Sb w os).toks + 51) (cs1 ++ [last1])), toks := (Sb w os).toks + 1950 }
theorem Sb_size (w : World) (os : OsState) : (Sb w os).heap.objs.size = 57 := by kernel_rfl

theorem dict1 (w : World) (os : OsState) : Goes P1 w 11 (some (.ref 6)) 16900 (dictDisplay (itemsOf dPos1 data1)) (Sb w os) dPos1 (.ref 57) (Sc w os) dPos1 := by
  have hs := Sb_size w os
  have hl : ∀ d ∈ data1.take 17 :: cs1, d.length = 17 := by
    have := List.all_eq_true.mp len1
    exact fun d hd => eq_of_beq (this d hd)
  have x := Goes.display (p := P1) (w := w) (n₀ := 11) (ann := some (.ref 6)) (pos := dPos1) (Sb w os) (by omega) (by omega) (data1.take 17) cs1 last1 hl (by rw [last1_len]; omega) (by intro e; have := last1_len; rw [e] at this; cases this)
    (by rw [← cut1]; exact rising_nodup rising1) (by rw [← cut1, data1_len, sizeLine_eq]; omega)
  rw [← cut1, hs, data1_len, hl _ List.mem_cons_self] at x
  exact x

noncomputable def segD (w : World) (os : OsState) := segRun treeTable P1 w 11 (some (.ref 6)) 1 30 (Sc w os)
  ⟨(do standAt ⟨77, 0, 77, 13⟩; bindName env1 "b3_exceptions" (.ref 57); pure .next : Sem Flow).wrap doneF deadEnd id id, c1, dPos1, B0⟩
noncomputable def Sd (w : World) (os : OsState) : Shared := ((segD w os).map (·.2.1)).getD (S0 w os)
theorem t4 (w : World) (os : OsState) : segD w os = some (.next, Sd w os, c1, ⟨77, 0, 77, 13⟩) := by kernel_rfl
noncomputable def l2 : List Stmt := body1.drop 10
noncomputable def seg2 (w : World) (os : OsState) := segRun treeTable P1 w 11 (some (.ref 6)) 1 300 (Sd w os) (piecesOf l2 env1 c1 ⟨77, 0, 77, 13⟩ B0)
noncomputable def Se (w : World) (os : OsState) : Shared := ((seg2 w os).map (·.2.1)).getD (S0 w os)
theorem t5 (w : World) (os : OsState) : seg2 w os = some (.next, Se w os, c1, ⟨165, 0, 220, 23⟩) := by kernel_rfl
noncomputable def fin1 (w : World) (os : OsState) := topRun treeTable P1 w 11 (some (.ref 6)) 5 (Se w os) ⟨doneF .next, c1, ⟨165, 0, 220, 23⟩, B0⟩
noncomputable def Sf (w : World) (os : OsState) : Shared := (fin1 w os).getD (S0 w os)
theorem t6 (w : World) (os : OsState) : fin1 w os = some (Sf w os) := by kernel_rfl

theorem body1_eq : body1 = l1 ++ (dSt1 :: l2) := by kernel_rfl
theorem run_dict (w : World) (os : OsState) : ∃ n, n ≤ 17000 ∧ segRun treeTable P1 w 11 (some (.ref 6)) 1 n (Sb w os) (pieceOf dSt1 env1 c1 ⟨76, 0, 76, 8⟩ B0) = some (.next, Sd w os, c1, ⟨77, 0, 77, 13⟩) := by
  have g : Goes P1 w 11 (some (.ref 6)) (1 + (1 + 16900)) (do standAt (stmtPos dSt1); eval (.Dict (dictKeys dSt1) (dictVals dSt1) dPos1) env1) (Sb w os) ⟨76, 0, 76, 8⟩ (.ref 57) (Sc w os) dPos1 := by
    refine Goes.bind Goes.standAt ?_
    rw [PySem.arm_eval_Dict, items1]
    exact Goes.bind Goes.standAt (dict1 w os)
  have e : exec dSt1 env1 = ((do standAt (stmtPos dSt1); eval (.Dict (dictKeys dSt1) (dictVals dSt1) dPos1) env1) >>= fun v => (do standAt ⟨77, 0, 77, 13⟩; bindName env1 "b3_exceptions" v; pure .next : Sem Flow)) := by
    rw [dSt1_eq, exec_Assign_Name _ _ _ _ _ (by kernel_rfl), bind_assoc]
    rfl
  unfold pieceOf
  rw [e, Sem.bind_eq_wrap', Sem.wrap_wrap]
  obtain ⟨n, hle, hn⟩ := g (fun v => (do standAt ⟨77, 0, 77, 13⟩; bindName env1 "b3_exceptions" v; pure .next : Sem Flow).wrap doneF deadEnd id id) (fun e => (Sem.raise e : Sem Flow).wrap doneF deadEnd id id) (fun g => id (id g)) (fun l => id (id l)) c1 (topFrame q0) []
  exact ⟨n + 30, by omega, seg_go hn (t4 w os)⟩

theorem top1 (w : World) (os : OsState) : topRun treeTable P1 w 11 (some (.ref 6)) 20000 (S0 w os) (topStub P1) = some (Sf w os) := by
  obtain ⟨n, hle, hd⟩ := run_dict w os
  have a1 := piece_nil (env := env1) (t6 w os)
  have a2 := piece_app (rest := []) (t5 w os) a1
  rw [List.append_nil] at a2
  have a3 := piece_cons hd a2
  have a4 := piece_app (t3 w os) a3
  rw [← body1_eq] at a4
  have a5 := piece_block (t2b w os) a4
  have a6 := topRun_mono (20000 - (12 + (1 + (500 + (n + (300 + 5)))))) _ _ _ _ (go_top (t2 w os) a5)
  rw [show 12 + (1 + (500 + (n + (300 + 5)))) + (20000 - (12 + (1 + (500 + (n + (300 + 5)))))) = 20000 by omega] at a6
  exact a6
end Mine
end

section
open PySem PySem.W PyProof.Rows
set_option Elab.async false
set_option maxRecDepth 100000
set_option maxHeartbeats 0
namespace Mine
noncomputable def q1 : Program := { P1 with main := { P1.main with body := [1, 2, 3, 4, 5, 6, 7, 9, 10, 12, 13, 14, 15, 16, 18, 19, 20, 21, 22].filterMap fun i => P1.main.body[i]? } }
noncomputable def entKV (e : DictEntry) : Option KV := match e.key, e.val with
  | .int k _, .str v _ => if e.hash == hashInt k then some (k, v) else none
  | _, _ => none
noncomputable def holdsKV (data : List KV) (h : Heap) : Bool := match h.nsMap mainGlobals "b3_exceptions" with
  | some (.ref d) => match h.get? d with
    | some ⟨.type n, dd, .dict es _, sl⟩ => n == "dict" && dd.isNone && sl.size == 0 && !(d == sysModules) && decide (es.toList.map entKV = data.map some)
    | _ => false
  | _ => false
noncomputable def tabOf (h : Heap) (x : Str) : Option Addr := match h.nsMap mainGlobals x with
  | some (.ref a) => match h.get? a with
    | some ⟨_, _, .func fd, _⟩ => match fd.code with
      | .ref c => match h.get? c with
        | some ⟨_, _, .fields vs, _⟩ => match (vs[11]? : Option Value) with
          | some (.ref P) => some P
          | _ => none
        | _ => none
      | _ => none
    | _ => none
  | _ => none
noncomputable def tabsApart (h : Heap) : Bool := match tabOf h "_int2digits", tabOf h "_digits2int" with
  | some P, some P' => P != P'
  | _, _ => false
noncomputable def Xt1 (s : Shared) : Bool := holdsKV data1 s.heap && tabsApart s.heap
theorem look_a (w : World) (os : OsState) : (staticsOk (importedModules P1.main.body) (S0 w os).heap (Sf w os).heap && namesBound P1 (Sf w os).heap && gensDone (Sf w os) && laidKept (S0 w os).heap (Sf w os).heap) = true := by kernel_rfl
theorem look_c (w : World) (os : OsState) : openSeen q1 ["b3_exceptions"] (importedModules P1.main.body) Xt1 true (Sf w os) = openGood q1 ["b3_exceptions"] := by kernel_rfl
end Mine
end

section
open PySem PySem.W PyProof.Rows
set_option Elab.async false
set_option maxRecDepth 100000
set_option maxHeartbeats 0
namespace Mine
theorem opening1 : opening P1 = plainProg P1.main.scope.names := by kernel_rfl
theorem fence1 (s : Shared) : fenceModules? P1 s = some s := by kernel_rfl
theorem ground1 (w : World) (os : OsState) : ((S0 w os).heap.isNs mainGlobals && (S0 w os).gens.size == 0, (S0 w os).heap.objs.size, (S0 w os).heap.nsMap mainGlobals "__annotations__") = (true, 11, some (.ref 6)) := by kernel_rfl
theorem left1 : LeftO P1 q1 ["b3_exceptions"] Xt1 (fun zq => ()) (fun zq => ()) 20000 := fun w => by
  obtain ⟨⟨h, gs, d, k, os⟩, e, e'⟩ := Option.map_eq_some_iff.mp (boot_open (p := P1) (N := 20000) opening1 (by decide) fence1 w)
  obtain ⟨rfl, rfl, rfl, rfl⟩ : h = boot_heap w.params ∧ gs = Array.mk [] ∧ d = boot_drawn ∧ k = boot_toks := by simpa using e'
  obtain ⟨z1, z2, z3⟩ : _ ∧ _ ∧ _ := by simpa only [Prod.mk.injEq] using ground1 w os
  have t : topFrom treeTable P1 w 20000 (S0 w os) = some (Sf w os) := by
    unfold topFrom
    rw [z1, z2, z3, top1 w os]
    show (match staticsOk (importedModules P1.main.body) (S0 w os).heap (Sf w os).heap && namesBound P1 (Sf w os).heap && gensDone (Sf w os) && laidKept (S0 w os).heap (Sf w os).heap with | true => some (Sf w os) | false => none) = _
    rw [look_a w os]
  unfold openEnds
  rw [e]
  show (topFrom treeTable P1 w 20000 (S0 w os)).map _ = _
  rw [t]
  exact congrArg some (Prod.ext (look_c w os) rfl)

noncomputable def TabIs (mg : Str → Option Value) (h : Heap) (x : Str) (P : Addr) : Prop := ∃ a o fd c oc vs, mg x = some (.ref a) ∧ h.get? a = some o ∧ o.data = .func fd ∧ fd.code = .ref c ∧ h.get? c = some oc ∧ oc.data = .fields vs ∧ vs[11]? = some (.ref P)
noncomputable def XP1 (mg : Str → Option Value) (h : Heap) : Prop := (∃ d o es ep, mg "b3_exceptions" = some (.ref d) ∧ h.get? d = some o ∧ o.ExactDict ∧ (d == sysModules) = false ∧ o.data = .dict es ep ∧ es.toList.map entKV = data1.map some) ∧ ∃ P P', P ≠ P' ∧ TabIs mg h "_int2digits" P ∧ TabIs mg h "_digits2int" P'
theorem tabOf_some {h : Heap} {x : Str} {P : Addr} (e : tabOf h x = some P) : TabIs (h.nsMap mainGlobals) h x P := by
  unfold tabOf at e
  split at e
  · next a ha =>
    split at e
    · next cl dd fd sl ho =>
      split at e
      · next c hc =>
        split at e
        · next cl2 dd2 vs sl2 hoc =>
          split at e
          · next P' hp => cases e; exact ⟨a, _, fd, c, _, vs, ha, ho, rfl, hc, hoc, rfl, hp⟩
          · cases e
        · cases e
      · cases e
    · cases e
  · cases e
theorem TabIs.keeps {mg : Str → Option Value} {h h' : Heap} {x : Str} {P : Addr} (t : TabIs mg h x P) (k : ∀ b o, h.get? b = some o → h'.get? b = some o) : TabIs mg h' x P := by
  obtain ⟨a, o, fd, c, oc, vs, h1, h2, h3, h4, h5, h6, h7⟩ := t
  exact ⟨a, o, fd, c, oc, vs, h1, k _ _ h2, h3, h4, k _ _ h5, h6, h7⟩
theorem XP1_of (s : Shared) (e : Xt1 s = true) : XP1 (s.heap.nsMap mainGlobals) s.heap := by
  unfold Xt1 at e
  rw [Bool.and_eq_true] at e
  obtain ⟨e, e'⟩ := e
  refine ⟨?_, ?_⟩
  · unfold holdsKV at e
    split at e
    · next d hd =>
      split at e
      · next n dd es ep sl ho =>
        simp only [Bool.and_eq_true, decide_eq_true_eq] at e
        obtain ⟨⟨⟨⟨e1, e2⟩, e3⟩, e4⟩, e5⟩ := e
        refine ⟨d, _, es, ep, hd, ho, ⟨by rw [beq_iff_eq.mp e1], by simpa using e2, Array.size_eq_zero_iff.mp (by simpa using e3)⟩, by simpa using e4, rfl, e5⟩
      · cases e
    · cases e
  · unfold tabsApart at e'
    split at e'
    · next P P' h1 h2 => exact ⟨P, P', by simpa using e', tabOf_some h1, tabOf_some h2⟩
    · cases e'
theorem XP1_keeps (mg : Str → Option Value) (h h' : Heap) (x : XP1 mg h) (k : ∀ b o, h.get? b = some o → h'.get? b = some o) : XP1 mg h' := by
  obtain ⟨⟨d, o, es, ep, a, b, c⟩, P, P', n, t1, t2⟩ := x
  exact ⟨⟨d, o, es, ep, a, k _ _ b, c⟩, P, P', n, t1.keeps k, t2.keeps k⟩
theorem some1 : (defOf q1 "law").isSome = true := by kernel_rfl
noncomputable def lawDef : DefRec × List (Str × Expr) := (defOf q1 "law").get some1
theorem def1 : defOf q1 "law" = some lawDef := (Option.some_get some1).symm
theorem the1 : P1.theDef "law" = some (lawDef.1.params, lawDef.1.body, lawDef.1.scope) := by kernel_rfl
theorem kw1 : kwWritten? lawDef.1.params.kwonlyargs lawDef.1.params.kw_defaults = some lawDef.2 := by kernel_rfl
theorem said1 : PySem.Challenge.rw_re0173_02.wellSaid = true := by kernel_rfl
theorem hd1 (call : WalkO q1 ["b3_exceptions"] XP1 (fun zq zq => True) (OpenLaw.row PySem.Challenge.rw_re0173_02).toRowW lawDef.1 lawDef.2 fun f vs => PySem.call f vs) : PySem.Challenge.rw_re0173_02.Holds := by
  refine holds_law (said1) fun said => ?_
  refine PySem.W.holds_open (q := q1) (loose := ["b3_exceptions"]) (Xt := Xt1) (XP := XP1) (Yf := fun zq => ()) (Ya := fun zq => ()) (YP := fun zq zq => True) (N := 20000) (d := lawDef.1) (kwd := lawDef.2) left1
    (fun zq zq zq => trivial) (fun zq zq zq zq zq => trivial) XP1_of XP1_keeps def1 the1 kw1 (fun zq zq => recFacts_nil rfl) rfl (by assumption) ?_ ?_ ?_ call
  · kernel_rfl
  · exact ⟨rfl, rfl, rfl, rfl, rfl, by kernel_rfl⟩
  · w_witness2
end Mine
end

section
open PySem PySem.W PyProof.Rows
set_option Elab.async false
set_option tactic.hygienic false
set_option maxRecDepth 100000
namespace Mine

inductive AV where
  | none | bool (b : Bool) | int (i : Int) | str (s : Str) | tup (xs : List AV) | lst (xs : List AV) | mut (xs : List AV) | view (xs : List AV)
  deriving Inhabited

mutual
noncomputable def RepV (W : Addr → Prop) (h : Heap) : AV → Value → Prop
  | .none, v => v = .none
  | .bool b, v => v = .bool b
  | .int i, v => ∃ t, v = .int i t
  | .str x, v => ∃ t, v = .str x t
  | .tup xs, v => ∃ a vs, v = .ref a ∧ ¬ W a ∧ h.IsTuple a (List.toArray vs) ∧ RepL W h xs vs
  | .lst xs, v => ∃ a vs, v = .ref a ∧ ¬ W a ∧ h.PlainList a (List.toArray vs) ∧ RepL W h xs vs
  | .mut xs, v => ∃ a vs, v = .ref a ∧ h.PlainList a (List.toArray vs) ∧ RepL W h xs vs
  | .view xs, v => ∃ a vs, v = .ref a ∧ h.IsList a (List.toArray vs) ∧ RepL W h xs vs
noncomputable def RepL (W : Addr → Prop) (h : Heap) : List AV → List Value → Prop
  | [], vs => vs = []
  | x :: xs, vs => ∃ v r, vs = v :: r ∧ RepV W h x v ∧ RepL W h xs r
end

noncomputable def tabby (o : Obj) : Bool := match o.cls, o.data with
  | .none, .fields _ => true
  | _, _ => false
theorem solid_cls {o : Obj} {c : String} (h : o.cls = .type c) : tabby o = false := by unfold tabby; rw [h]
theorem solid_data {o : Obj} (h : ∀ xs, o.data ≠ .fields xs) : tabby o = false := by
  unfold tabby
  split
  · next h2 => exact absurd h2 (h _)
  · rfl
theorem solid_dict {o : Obj} {es} {ep} (h : o.data = .dict es ep) : tabby o = false := solid_data fun ys e => by rw [h] at e; cases e
theorem solid_cell {o : Obj} {v : Option Value} (h : o.data = .cell v) : tabby o = false := solid_data fun ys e => by rw [h] at e; cases e
theorem solid_func {o : Obj} {fd : FuncData} (h : o.data = .func fd) : tabby o = false := solid_data fun ys e => by rw [h] at e; cases e
noncomputable abbrev FKept (h h' : Heap) : Prop := ∀ b o, h.get? b = some o → h'.get? b = some o
noncomputable abbrev Kept (h h' : Heap) : Prop := ∀ b o, h.get? b = some o → tabby o = false → h'.get? b = some o
theorem FKept.kept {h h' : Heap} (k : FKept h h') : Kept h h' := fun b o e zq => k b o e
theorem Ns.keepsK {h h' : Heap} {a : Addr} {m} (n : h.Ns a m) (hk : Kept h h') : h'.Ns a m := let ⟨o, es, ep, e, d, r⟩ := n; ⟨o, es, ep, hk _ _ e (solid_dict d), d, r⟩
theorem IsCell.keepsK {h h' : Heap} {c : Addr} {v : Option Value} (n : h.IsCell c v) (hk : Kept h h') : h'.IsCell c v := let ⟨o, e, d⟩ := n; ⟨o, hk _ _ e (solid_cell d), d⟩

noncomputable def innerPos : FuncBody → Option Pos
  | .stmts (_ :: .FunctionDef _ _ _ _ _ _ _ _ _ pos :: _) => some pos
  | .stmts (.FunctionDef _ _ _ _ _ _ _ _ _ pos :: _) => some pos
  | _ => none
theorem byG {P : Prop} (h : ∀ X : Prop, (P → X) → X) : P := h P id
inductive TBi (q : Str) (pos : Pos) (ps : Array Value) (h : Heap) : Prop
  | mk (c' : Addr) (o' : Obj) (k1 : ps = #[rawInt pos.line, rawInt pos.col, .ref c']) (k2 : h.get? c' = some o') (k3 : o'.cls = .type "code") (k4 : h.CodeRec (.ref c') q) : TBi q pos ps h
inductive TBf (name q : Str) (P : Addr) (h : Heap) : Prop
  | mk (mg : Str → Option Value) (a : Addr) (o : Obj) (fd : FuncData) (c : Addr) (ps : Array Value) (pos : Pos) (n : h.Ns mainGlobals mg) (h1 : mg name = some (.ref a)) (h2 : h.get? a = some o) (h3 : o.data = .func fd) (h4 : fd.code = .ref c)
      (h5 : innerPos fd.body = some pos) (h6 : CodeHd h c P) (h7 : h.get? P = some (tabObj ps)) (h8 : ps = #[] ∨ TBi q pos ps h) : TBf name q P h
noncomputable def codey (o : Obj) : Bool := match o.data with
  | .func _ => true
  | .fields _ => (match o.cls with
    | .none => true
    | .type c => c == "code"
    | _ => false)
  | _ => false
theorem codey_code {o : Obj} {vs} (h : o.data = .fields vs) (h' : o.cls = .type "code") : codey o = true := by unfold codey; rw [h, h']; rfl
theorem codey_func {o : Obj} {fd} (h : o.data = .func fd) : codey o = true := by unfold codey; rw [h]
noncomputable def iterO (o : Obj) : Bool := match o.cls, o.data with
  | .type c, .fields _ => c != "code"
  | _, _ => false
theorem iterO_of {o : Obj} {c : String} {vs} (h : o.cls = .type c) (h' : o.data = .fields vs) (hc : (c != "code") = true) : iterO o = true := by unfold iterO; rw [h, h']; exact hc
set_option tactic.hygienic true in
theorem iterO_spec {o : Obj} (h : iterO o = true) : codey o = false ∧ tabby o = false ∧ (∀ xs n, o.data ≠ .seq xs n) ∧ ∀ es ep, o.data ≠ .dict es ep := by
  unfold iterO at h
  split at h
  · next c vs h1 h2 =>
    refine ⟨?_, solid_cls h1, (fun xs n e => by rw [h2] at e; cases e), (fun es ep e => by rw [h2] at e; cases e)⟩
    unfold codey; rw [h1, h2]
    simpa using h
  · cases h
theorem codey_data {o : Obj} (h1 : ∀ vs, o.data ≠ .fields vs) (h2 : ∀ fd, o.data ≠ .func fd) : codey o = false := by
  unfold codey
  split
  · next h => exact absurd h (h2 _)
  · next h => exact absurd h (h1 _)
  · rfl
theorem TBf.but {name q : Str} {P : Addr} {h h' : Heap} (x : TBf name q P h) (hn : ∀ m, h.Ns mainGlobals m → h'.Ns mainGlobals m) (hk : ∀ b o, codey o = true → h.get? b = some o → h'.get? b = some o) : TBf name q P h' := by
  obtain ⟨mg, a, o, fd, c, ps, pos, n, h1, h2, h3, h4, h5, ⟨oc, vs, file, tf, flags, tg, inF, text, tt, e1, e2, e3, e4⟩, h7, h8⟩ := x
  refine ⟨mg, a, o, fd, c, ps, pos, hn _ n, h1, hk _ _ (codey_func h3) h2, h3, h4, h5, ⟨oc, vs, file, tf, flags, tg, inF, text, tt, hk _ _ (codey_code e3 e2) e1, e2, e3, e4⟩, hk _ _ rfl h7, h8.imp id fun z => ?_⟩
  obtain ⟨c', o', k1, k2, k3, c₂, o₂, vs₂, t₂, k4, k5, k6, k7⟩ := z
  obtain rfl := Value.ref.inj k4
  obtain rfl := Option.some.inj (k2.symm.trans k5)
  exact ⟨c', o', k1, hk _ _ (codey_code k6 k3) k2, k3, c', o', vs₂, t₂, rfl, hk _ _ (codey_code k6 k3) k2, k6, k7⟩
noncomputable def qDig : Str := "_int2digits.<locals>.inner"
noncomputable def qInt : Str := "_digits2int.<locals>.inner"
noncomputable def OldT (P P' : Addr) (H h : Heap) : Prop := ∀ b o, H.get? b = some o → tabby o = true → (h.get? b = some o ∨ ((b = P ∨ b = P') ∧ ∃ vs more, o = tabObj vs ∧ h.get? b = some (tabObj (vs ++ more))))
theorem codey_tab {o : Obj} (h : tabby o = true) : codey o = true := by
  unfold tabby at h
  split at h
  · next h1 h2 => unfold codey; rw [h2, h1]
  · cases h
theorem OldT.but {P P' : Addr} {H h h' : Heap} (x : OldT P P' H h) (hk : ∀ b o, codey o = true → h.get? b = some o → h'.get? b = some o) : OldT P P' H h' := fun b o e t => by
  rcases x b o e t with y | ⟨y, vs, more, z, w⟩
  · exact .inl (hk _ _ (codey_tab t) y)
  · exact .inr ⟨y, vs, more, z, hk _ _ rfl w⟩
theorem OldT.trans {P P' : Addr} {H h h' : Heap} (x : OldT P P' H h) (y : OldT P P' h h') : OldT P P' H h' := fun b o e t => by
  rcases x b o e t with z | ⟨z, vs, more, rfl, w⟩
  · exact y b o z t
  · rcases y b _ w rfl with u | ⟨_, vs2, more2, e2, u⟩
    · exact .inr ⟨z, vs, more, rfl, u⟩
    · have e3 : vs ++ more = vs2 := by simp only [tabObj] at e2; injection e2 with _ _ h3; injection h3
      subst e3
      exact .inr ⟨z, vs, more ++ more2, rfl, by rw [u, Array.append_assoc]⟩
theorem Ns.unique {h : Heap} {a : Addr} {m m' : Str → Option Value} (x : h.Ns a m) (y : h.Ns a m') (k : Str) : m k = m' k := by
  obtain ⟨o, es, ep, e, d, _, f⟩ := x
  obtain ⟨o', es', ep', e', d', _, f'⟩ := y
  obtain rfl := Option.some.inj (e.symm.trans e')
  obtain ⟨rfl, -⟩ := Data.dict.inj (d.symm.trans d')
  rw [← f k, ← f' k]
theorem TBf.det {name q : Str} {P P' : Addr} {h : Heap} (x : TBf name q P h) (y : TBf name q P' h) : P = P' := by
  obtain ⟨mg, a, o, fd, c, ps, pos, n, h1, h2, h3, h4, -, ⟨oc, vs, file, tf, flags, tg, inF, text, tt, e1, e2, e3, e4, -⟩, -, -⟩ := x
  obtain ⟨mg', a', o', fd', c', ps', pos', n', h1', h2', h3', h4', -, ⟨oc', vs', file', tf', flags', tg', inF', text', tt', e1', -, e3', e4', -⟩, -, -⟩ := y
  obtain rfl := Value.ref.inj (Option.some.inj (h1.symm.trans ((Ns.unique n n' name).trans h1')))
  obtain rfl := Option.some.inj (h2.symm.trans h2')
  obtain rfl := Data.func.inj (h3.symm.trans h3')
  obtain rfl := Value.ref.inj (h4.symm.trans h4')
  obtain rfl := Option.some.inj (e1.symm.trans e1')
  obtain ⟨rfl⟩ := Data.fields.inj (e3.symm.trans e3')
  exact Value.ref.inj (Option.some.inj (e4.symm.trans e4'))
noncomputable def TB (H h : Heap) : Prop := ∃ P P', P ≠ P' ∧ TBf "_int2digits" qDig P h ∧ TBf "_digits2int" qInt P' h ∧ TBf "_int2digits" qDig P H ∧ TBf "_digits2int" qInt P' H ∧ OldT P P' H h
theorem TB.self {H h : Heap} (x : TB H h) : TB h h := let ⟨P, P', n, a, b, _⟩ := x; ⟨P, P', n, a, b, a, b, fun zq zq e zq => .inl e⟩
theorem TB.trans {H h h' : Heap} (x : TB H h) (y : TB h h') : TB H h' := by
  obtain ⟨P, P', n, a, b, c, d, t⟩ := x
  obtain ⟨Q, Q', n', a', b', c', d', t'⟩ := y
  cases a.det c'
  cases b.det d'
  exact ⟨P, P', n, a', b', c, d, t.trans t'⟩
theorem TB.but {H h h' : Heap} (x : TB H h) (hn : ∀ m, h.Ns mainGlobals m → h'.Ns mainGlobals m) (hk : ∀ b o, codey o = true → h.get? b = some o → h'.get? b = some o) : TB H h' := let ⟨P, P', n, a, b, c, d, t⟩ := x; ⟨P, P', n, a.but hn hk, b.but hn hk, c, d, t.but hk⟩
theorem TB.main {H h : Heap} (x : TB H h) : ∃ mg, h.Ns mainGlobals mg := by
  obtain ⟨_, _, _, ⟨mg, _, _, _, _, _, _, n, _⟩, _⟩ := x
  exact ⟨mg, n⟩
theorem TB.keeps {H h h' : Heap} (x : TB H h) (hk : FKept h h') : TB H h' := x.but (fun zq n => n.keeps hk) (fun b o zq e => hk b o e)
theorem TB.wr {H h h' : Heap} {wr : List Addr} (x : TB H h) (kk : ∀ b o, b ∉ wr → h.get? b = some o → h'.get? b = some o) (hw : ∀ b ∈ wr, ∃ o, h.get? b = some o ∧ iterO o = true) : TB H h' :=
  x.but (fun _ ⟨o, es, ep, e, d, r⟩ => ⟨o, es, ep, kk _ _ (fun m => by obtain ⟨o', e', s⟩ := hw _ m; rw [e] at e'; cases e'; exact (iterO_spec s).2.2.2 _ _ d) e, d, r⟩)
    (fun b o s e => kk _ _ (fun m => by obtain ⟨o', e', s'⟩ := hw _ m; rw [e] at e'; cases e'; rw [(iterO_spec s').1] at s; cases s) e)
theorem none_wr {h h' : Heap} {wr : List Addr} (kk : ∀ b o, b ∉ wr → h.get? b = some o → h'.get? b = some o) (hw : ∀ b ∈ wr, (h'.get? b).isSome = true) (b : Addr) (e : h'.get? b = none) : h.get? b = none := by
  by_cases m : b ∈ wr
  · have := hw b m; rw [e] at this; cases this
  · cases q : h.get? b with
    | none => rfl
    | some o => rw [kk b o m q] at e; cases e
theorem none_but {h h' : Heap} {a : Addr} (kk : ∀ b o, b ≠ a → h.get? b = some o → h'.get? b = some o) (ha : (h'.get? a).isSome = true) (b : Addr) (e : h'.get? b = none) : h.get? b = none :=
  none_wr (wr := [a]) (fun b o m => kk b o fun q => m (by rw [q]; exact List.mem_singleton.mpr rfl)) (fun b m => by rw [List.mem_singleton.mp m]; exact ha) b e
theorem TB.change {H h h' : Heap} {a : Addr} {oa : Obj} (x : TB H h) (hk : ∀ b o, b ≠ a → h.get? b = some o → h'.get? b = some o) (hm : a ≠ mainGlobals) (ha : h.get? a = some oa) (hc : codey oa = false) : TB H h' :=
  x.but (fun _ ⟨o, es, ep, e, r⟩ => ⟨o, es, ep, hk _ _ (Ne.symm hm) e, r⟩) (fun b o s e => hk _ _ (fun q => by rw [q, ha] at e; cases e; rw [hc] at s; cases s) e)
theorem codey_ns {h : Heap} {a : Addr} {m} (n : h.Ns a m) : ∃ o, h.get? a = some o ∧ codey o = false := let ⟨o, es, ep, e, d, _⟩ := n; ⟨o, e, codey_data (fun zq q => by rw [d] at q; cases q) (fun zq q => by rw [d] at q; cases q)⟩
theorem codey_cell {h : Heap} {a : Addr} {v} (n : h.IsCell a v) : ∃ o, h.get? a = some o ∧ codey o = false := let ⟨o, e, d⟩ := n; ⟨o, e, codey_data (fun zq q => by rw [d] at q; cases q) (fun zq q => by rw [d] at q; cases q)⟩
theorem codey_list {h : Heap} {a : Addr} {us} (n : h.PlainList a us) : ∃ o, h.get? a = some o ∧ codey o = false := let ⟨_, e⟩ := n; ⟨_, e, rfl⟩

mutual
theorem RepV.mono {W W' : Addr → Prop} {h h' : Heap} (hk : ∀ b o, ¬ W b → h.get? b = some o → tabby o = false → h'.get? b = some o) (hm : ∀ b o, W b → h.get? b = some o → tabby o = false → h'.get? b = some o)
    (hW : ∀ b, (h.get? b).isSome = true → W' b → W b) : ∀ (x : AV) (v : Value), RepV W h x v → RepV W' h' x v
  | .none, _, r | .bool _, _, r | .int _, _, r | .str _, _, r => r
  | .tup xs, v, ⟨a, vs, e, hw, ⟨o, ho, hc, hd⟩, r⟩ => ⟨a, vs, e, fun w => hw (hW a (by rw [ho]; rfl) w), ⟨o, hk a o hw ho (solid_cls hc), hc, hd⟩, RepL.mono hk hm hW xs vs r⟩
  | .lst xs, v, ⟨a, vs, e, hw, ⟨o, ho⟩, r⟩ => ⟨a, vs, e, fun w => hw (hW a (by rw [ho]; rfl) w), ⟨o, hk a _ hw ho rfl⟩, RepL.mono hk hm hW xs vs r⟩
  | .mut xs, v, ⟨a, vs, e, ⟨o, ho⟩, r⟩ => ⟨a, vs, e, ⟨o, (by
      by_cases w : W a
      · exact hm a _ w ho rfl
      · exact hk a _ w ho rfl)⟩, RepL.mono hk hm hW xs vs r⟩
  | .view xs, v, ⟨a, vs, e, ⟨o, ho, hc, hd⟩, r⟩ => ⟨a, vs, e, ⟨o, (by
      by_cases w : W a
      · exact hm a o w ho (solid_cls hc)
      · exact hk a o w ho (solid_cls hc)), hc, hd⟩, RepL.mono hk hm hW xs vs r⟩
theorem RepL.mono {W W' : Addr → Prop} {h h' : Heap} (hk : ∀ b o, ¬ W b → h.get? b = some o → tabby o = false → h'.get? b = some o) (hm : ∀ b o, W b → h.get? b = some o → tabby o = false → h'.get? b = some o)
    (hW : ∀ b, (h.get? b).isSome = true → W' b → W b) : ∀ (xs : List AV) (vs : List Value), RepL W h xs vs → RepL W' h' xs vs
  | [], _, r => r
  | x :: xs, _, ⟨v, q, e, a, b⟩ => ⟨v, q, e, RepV.mono hk hm hW x v a, RepL.mono hk hm hW xs q b⟩
end

mutual
noncomputable def AV.firm : AV → Bool
  | .none | .bool _ | .int _ | .str _ => true
  | .tup xs => firmL xs
  | .lst xs => firmL xs
  | .mut _ | .view _ => false
noncomputable def firmL : List AV → Bool
  | [] => true
  | x :: xs => x.firm && firmL xs
end

mutual
theorem RepV.firm {W W' : Addr → Prop} {h h' : Heap} (hk : ∀ b o, ¬ W b → h.get? b = some o → tabby o = false → h'.get? b = some o)
    (hW : ∀ b, (h.get? b).isSome = true → W' b → W b) : ∀ (x : AV) (v : Value), x.firm = true → RepV W h x v → RepV W' h' x v
  | .none, _, _, r | .bool _, _, _, r | .int _, _, _, r | .str _, _, _, r => r
  | .tup xs, v, f, ⟨a, vs, e, hw, ⟨o, ho, hc, hd⟩, r⟩ => ⟨a, vs, e, fun w => hw (hW a (by rw [ho]; rfl) w), ⟨o, hk a o hw ho (solid_cls hc), hc, hd⟩, RepL.firm hk hW xs vs f r⟩
  | .lst xs, v, f, ⟨a, vs, e, hw, ⟨o, ho⟩, r⟩ => ⟨a, vs, e, fun w => hw (hW a (by rw [ho]; rfl) w), ⟨o, hk a _ hw ho rfl⟩, RepL.firm hk hW xs vs f r⟩
theorem RepL.firm {W W' : Addr → Prop} {h h' : Heap} (hk : ∀ b o, ¬ W b → h.get? b = some o → tabby o = false → h'.get? b = some o)
    (hW : ∀ b, (h.get? b).isSome = true → W' b → W b) : ∀ (xs : List AV) (vs : List Value), firmL xs = true → RepL W h xs vs → RepL W' h' xs vs
  | [], _, _, r => r
  | x :: xs, _, f, ⟨v, q, e, a, b⟩ => by
    unfold firmL at f
    rw [Bool.and_eq_true] at f
    exact ⟨v, q, e, RepV.firm hk hW x v f.1 a, RepL.firm hk hW xs q f.2 b⟩
end

theorem RepL.length {W h} : ∀ {xs : List AV} {vs : List Value}, RepL W h xs vs → vs.length = xs.length
  | [], _, r => by rw [show _ = [] from r]; rfl
  | x :: xs, _, ⟨v, q, e, _, b⟩ => by rw [e, List.length_cons, List.length_cons, RepL.length b]
theorem RepL.get {W h} : ∀ {xs : List AV} {vs : List Value} {i : Nat} {x : AV}, RepL W h xs vs → xs[i]? = some x → ∃ v, vs[i]? = some v ∧ RepV W h x v
  | [], _, i, x, _, e => by simp at e
  | y :: xs, _, 0, x, ⟨v, q, e, a, b⟩, hx => by
    rw [List.getElem?_cons_zero] at hx
    cases hx
    exact ⟨v, by rw [e]; rfl, a⟩
  | y :: xs, _, i + 1, x, ⟨v, q, e, a, b⟩, hx => by
    rw [List.getElem?_cons_succ] at hx
    obtain ⟨u, hu, r⟩ := RepL.get b hx
    exact ⟨u, by rw [e, List.getElem?_cons_succ]; exact hu, r⟩
theorem RepL.append {W h} : ∀ {xs ys : List AV} {vs us : List Value}, RepL W h xs vs → RepL W h ys us → RepL W h (xs ++ ys) (vs ++ us)
  | [], _, _, _, r, r' => by rw [show _ = [] from r]; exact r'
  | x :: xs, _, _, _, ⟨v, q, e, a, b⟩, r' => ⟨v, q ++ _, by rw [e]; rfl, a, RepL.append b r'⟩
theorem RepL.one {W h x v} (r : RepV W h x v) : RepL W h [x] [v] := ⟨v, [], rfl, r, rfl⟩
theorem RepL.firmL_of_mem {xs : List AV} (h : firmL xs = true) : ∀ x ∈ xs, x.firm = true := by
  induction xs with
  | nil => intro x hx; cases hx
  | cons y ys ih =>
    unfold firmL at h
    rw [Bool.and_eq_true] at h
    intro x hx
    rcases List.mem_cons.mp hx with rfl | hx
    · exact h.1
    · exact ih h.2 x hx
theorem firmL_iff {xs : List AV} : firmL xs = true ↔ ∀ x ∈ xs, x.firm = true := by
  induction xs with
  | nil => simp [firmL]
  | cons y ys ih => simp [firmL, ih]

structure TopK (p : Program) (loose : List Str) (mg mb : Str → Option Value) (h : Heap) : Prop where
  g : h.Ns mainGlobals mg
  b : h.Ns builtinsNs mb
  nolimit : h.NoLimit
  fn : ∀ d ∈ recsOf p, ∃ a o pm c oc doc, mg d.name = some (.ref a) ∧ h.get? a = some o ∧ o.data = .func (Calls.docDef d.name d.params d.body d.scope pm (.ref c) doc) ∧ h.CodeRec (.ref c) d.name ∧ h.get? c = some oc ∧ oc.cls = .type "code"
  const : ∀ x d, valOf p x = some d → ∃ v, mg x = some v ∧ ∀ h' : Heap, Reads h' v d []
  free : ∀ x, x ∉ startupNames → x ∉ loose → x ∉ (recsOf p).map (·.name) → x ∉ (litsOf p).map (·.1) → x ∉ (clssOf p loose).map (·.name) → mg x = none
  builtins : ∀ x : Str, x ≠ "__name__" → mb x = bootBuiltins x
  bmain : ∃ bm ob, mg "__builtins__" = some (.ref bm) ∧ bm ≠ builtinsNs ∧ h.get? bm = some ob ∧ ob.cls = .type "module" ∧ ob.dict = some builtinsNs ∧ ob.data = .plain
theorem TopK.of {p : Program} {loose : List Str} {mean : ExcName → Option Value} {mg mb : Str → Option Value} {h : Heap} (T : Top p loose mean mg mb h) : TopK p loose mg mb h where
  g := T.g
  b := T.b
  nolimit := T.nolimit
  fn := fun d hd => by
    obtain ⟨a, o, pm, code, doc, h1, h2, h3, h4⟩ := T.fn d hd
    obtain ⟨a', o', fd, c, P, k1, k2, k3, k4, k5, ⟨⟨oc, vs, k6, k7, _⟩, _⟩⟩ := T.tab d hd
    rw [h1] at k1; cases k1
    rw [h2] at k2; cases k2
    rw [h3] at k3; cases k3
    cases (show code = .ref c from k4)
    exact ⟨a, o, pm, c, oc, doc, h1, h2, h3, h4, k6, k7⟩
  const := T.const
  free := T.free
  builtins := T.builtins
  bmain := T.bmain
theorem CodeRec.keepsK {h h' : Heap} {c : Addr} {oc : Obj} {q : Str} (x : h.CodeRec (.ref c) q) (e : h.get? c = some oc) (s : oc.cls = .type "code") (hk : Kept h h') : h'.CodeRec (.ref c) q := by
  obtain ⟨c', o, vs, t, e1, e2, r⟩ := x
  cases e1
  rw [e] at e2; cases e2
  exact ⟨c, oc, vs, t, rfl, hk _ _ e (solid_cls s), r⟩
theorem NoLimit.keepsK {h h' : Heap} (x : h.NoLimit) (hk : Kept h h') : h'.NoLimit := let ⟨mc, a, b⟩ := x; ⟨mc, Ns.keepsK a hk, b⟩
theorem TopK.keeps {p : Program} {loose : List Str} {mg mb : Str → Option Value} {h h' : Heap} (T : TopK p loose mg mb h) (hk : Kept h h') : TopK p loose mg mb h' where
  g := Ns.keepsK T.g hk
  b := Ns.keepsK T.b hk
  nolimit := NoLimit.keepsK T.nolimit hk
  fn := fun d hd => by
    obtain ⟨a, o, pm, c, oc, doc, h1, h2, h3, h4, h5, h6⟩ := T.fn d hd
    exact ⟨a, o, pm, c, oc, doc, h1, hk _ _ h2 (solid_func h3), h3, CodeRec.keepsK h4 h5 h6 hk, hk _ _ h5 (solid_cls h6), h6⟩
  const := T.const
  free := T.free
  builtins := T.builtins
  bmain := let ⟨bm, ob, h1, h2, h3, h4, r⟩ := T.bmain; ⟨bm, ob, h1, h2, hk _ _ h3 (solid_cls h4), h4, r⟩
structure Gl where
  prog : Program
  w : World
  q : Program
  loose : List Str
  mg : Str → Option Value
  mb : Str → Option Value
  h₀ : Heap
  start : Heap
  top : TopK q loose mg mb h₀
  dd : List (Int × Str)
  b3 : ∃ d o es ep, mg "b3_exceptions" = some (.ref d) ∧ h₀.get? d = some o ∧ o.ExactDict ∧ (d == sysModules) = false ∧ o.data = .dict es ep ∧ es.toList.map (fun e => match e.key, e.val with
    | .int k _, .str v _ => if e.hash == hashInt k then some (k, v) else none
    | _, _ => none) = dd.map some
noncomputable abbrev Gl.M (G : Gl) : Model := model G.prog G.w

noncomputable def Loads (env : Env) (h : Heap) (x : Str) (ov : Option Value) : Prop :=
  (env.kindOf x = some .local ∧ ∃ m, h.Ns env.locals m ∧ m x = ov) ∨ ((env.kindOf x = some .cell ∨ env.kindOf x = some .free) ∧ ∃ c, env.cells.lookup x = some c ∧ h.IsCell c ov)

inductive Slot where
  | unset | val (v : AV) | mls (xs : List AV) | mgr (rows : List (List AV)) | scr (xs : List AV)
  deriving Inhabited

noncomputable def RepRows (W : Addr → Prop) (h : Heap) : List (List AV) → List Addr → Prop
  | [], ds => ds = []
  | r :: rs, ds => ∃ d q vs, ds = d :: q ∧ h.PlainList d (List.toArray vs) ∧ RepL W h r vs ∧ RepRows W h rs q

noncomputable def SlotRep (W : Addr → Prop) (h : Heap) : Slot → Option Value → Prop
  | .unset, _ => True
  | .val x, ov => ∃ v, ov = some v ∧ RepV W h x v ∧ x.firm = true
  | .mls xs, ov => ∃ d vs, ov = some (.ref d) ∧ h.PlainList d (List.toArray vs) ∧ RepL W h xs vs ∧ firmL xs = true
  | .mgr rows, ov => ∃ d ds, ov = some (.ref d) ∧ h.PlainList d (List.toArray (ds.map Value.ref)) ∧ RepRows W h rows ds ∧ rows.all firmL = true
  | .scr xs, ov => ∃ d vs, ov = some (.ref d) ∧ ¬ W d ∧ h.IsList d (List.toArray vs) ∧ RepL W h xs vs ∧ firmL xs = true

structure EnvF (env : Env) (sc : List (Str × NameKind)) : Prop where
  kind : env.scope.kind = .function
  globals : env.globals = mainGlobals
  builtins : env.builtins = builtinsNs
  names : env.scope.names = sc
  cells : ∀ x kd, sc.lookup x = some kd → (kd = .cell ∨ kd = .free) → ∃ c, env.cells.lookup x = some c
theorem EnvF.glob {env : Env} {sc : List (Str × NameKind)} (e : EnvF env sc) (g : Str) (h : sc.lookup g = some .globalImplicit) : env.kindOf g = some .globalImplicit := by
  unfold Env.kindOf; rw [e.names]; exact h

noncomputable def RS (W : Addr → Prop) (env : Env) (names : List Str) (sl : List Slot) (h : Heap) : Prop :=
  ∀ (i : Nat) (x : Str) (s : Slot), names[i]? = some x → sl[i]? = some s → s ≠ .unset → ∃ ov, Loads env h x ov ∧ SlotRep W h s ov

structure Base (G : Gl) (W : Addr → Prop) (s : Shared) : Prop where
  keep : Kept G.h₀ s.heap
  gone : ∀ b, s.heap.get? b = none → G.h₀.get? b = none
  tb : TB G.start s.heap
  above : ∀ a, W a → (s.heap.get? a).isSome = true ∧ G.h₀.get? a = none

theorem Base.notMain {G : Gl} {W : Addr → Prop} {s : Shared} (b : Base G W s) {a : Addr} (w : W a) : a ≠ mainGlobals := fun e => by
  obtain ⟨o, es, ep, h, _⟩ := G.top.g
  rw [← e, (b.above a w).2] at h; cases h

structure Room (A : Around) (k : Nat) : Prop where
  handled : A.handled = none
  depth : A.depth + k < 1000
  units : A.units + 8 * k < 9000

theorem Room.le {A : Around} {k k' : Nat} (r : Room A k) (h : k' ≤ k) : Room A k' := ⟨r.handled, by have := r.depth; lia, by have := r.units; lia⟩
theorem Room.deeper {A : Around} {k : Nat} {env : Env} (r : Room A (k + 1)) : Room (A.deeper env) k := ⟨r.handled, by have := r.depth; simp only [Around.deeper]; lia, by have := r.units; simp only [Around.deeper]; lia⟩
theorem Room.limit {A : Around} {k : Nat} (r : Room A k) : A.depth < recursionLimit := by have := r.depth; unfold recursionLimit; lia

mutual
theorem RepV.grow {W : Addr → Prop} {h h' : Heap} (hk : Kept h h') (x : AV) (v : Value) (r : RepV W h x v) : RepV W h' x v :=
  RepV.mono (fun b o zq => hk b o) (fun b o zq => hk b o) (fun zq zq w => w) x v r
theorem RepL.grow {W : Addr → Prop} {h h' : Heap} (hk : Kept h h') (xs : List AV) (vs : List Value) (r : RepL W h xs vs) : RepL W h' xs vs :=
  RepL.mono (fun b o zq => hk b o) (fun b o zq => hk b o) (fun zq zq w => w) xs vs r
end

theorem Loads.grow {env : Env} {h h' : Heap} {x : Str} {ov : Option Value} (hk : Kept h h') (l : Loads env h x ov) : Loads env h' x ov := by
  rcases l with ⟨a, m, n, e⟩ | ⟨a, c, b, n⟩
  · exact .inl ⟨a, m, Ns.keepsK n hk, e⟩
  · exact .inr ⟨a, c, b, IsCell.keepsK n hk⟩
theorem IsList.grow {h h' : Heap} {a : Addr} {xs : Array Value} (hk : Kept h h') (l : h.IsList a xs) : h'.IsList a xs := let ⟨o, ho, hc, r⟩ := l; ⟨o, hk _ _ ho (solid_cls hc), hc, r⟩
theorem PlainList.grow {h h' : Heap} {a : Addr} {xs : Array Value} (hk : Kept h h') (l : h.PlainList a xs) : h'.PlainList a xs := let ⟨o, ho⟩ := l; ⟨o, hk _ _ ho rfl⟩
theorem RepRows.grow {W : Addr → Prop} {h h' : Heap} (hk : Kept h h') : ∀ {rs : List (List AV)} {ds : List Addr}, RepRows W h rs ds → RepRows W h' rs ds
  | [], _, r => r
  | _ :: _, _, ⟨d, q, vs, e, l, r, rr⟩ => ⟨d, q, vs, e, PlainList.grow hk l, RepL.grow hk _ _ r, RepRows.grow hk rr⟩
theorem SlotRep.grow {W : Addr → Prop} {h h' : Heap} (hk : Kept h h') {s : Slot} {ov : Option Value} (r : SlotRep W h s ov) : SlotRep W h' s ov := by
  cases s with
  | unset => trivial
  | val x => obtain ⟨v, e, a, f⟩ := r; exact ⟨v, e, RepV.grow hk _ _ a, f⟩
  | mls xs => obtain ⟨d, vs, e, l, a, f⟩ := r; exact ⟨d, vs, e, PlainList.grow hk l, RepL.grow hk _ _ a, f⟩
  | mgr rows => obtain ⟨d, ds, e, l, a, f⟩ := r; exact ⟨d, ds, e, PlainList.grow hk l, RepRows.grow hk a, f⟩
  | scr xs => obtain ⟨d, vs, e, n, l, a, f⟩ := r; exact ⟨d, vs, e, n, IsList.grow hk l, RepL.grow hk _ _ a, f⟩
theorem RS.grow {W : Addr → Prop} {env : Env} {names : List Str} {sl : List Slot} {h h' : Heap} (hk : Kept h h') (r : RS W env names sl h) : RS W env names sl h' := fun i x s a b c => by
  obtain ⟨ov, l, q⟩ := r i x s a b c
  exact ⟨ov, l.grow hk, q.grow hk⟩

noncomputable def Ext (s s' : Shared) : Prop := ∃ h tk, s' = { s with heap := h, toks := tk } ∧ Kept s.heap h ∧ (∀ b, h.get? b = none → s.heap.get? b = none) ∧ (∀ H, TB H s.heap → TB H h)
theorem Ext.refl (s : Shared) : Ext s s := ⟨s.heap, s.toks, rfl, fun zq zq e zq => e, fun zq e => e, fun zq x => x⟩
theorem Ext.trans {a b c : Shared} (x : Ext a b) (y : Ext b c) : Ext a c := by
  obtain ⟨h, t, rfl, k, n, w⟩ := x
  obtain ⟨h', t', rfl, k', n', w'⟩ := y
  exact ⟨h', t', rfl, fun b o e s => k' b o (k b o e s) s, fun b e => n b (n' b e), fun H x => w' H (w H x)⟩
theorem Ext.kept {a b : Shared} (x : Ext a b) : Kept a.heap b.heap := by obtain ⟨h, t, rfl, k, _⟩ := x; exact k
theorem Ext.gone {a b : Shared} (x : Ext a b) {d : Addr} (e : b.heap.get? d = Option.none) : a.heap.get? d = Option.none := by obtain ⟨h, t, rfl, k, n, _⟩ := x; exact n d e
theorem Ext.tb {H : Heap} {a b : Shared} (x : Ext a b) : TB H a.heap → TB H b.heap := by obtain ⟨h, t, rfl, k, _, w⟩ := x; exact w H
theorem none_full {h h' : Heap} (k : FKept h h') (b : Addr) (e : h'.get? b = Option.none) : h.get? b = Option.none := by
  cases q : h.get? b with
  | none => rfl
  | some o => rw [k b o q] at e; cases e
theorem Ext.tok {s : Shared} {t : Nat} : Ext s { s with toks := t } := ⟨s.heap, t, rfl, fun zq zq e zq => e, fun zq e => e, fun zq x => x⟩
theorem Ext.of {s : Shared} {h : Heap} {t : Nat} (k : FKept s.heap h) : Ext s { s with heap := h, toks := t } := ⟨h, t, rfl, k.kept, none_full k, fun zq x => x.keeps k⟩
theorem Ext.some {a b : Shared} (x : Ext a b) {d : Addr} (e : (a.heap.get? d).isSome = true) : (b.heap.get? d).isSome = true := by
  cases q : b.heap.get? d with
  | none => rw [x.gone q] at e; cases e
  | some o => rfl
theorem Base.ext {G : Gl} {W : Addr → Prop} {s s' : Shared} (b : Base G W s) (x : Ext s s') : Base G W s' :=
  ⟨fun a o e h => x.kept a o (b.keep a o e h) h, fun a e => b.gone a (x.gone e), x.tb b.tb, fun a w => ⟨x.some (b.above a w).1, (b.above a w).2⟩⟩
theorem get_size (h : Heap) : h.get? h.objs.size = none := by
  cases e : h.get? h.objs.size with
  | none => rfl
  | some o => exact absurd (Heap.lt_size e) (Nat.lt_irrefl _)
theorem Base.new {G : Gl} {W : Addr → Prop} {s : Shared} (b : Base G W s) {a : Addr} (h : s.heap.get? a = none) : ¬ W a := fun w => by
  have := (b.above a w).1
  rw [h] at this; cases this
theorem Base.fresh {G : Gl} {W : Addr → Prop} {s : Shared} (b : Base G W s) {a : Addr} (h : s.heap.objs.size ≤ a) : ¬ W a := b.new (by
  cases e : s.heap.get? a with
  | none => rfl
  | some o => exact absurd (Heap.lt_size e) (Nat.not_lt.mpr h))
end Mine
end

section
open PySem PySem.W PyProof.Rows
set_option Elab.async false
set_option tactic.hygienic false
set_option maxRecDepth 100000
set_option exponentiation.threshold 5000
namespace Mine

noncomputable def Slot.read : Slot → Option AV
  | .unset => none
  | .val x => some x
  | .mls xs => some (.mut xs)
  | .mgr rows => some (.mut (rows.map .mut))
  | .scr xs => some (.view xs)

noncomputable def truth : AV → Option Bool
  | .none => some false
  | .bool b => some b
  | .int i => some (i != 0)
  | .str s => if s.length < 1000000 then some (!(s.length == 0)) else none
  | .lst xs | .mut xs | .view xs => if xs.length < 1000000 then some (!xs.isEmpty) else none
  | .tup _ => none

noncomputable def EvS (G : Gl) (W : Addr → Prop) (k : Nat) (names : List Str) (sc : List (Str × NameKind)) (ex : Expr) (f : List Slot → Option AV) : Prop :=
  ∀ (A : Around) (env : Env) (s : Shared) (sl : List Slot), Room A k → EnvF env sc → RS W env names sl s.heap → Base G W s → ∀ av, f sl = some av →
    ∀ Q : Value → Shared → Prop, (∀ v s', Ext s s' → RepV W s'.heap av v → Q v s') → wpAny G.M A (eval ex env) Q (fun zq zq => False) s

noncomputable def TsS (G : Gl) (W : Addr → Prop) (k : Nat) (names : List Str) (sc : List (Str × NameKind)) (ex : Expr) (f : List Slot → Option AV) : Prop :=
  ∀ (A : Around) (env : Env) (s : Shared) (sl : List Slot), Room A k → EnvF env sc → RS W env names sl s.heap → Base G W s → ∀ av b, f sl = some av → truth av = some b →
    ∀ Q : Bool → Shared → Prop, (∀ s', Ext s s' → Q b s') → wpAny G.M A (PySem.isTrue ex env (eval ex env)) Q (fun zq zq => False) s

section
variable {G : Gl} {W : Addr → Prop} {k : Nat} {names : List Str} {sc : List (Str × NameKind)}

theorem RepRows.mut {h : Heap} : ∀ {rows : List (List AV)} {ds : List Addr}, RepRows W h rows ds → RepL W h (rows.map .mut) (ds.map Value.ref)
  | [], _, r => by rw [show _ = [] from r]; rfl
  | r :: rs, _, ⟨d, q, vs, e, l, a, b⟩ => ⟨.ref d, q.map Value.ref, by rw [e]; rfl, ⟨d, vs, rfl, l, a⟩, RepRows.mut b⟩

theorem SlotRep.read {h : Heap} {s : Slot} {ov : Option Value} {av : AV} (r : SlotRep W h s ov) (e : s.read = some av) : ∃ v, ov = some v ∧ RepV W h av v := by
  cases s with
  | unset => cases e
  | val x => cases e; obtain ⟨v, a, b, _⟩ := r; exact ⟨v, a, b⟩
  | mls xs => cases e; obtain ⟨d, vs, a, b, c, _⟩ := r; exact ⟨_, a, d, vs, rfl, b, c⟩
  | mgr rows => cases e; obtain ⟨d, ds, a, b, c, _⟩ := r; exact ⟨_, a, d, _, rfl, b, c.mut⟩
  | scr xs => cases e; obtain ⟨d, vs, a, n, b, c, _⟩ := r; exact ⟨_, a, d, vs, rfl, b, c⟩

theorem EvS.var {i : Nat} {x : Str} {p : Pos} (hx : names[i]? = some x) (hd : (x == ("__debug__" : Str)) = false) (hc : (x == ("__classdict__" : Str)) = false) :
    EvS G W k names sc (.Name x p) (fun sl => (sl[i]?).bind Slot.read) := by
  intro A env s sl ro ef rs ba av hf Q hQ
  obtain ⟨sv, h1, h2⟩ := Option.bind_eq_some_iff.mp hf
  obtain ⟨ov, l, r⟩ := rs i x sv hx h1 (fun e => by rw [e] at h2; cases h2)
  obtain ⟨v, rfl, rv⟩ := r.read h2
  refine wpAny_Name ?_ hd
  rcases l with ⟨a, m, n, e⟩ | ⟨a | a, c, b, n⟩
  · exact wpAny_loadName_local ef.kind a n e (hQ v s (.refl s) rv)
  · exact wpAny_loadName_cell ef.kind a b n (hQ v s (.refl s) rv)
  · exact wpAny_loadName_free ef.kind a b n (hQ v s (.refl s) rv) hc

theorem EvS.int {i : Int} {kd : Nat} {p : Pos} : EvS G W k names sc (.Constant (.int i) kd p) (fun zq => some (.int i)) := by
  intro A env s sl ro ef rs ba av hf Q hQ
  cases hf
  exact wpAny_Constant_int (hQ _ _ .tok ⟨_, rfl⟩)
theorem EvS.bool {b : Bool} {kd : Nat} {p : Pos} : EvS G W k names sc (.Constant (.bool b) kd p) (fun zq => some (.bool b)) := by
  intro A env s sl ro ef rs ba av hf Q hQ
  cases hf
  exact Constant_bool (hQ _ _ (.refl s) rfl)
theorem EvS.none {kd : Nat} {p : Pos} : EvS G W k names sc (.Constant .none kd p) (fun zq => some .none) := by
  intro A env s sl ro ef rs ba av hf Q hQ
  cases hf
  exact Constant_none (hQ _ _ (.refl s) rfl)
theorem EvS.str {x : Str} {kd : Nat} {p : Pos} : EvS G W k names sc (.Constant (.str x) kd p) (fun zq => some (.str x)) := by
  intro A env s sl ro ef rs ba av hf Q hQ
  cases hf
  show wpAny _ _ (mkText x) _ _ _
  exact wpAny_mkText (hQ _ _ .tok ⟨_, rfl⟩)

theorem load_global {A : Around} {env : Env} {s : Shared} {g : Str} {v : Value} {Q : Value → Shared → Prop} {E : Value → Shared → Prop} (ef : EnvF env sc) (ba : Base G W s) (hg : sc.lookup g = some .globalImplicit) (hv : G.mg g = some v) (h : Q v s) :
    wpAny G.M A (loadName env g) Q E s := by
  refine ks_loadName_global ef.kind (ef.glob g hg) ?_
  unfold loadGlobal
  rw [ef.globals]
  refine wpAny_bind (wpAny_nsGet (Ns.keepsK G.top.g ba.keep) ?_)
  rw [hv]
  exact wpAny_pure h
theorem load_builtin {A : Around} {env : Env} {s : Shared} {g : Str} {v : Value} {Q : Value → Shared → Prop} {E : Value → Shared → Prop} (ef : EnvF env sc) (ba : Base G W s) (hg : sc.lookup g = some .globalImplicit) (hn : G.mg g = none) (hne : g ≠ "__name__") (hv : bootBuiltins g = some v) (h : Q v s) :
    wpAny G.M A (loadName env g) Q E s := by
  refine ks_loadName_global ef.kind (ef.glob g hg) ?_
  unfold loadGlobal
  rw [ef.globals]
  refine wpAny_bind (wpAny_nsGet (Ns.keepsK G.top.g ba.keep) ?_)
  rw [hn]
  dsimp only
  rw [ef.builtins]
  refine wpAny_bind (wpAny_nsGet (Ns.keepsK G.top.b ba.keep) ?_)
  rw [G.top.builtins g hne, hv]
  exact wpAny_pure h

theorem EvS.gint {g : Str} {i : Int} {p : Pos} (hg : sc.lookup g = some .globalImplicit) (hv : valOf G.q g = some (.int i)) (hd : (g == ("__debug__" : Str)) = false) :
    EvS G W k names sc (.Name g p) (fun zq => some (.int i)) := by
  intro A env s sl ro ef rs ba av hf Q hQ
  cases hf
  obtain ⟨v, hm, hr⟩ := G.top.const g _ hv
  have hr := hr s.heap
  cases hr
  exact wpAny_Name (load_global ef ba hg hm (hQ _ _ (.refl s) ⟨_, rfl⟩)) hd

noncomputable def BIG : Nat := 2 ^ 4000
noncomputable def small (a : Int) : Bool := decide (a.natAbs < BIG)
theorem small_bits {a : Int} (h : small a = true) : Builtin.Int.intBits a ≤ 4000 := intBits_le (k := 4000) (by have h : a.natAbs < BIG := of_decide_eq_true h; unfold BIG at h; exact h)
theorem small_pylong {a b : Int} (h : small b = true) : Builtin.divisionGoesByPylong a b = false := by
  refine PyProof.noPylong_of_log2 ?_
  have h : b.natAbs < BIG := of_decide_eq_true h
  by_cases h0 : b.natAbs = 0
  · rw [h0]; decide +kernel
  · have := (Nat.log2_lt (k := 4000) h0).mpr (by unfold BIG at h; exact h)
    lia
theorem small_mul {a b : Int} (ha : small a = true) (hb : small b = true) : IntMulOk a b := by
  have h1 := small_bits ha
  have h2 := small_bits hb
  have : Builtin.Int.intTooBig ((Builtin.Int.intBits a : Int) + (Builtin.Int.intBits b : Int)) = false := by
    unfold Builtin.Int.intTooBig bitsLine
    exact decide_eq_false (by lia)
  unfold IntMulOk
  rw [this]; simp
end

noncomputable def AV.seq? : AV → Option (List AV)
  | .lst xs | .mut xs => some xs
  | _ => Option.none

noncomputable def intBin (op : Operator) (x y : Int) : Option Int := match op with
  | .Add => some (x + y)
  | .Sub => some (x - y)
  | .Mult => if small x && small y then some (x * y) else none
  | .FloorDiv => if y ≠ 0 ∧ small y = true then some (x.fdiv y) else none
  | .Mod => if y = 0 then none else some (x.fmod y)
  | .Pow => if small x && decide (0 ≤ y) && decide (y < 4000) then some (x ^ y.toNat) else none
  | .LShift => if small x && decide (0 ≤ y) && decide (y < 10000000) then some (x * 2 ^ y.toNat) else none
  | .RShift => if 0 ≤ y then some (x.fdiv (2 ^ y.toNat)) else none
  | .BitXor => some (Builtin.bitXor x y)
  | .BitAnd => some (Builtin.bitAnd x y)
  | .BitOr => some (Builtin.bitOr x y)
  | _ => none

noncomputable def binV (op : Operator) (a b : AV) : Option AV := match a, b with
  | .int x, .int y => (intBin op x y).map .int
  | a, .int n => match op, a.seq? with
    | .Mult, some xs => if xs.length * n.toNat < 1000000 && decide (n < 1000000) && decide (-1000000 < n) then some (.lst (List.replicate n.toNat xs).flatten) else none
    | _, _ => none
  | a, b => match op, a.seq?, b.seq? with
    | .Add, some xs, some ys => if xs.length + ys.length < 1000000 then some (.lst (xs ++ ys)) else none
    | _, _, _ => none

section
variable {G : Gl} {W : Addr → Prop} {k : Nat} {names : List Str} {sc : List (Str × NameKind)} {A : Around} {s : Shared} {E : Value → Shared → Prop}

theorem RepV.seq {h : Heap} {a : AV} {v : Value} {xs : List AV} (r : RepV W h a v) (e : a.seq? = some xs) : ∃ l vs, v = .ref l ∧ h.PlainList l (List.toArray vs) ∧ RepL W h xs vs := by
  cases a <;> first | (cases e; done) | skip
  · cases e; obtain ⟨l, vs, a, _, b, c⟩ := r; exact ⟨l, vs, a, b, c⟩
  · cases e; obtain ⟨l, vs, a, b, c⟩ := r; exact ⟨l, vs, a, b, c⟩

theorem Ext.push {s : Shared} {o : Obj} : Ext s { s with heap := s.heap.push o } := Ext.of (t := s.toks) fun zq zq e => Heap.get?_push_of_some _ e

theorem intBin_sound {op : Operator} {x y r : Int} {t u : Tok} (e : intBin op x y = some r) {Q : Value → Shared → Prop} (h : Q (.int r s.toks) { s with toks := s.toks + 1 }) :
    wpAny G.M A (binaryOp op (.int x t) (.int y u)) Q E s := by
  cases op <;> simp only [intBin] at e <;> try (cases e; done)
  case Add => cases e; exact PyProof.Rows.add_int h
  case Sub => cases e; exact PyProof.Rows.sub_int h
  case Mult => split at e
               · next q => cases e; rw [Bool.and_eq_true] at q; exact PyProof.Rows.mul_int h (small_mul q.1 q.2)
               · cases e
  case FloorDiv => split at e
                   · next q => cases e; exact PyProof.Rows.floordiv_int q.1 h (Or.inl (small_pylong q.2))
                   · cases e
  case Mod => split at e
              · cases e
              · next q => cases e; exact PyProof.Rows.mod_int' q h
  case Pow => split at e
              · next q =>
                cases e
                simp only [Bool.and_eq_true, decide_eq_true_eq] at q
                have := small_bits q.1.1
                refine PyProof.Rows.pow_int q.1.2 ?_ h
                have h1 : (Builtin.Int.intBits x : Int) * y ≤ 4000 * 4000 := Int.mul_le_mul (by lia) (by lia) q.1.2 (by lia)
                lia
              · cases e
  case LShift => split at e
                 · next q =>
                   cases e
                   simp only [Bool.and_eq_true, decide_eq_true_eq] at q
                   have := small_bits q.1.1
                   exact PyProof.Rows.lshift_int q.1.2 (by lia) h
                 · cases e
  case RShift => split at e
                 · next q => cases e; exact PyProof.Rows.rshift_int q h
                 · cases e
  case BitXor => cases e; exact PyProof.Rows.xor_int h
  case BitAnd => cases e; exact PyProof.Rows.and_int h
  case BitOr => cases e; exact PyProof.Rows.or_int h

theorem foldl_replicate_toArray (vs : List Value) : ∀ n : Nat, List.foldl (fun (x1 x2 : Array Value) => x1 ++ x2) #[] (List.replicate n vs.toArray) = (List.replicate n vs).flatten.toArray := by
  have h : ∀ (n : Nat) (acc : Array Value), List.foldl (fun (x1 x2 : Array Value) => x1 ++ x2) acc (List.replicate n vs.toArray) = acc ++ (List.replicate n vs).flatten.toArray := by
    intro n
    induction n with
    | zero => intro acc; simp
    | succ n ih => intro acc; rw [List.replicate_succ, List.foldl_cons, ih, List.replicate_succ, List.flatten_cons]; simp
  intro n; rw [h]; simp

theorem RepL.replicate {h : Heap} {xs : List AV} {vs : List Value} (r : RepL W h xs vs) : ∀ n : Nat, RepL W h (List.replicate n xs).flatten (List.replicate n vs).flatten
  | 0 => rfl
  | n + 1 => by rw [List.replicate_succ, List.replicate_succ, List.flatten_cons, List.flatten_cons]; exact r.append (r.replicate n)

theorem mul_list0 {l : Addr} {items : Array Value} {k : Nat} {x : Int} {u : Tok} {Q : Value → Shared → Prop}
    (hl : s.heap.get? l = some { cls := .type "list", dict := none, data := .seq items k, slots := #[] })
    (hlo : -(2 ^ 63 : Int) ≤ x) (hhi : x < 2 ^ 63) (hsz : items.size * x.toNat ≤ 2 ^ 24)
    (h : Q (.ref s.heap.objs.size) { s with heap := s.heap.push { cls := .type "list", data := .seq (List.foldl (fun x1 x2 => x1 ++ x2) #[] (List.replicate (if items.isEmpty = true then 0 else x.toNat) items)) } }) :
    wpAny (model prog w) A (binaryOp .Mult (.ref l) (.int x u)) Q E s :=
  wpAny_binaryOp_repeat_ref (T := "list") (U := "int") (by decide) ⟨_, hl, rfl⟩ (fun s' => typeIs_int s' x u) noFill_list_mul F.fills_int_mul F.slot_int_rmul repeat_list F.slot_int_index.lookup
    (call_meets F.slot_int_rmul (typeIs_int s x u) F.entry_int_rmul (F.args_int_rmul_2 _ _) (int___rmul___int_list x u l items k)
      ⟨hl, rfl, ⟨_, hl, rfl⟩, call_meets F.slot_list_mul ⟨_, hl, rfl⟩ F.entry_list_mul (F.args_list_mul_2 _ _)
        (AutoListH.list___mul___list_int_3 l items k x u (by simp [Builtin.List.listFitsIndex]; lia) (by lia) (by simp [Builtin.List.listTooLong, sizeLine]; lia))
        ⟨hl, h⟩⟩)

set_option tactic.hygienic true in
theorem bin_sound {op : Operator} {a b av : AV} {va vb : Value} (e : binV op a b = some av) (ba : Base G W s) (ra : RepV W s.heap a va) (rb : RepV W s.heap b vb) {Q : Value → Shared → Prop}
    (hQ : ∀ v s', Ext s s' → RepV W s'.heap av v → Q v s') : wpAny G.M A (binaryOp op va vb) Q E s := by
  unfold binV at e
  split at e
  · next x y =>
    obtain ⟨r, h1, h2⟩ := Option.map_eq_some_iff.mp e
    subst h2
    obtain ⟨t, rfl⟩ := ra
    obtain ⟨u, rfl⟩ := rb
    exact intBin_sound h1 (hQ _ _ .tok ⟨_, rfl⟩)
  · next n _ =>
    obtain ⟨u, rfl⟩ := rb
    split at e
    · next xs hx =>
      split at e
      · next q =>
        cases e
        simp only [Bool.and_eq_true, decide_eq_true_eq] at q
        obtain ⟨l, vs, rfl, ⟨kk, hl⟩, r⟩ := ra.seq hx
        have hlen := r.length
        refine mul_list0 hl (by lia) (by lia) (by rw [List.size_toArray, hlen]; lia) (hQ _ _ .push ?_)
        refine ⟨_, (List.replicate n.toNat vs).flatten, rfl, ba.fresh (Nat.le_refl _), ⟨0, ?_⟩, (r.grow (Ext.push (s := s)).kept).replicate _⟩
        rw [Heap.get?_push_size _ rfl]
        congr 3
        by_cases hv : vs = []
        · subst hv; simp
        · rw [if_neg (by simpa using hv), foldl_replicate_toArray]
      · cases e
    · cases e
  · split at e
    · next xs ys hx hy =>
      split at e
      · next q =>
        cases e
        obtain ⟨l, vs, rfl, ⟨kk, hl⟩, r⟩ := ra.seq hx
        obtain ⟨m, us, rfl, ⟨km, hm⟩, r'⟩ := rb.seq hy
        have hlen := r.length
        have hlen' := r'.length
        refine P.add_list hl hm (hQ _ _ .push ?_) (by rw [List.size_toArray, List.size_toArray, hlen, hlen', sizeLine_eq]; lia)
        refine ⟨_, vs ++ us, rfl, ba.fresh (Nat.le_refl _), ⟨0, ?_⟩, (r.grow (Ext.push (s := s)).kept).append (r'.grow (Ext.push (s := s)).kept)⟩
        rw [Heap.get?_push_size _ rfl]
        simp
      · cases e
    · cases e

theorem EvS.bin {l r : Expr} {op : Operator} {p : Pos} {f g : List Slot → Option AV} (hl : EvS G W k names sc l f) (hr : EvS G W k names sc r g) :
    EvS G W k names sc (.BinOp l op r p) (fun sl => (f sl).bind fun a => (g sl).bind fun b => binV op a b) := by
  intro A env s sl ro ef rs ba av hf Q hQ
  obtain ⟨a, h1, hf⟩ := Option.bind_eq_some_iff.mp hf
  obtain ⟨b, h2, h3⟩ := Option.bind_eq_some_iff.mp hf
  refine wpAny_BinOp (hl A env s sl ro ef rs ba a h1 _ fun va s₁ x₁ r₁ => ?_)
  refine hr A env s₁ sl ro ef (rs.grow x₁.kept) (ba.ext x₁) b h2 _ fun vb s₂ x₂ r₂ => ?_
  exact bin_sound h3 (ba.ext (x₁.trans x₂)) (r₁.grow x₂.kept) r₂ fun v s' x r => hQ v s' ((x₁.trans x₂).trans x) r
end
end Mine
end

section
open PySem PySem.W PyProof.Rows
set_option Elab.async false
set_option tactic.hygienic false
set_option maxRecDepth 100000


namespace Mine

mutual
noncomputable def AV.py : AV → PyData
  | .none => .none
  | .bool b => .bool b
  | .int i => .int i
  | .str s => .str s
  | .tup xs => .tuple (pyL xs)
  | .lst xs | .mut xs | .view xs => .list (pyL xs)
noncomputable def pyL : List AV → List PyData
  | [] => []
  | x :: xs => x.py :: pyL xs
end

mutual
theorem RepV.reads {W : Addr → Prop} {h : Heap} : ∀ (x : AV) (v : Value), RepV W h x v → ∃ as, Reads h v x.py as
  | .none, _, r => by rw [show _ = Value.none from r]; exact ⟨_, .none⟩
  | .bool b, _, r => by rw [show _ = Value.bool b from r]; exact ⟨_, .bool b⟩
  | .int i, _, ⟨t, e⟩ => by rw [e]; exact ⟨_, .int i t⟩
  | .str s, _, ⟨t, e⟩ => by rw [e]; exact ⟨_, .str s t⟩
  | .tup xs, _, ⟨a, vs, e, _, ⟨o, ho, hc, n, hd⟩, r⟩ => by
    obtain ⟨as, q⟩ := RepL.reads xs vs r
    rw [e]; exact ⟨_, .tuple ho hc hd q⟩
  | .lst xs, _, ⟨a, vs, e, _, ⟨n, ho⟩, r⟩ => by
    obtain ⟨as, q⟩ := RepL.reads xs vs r
    rw [e]; exact ⟨_, .list ho rfl rfl q⟩
  | .mut xs, _, ⟨a, vs, e, ⟨n, ho⟩, r⟩ => by
    obtain ⟨as, q⟩ := RepL.reads xs vs r
    rw [e]; exact ⟨_, .list ho rfl rfl q⟩
  | .view xs, _, ⟨a, vs, e, ⟨o, ho, hc, n, hd⟩, r⟩ => by
    obtain ⟨as, q⟩ := RepL.reads xs vs r
    rw [e]; exact ⟨_, .list ho hc hd q⟩
theorem RepL.reads {W : Addr → Prop} {h : Heap} : ∀ (xs : List AV) (vs : List Value), RepL W h xs vs → ∃ as, ReadsAll h vs (pyL xs) as
  | [], _, r => by rw [show _ = [] from r]; exact ⟨_, .nil⟩
  | x :: xs, _, ⟨v, q, e, a, b⟩ => by
    obtain ⟨as, r1⟩ := RepV.reads x v a
    obtain ⟨bs, r2⟩ := RepL.reads xs q b
    rw [e]; exact ⟨_, .cons r1 r2⟩
end

noncomputable def asInts : List AV → Option (List Int)
  | [] => some []
  | .int i :: r => (asInts r).map (i :: ·)
  | _ :: _ => none
theorem RepL.ints {W : Addr → Prop} {h : Heap} (xs : List AV) : ∀ (vs : List Value) (ns : List Int), RepL W h xs vs → asInts xs = some ns → IntsAre vs ns := by
  induction xs with
  | nil => intro vs ns r e; rw [show vs = [] from r]; cases e; exact .nil
  | cons x xs ih =>
    intro vs ns r e
    obtain ⟨v, q, e', a, b⟩ := r
    cases x with
    | int i =>
      obtain ⟨t, a⟩ := a
      obtain ⟨ms, h1, h2⟩ := Option.map_eq_some_iff.mp e
      subst h2
      rw [e', a]
      exact .cons i t (ih q ms b h1)
    | _ => cases e
theorem asInts_map (ns : List Int) : asInts (ns.map .int) = some ns := by
  induction ns with
  | nil => rfl
  | cons n ns ih => simp [asInts, ih]

noncomputable def AV.any? : AV → Option (List AV)
  | .lst xs | .mut xs | .view xs => some xs
  | _ => Option.none
theorem RepV.anyList {W : Addr → Prop} {h : Heap} {a : AV} {v : Value} {xs : List AV} (r : RepV W h a v) (e : a.any? = some xs) : ∃ l vs, v = .ref l ∧ h.IsList l (List.toArray vs) ∧ RepL W h xs vs := by
  cases a
  case lst => cases e; obtain ⟨l, vs, a, _, ⟨n, b⟩, c⟩ := r; exact ⟨l, vs, a, ⟨_, b, rfl, n, rfl⟩, c⟩
  case «mut» => cases e; obtain ⟨l, vs, a, ⟨n, b⟩, c⟩ := r; exact ⟨l, vs, a, ⟨_, b, rfl, n, rfl⟩, c⟩
  case view => cases e; obtain ⟨l, vs, a, b, c⟩ := r; exact ⟨l, vs, a, b, c⟩
  all_goals (simp [AV.any?] at e)

theorem isEmpty_of_length {α β : Type} {a : List α} {b : List β} (h : a.length = b.length) : a.isEmpty = b.isEmpty := by
  cases a <;> cases b <;> first | rfl | (simp at h)

noncomputable def eqV (a b : AV) : Option Bool := match a, b with
  | .int x, .int y => some (x == y)
  | .str x, .str y => some (x == y)
  | .bool x, .bool y => some (x == y)
  | a, b => if a.py.canLay0 && b.py.canLay0 && decide (a.py.depth < 500) then some (PyData.eqv a.py b.py) else none
noncomputable def intsV (f : Int → Int → Bool) (a b : AV) : Option Bool := match a, b with
  | .int x, .int y => some (f x y)
  | _, _ => none
noncomputable def isNotV (a b : AV) : Option Bool := match b with
  | .none => (match a with
    | .none => some false
    | .str _ => some true
    | _ => none)
  | _ => none
noncomputable def inV (a b : AV) : Option Bool := match a with
  | .int x => (b.any?.bind asInts).map fun ns => ns.any (· == x)
  | _ => none
noncomputable def cmpV (op : CmpOp) (a b : AV) : Option Bool := match op with
  | .Eq => eqV a b
  | .NotEq => (eqV a b).map (!·)
  | .Lt => intsV (fun x y => decide (x < y)) a b
  | .LtE => intsV (fun x y => decide (x ≤ y)) a b
  | .Gt => intsV (fun x y => decide (y < x)) a b
  | .GtE => intsV (fun x y => decide (y ≤ x)) a b
  | .IsNot => isNotV a b
  | .In => inV a b
  | .NotIn => (inV a b).map (!·)
  | _ => none
theorem intsV_some {f : Int → Int → Bool} {a b : AV} {c : Bool} (e : intsV f a b = some c) : ∃ x y, a = .int x ∧ b = .int y ∧ c = f x y := by
  unfold intsV at e
  split at e
  · cases e; exact ⟨_, _, rfl, rfl, rfl⟩
  · cases e

section
variable {G : Gl} {W : Addr → Prop} {k : Nat} {names : List Str} {sc : List (Str × NameKind)} {A : Around} {s : Shared} {E : Value → Shared → Prop}

theorem Room.cLine {A : Around} {k : Nat} (r : Room A k) : A.units < PySem.cLine := by have := r.units; unfold PySem.cLine; lia

theorem eq_sound {a b : AV} {c : Bool} {va vb : Value} (ro : Room A k) (e : eqV a b = some c) (ra : RepV W s.heap a va) (rb : RepV W s.heap b vb) :
    (∀ Q : Value → Shared → Prop, Q (.bool c) s → wpAny G.M A (compareOp .Eq va vb) Q E s) ∧ ∀ Q : Value → Shared → Prop, Q (.bool (!c)) s → wpAny G.M A (compareOp .NotEq va vb) Q E s := by
  unfold eqV at e
  split at e
  · cases e; obtain ⟨t, rfl⟩ := ra; obtain ⟨u, rfl⟩ := rb; exact ⟨fun Q => PyProof.Rows.eq_int, fun Q => PyProof.Rows.ne_int⟩
  · cases e; obtain ⟨t, rfl⟩ := ra; obtain ⟨u, rfl⟩ := rb; exact ⟨fun Q => PyProof.Rows.eq_str, fun Q => PyProof.Rows.ne_str⟩
  · cases e; rw [show va = _ from ra, show vb = _ from rb]; exact ⟨fun Q => PyProof.Rows.eq_bool, fun Q => PyProof.Rows.ne_bool⟩
  · split at e
    · next q =>
      cases e
      simp only [Bool.and_eq_true, decide_eq_true_eq] at q
      obtain ⟨as, r1⟩ := ra.reads
      obtain ⟨bs, r2⟩ := rb.reads
      have hm : A.units + min a.py.depth b.py.depth < cLine := by
        have := ro.units
        have h2 := Nat.min_le_left a.py.depth b.py.depth
        have h3 := q.2
        unfold cLine
        lia
      exact ⟨fun Q h => SeqAt.compareEq_reads r1 r2 q.1.1 q.1.2 hm h, fun Q h => SeqAt.compareNe_reads r1 r2 q.1.1 q.1.2 hm h⟩
    · cases e
theorem cmp_sound {op : CmpOp} {a b : AV} {c : Bool} {va vb : Value} (ro : Room A k) (e : cmpV op a b = some c) (ra : RepV W s.heap a va) (rb : RepV W s.heap b vb) {Q : Value → Shared → Prop}
    (h : Q (.bool c) s) : wpAny G.M A (compareOp op va vb) Q E s := by
  cases op <;> first | (cases e; done) | skip
  case Eq => exact (eq_sound ro e ra rb).1 Q h
  case NotEq =>
    obtain ⟨c', e2, rfl⟩ := Option.map_eq_some_iff.mp (show (eqV a b).map (!·) = some c from e)
    exact (eq_sound ro e2 ra rb).2 Q h
  case Lt => obtain ⟨x, y, rfl, rfl, rfl⟩ := intsV_some e; obtain ⟨t, rfl⟩ := ra; obtain ⟨u, rfl⟩ := rb; exact PyProof.Rows.lt_int h
  case LtE => obtain ⟨x, y, rfl, rfl, rfl⟩ := intsV_some e; obtain ⟨t, rfl⟩ := ra; obtain ⟨u, rfl⟩ := rb; exact PyProof.Rows.le_int h
  case Gt => obtain ⟨x, y, rfl, rfl, rfl⟩ := intsV_some e; obtain ⟨t, rfl⟩ := ra; obtain ⟨u, rfl⟩ := rb; exact PyProof.Rows.gt_int h
  case GtE => obtain ⟨x, y, rfl, rfl, rfl⟩ := intsV_some e; obtain ⟨t, rfl⟩ := ra; obtain ⟨u, rfl⟩ := rb; exact PyProof.Rows.ge_int h
  case IsNot =>
    cases b <;> first | (cases e; done) | skip
    cases a <;> first | (cases e; done) | skip
    · cases e; rw [show va = _ from ra, show vb = _ from rb]; exact isNot_none h
    · cases e; obtain ⟨t, rfl⟩ := ra; rw [show vb = _ from rb]; exact isNot_none h
  case In =>
    cases a <;> first | (cases e; done) | skip
    obtain ⟨ns, h1, rfl⟩ := Option.map_eq_some_iff.mp e
    obtain ⟨xs, h2, h3⟩ := Option.bind_eq_some_iff.mp h1
    obtain ⟨t, rfl⟩ := ra
    obtain ⟨l, vs, rfl, hl, r⟩ := rb.anyList h2
    exact in_list_ints hl (r.ints _ _ _ h3) h
  case NotIn =>
    obtain ⟨c', e2, e3⟩ := Option.map_eq_some_iff.mp (show (inV a b).map (!·) = some c from e)
    subst e3
    clear e
    have e := e2
    clear e2
    cases a <;> first | (cases e; done) | skip
    obtain ⟨ns, h1, rfl⟩ := Option.map_eq_some_iff.mp e
    obtain ⟨xs, h2, h3⟩ := Option.bind_eq_some_iff.mp h1
    obtain ⟨t, rfl⟩ := ra
    obtain ⟨l, vs, rfl, hl, r⟩ := rb.anyList h2
    exact notin_list_ints hl (r.ints _ _ _ h3) h

set_option tactic.hygienic true in
theorem truth_sound {a : AV} {c : Bool} {v : Value} (e : truth a = some c) (r : RepV W s.heap a v) {Q : Bool → Shared → Prop} (h : ∀ s', Ext s s' → Q c s') : wpAny G.M A (truthy v) Q E s := by
  cases a
  case none => cases e; rw [show v = _ from r]; exact truthy_none (h _ (.refl s))
  case bool b => cases e; rw [show v = _ from r]; exact wpAny_truthy_bool (h _ (.refl s))
  case int i => cases e; obtain ⟨t, rfl⟩ := r; exact PyProof.Rows.truthy_int (h _ (.refl s))
  case str x =>
    simp only [truth] at e
    split at e
    · next q =>
      cases e
      obtain ⟨t, rfl⟩ := r
      refine PySem.P.truthy_str (by lia) ?_
      have : ((x.length : Int) != 0) = !(x.length == 0) := by
        cases hx : x.length with
        | zero => rfl
        | succ n => rw [Bool.eq_iff_iff]; simp; lia
      rw [this]; exact h _ .tok
    · cases e
  case tup xs => cases e
  all_goals
    simp only [truth] at e
    split at e
    · next q =>
      cases e
      obtain ⟨l, vs, rfl, hl, rr⟩ := r.anyList rfl
      have hlen := rr.length
      refine wpAny_truthy_list hl (by rw [List.size_toArray, hlen]; lia) ?_
      rw [List.isEmpty_toArray, isEmpty_of_length hlen]; exact h _ .tok
    · cases e

theorem TsS.value {ex : Expr} {f : List Slot → Option AV} (he : EvS G W k names sc ex f) (hp : ∀ env whole, PySem.isTrue ex env whole = (do let v ← whole; standAt ex.pos; holding [v] (truthy v))) : TsS G W k names sc ex f := by
  intro A env s sl ro ef rs ba av b hf ht Q hQ
  refine wpAny_isTrue_value (he A env s sl ro ef rs ba av hf _ fun v s₁ x r => ?_) (hp _ _)
  exact truth_sound ht r fun s' x' => hQ s' (x.trans x')

theorem EvS.cmp {l r : Expr} {op : CmpOp} {p : Pos} {f g : List Slot → Option AV} (hl : EvS G W k names sc l f) (hr : EvS G W k names sc r g) (hm : behindInMarks op r = false) :
    EvS G W k names sc (.Compare l [op] [r] p) (fun sl => (f sl).bind fun a => (g sl).bind fun b => (cmpV op a b).map .bool) := by
  intro A env s sl ro ef rs ba av hf Q hQ
  obtain ⟨a, h1, hf⟩ := Option.bind_eq_some_iff.mp hf
  obtain ⟨b, h2, hf⟩ := Option.bind_eq_some_iff.mp hf
  obtain ⟨c, h3, rfl⟩ := Option.map_eq_some_iff.mp hf
  refine wpAny_Compare1 (hl A env s sl ro ef rs ba a h1 _ fun va s₁ x₁ r₁ => ?_) hm
  refine hr A env s₁ sl ro ef (rs.grow x₁.kept) (ba.ext x₁) b h2 _ fun vb s₂ x₂ r₂ => ?_
  exact cmp_sound ro h3 (r₁.grow x₂.kept) r₂ (hQ _ _ (x₁.trans x₂) rfl)
theorem TsS.cmp {l r : Expr} {op : CmpOp} {p : Pos} {f g : List Slot → Option AV} (hl : EvS G W k names sc l f) (hr : EvS G W k names sc r g) (hm : behindInMarks op r = false) :
    TsS G W k names sc (.Compare l [op] [r] p) (fun sl => (f sl).bind fun a => (g sl).bind fun b => (cmpV op a b).map .bool) := by
  intro A env s sl ro ef rs ba av bb hf ht Q hQ
  obtain ⟨a, h1, hf⟩ := Option.bind_eq_some_iff.mp hf
  obtain ⟨b, h2, hf⟩ := Option.bind_eq_some_iff.mp hf
  obtain ⟨c, h3, rfl⟩ := Option.map_eq_some_iff.mp hf
  cases ht
  refine wpAny_isTrue_Compare1 (hl A env s sl ro ef rs ba a h1 _ fun va s₁ x₁ r₁ => ?_) hm
  refine hr A env s₁ sl ro ef (rs.grow x₁.kept) (ba.ext x₁) b h2 _ fun vb s₂ x₂ r₂ => ?_
  exact cmp_sound ro h3 (r₁.grow x₂.kept) r₂ (wpAny_truthy_bool (hQ _ (x₁.trans x₂)))

noncomputable def unV (op : UnaryOp) (a : AV) : Option AV := match op, a with
  | .USub, .int x => some (.int (-x))
  | .Invert, .int x => some (.int (Builtin.bitNot x))
  | .Not, a => (truth a).map fun b => .bool (!b)
  | _, _ => none
theorem un_sound {op : UnaryOp} {a av : AV} {v : Value} (e : unV op a = some av) (r : RepV W s.heap a v) {Q : Value → Shared → Prop} (hQ : ∀ v s', Ext s s' → RepV W s'.heap av v → Q v s') :
    wpAny G.M A (unaryOp op v) Q E s := by
  unfold unV at e
  split at e
  · cases e; obtain ⟨t, rfl⟩ := r; exact PyProof.Rows.neg_int (hQ _ _ .tok ⟨_, rfl⟩)
  · cases e; obtain ⟨t, rfl⟩ := r; exact PyProof.Rows.invert_int (hQ _ _ .tok ⟨_, rfl⟩)
  · obtain ⟨b, h1, rfl⟩ := Option.map_eq_some_iff.mp e
    exact not_of (truth_sound h1 r fun s' x => hQ _ s' x rfl)
  · cases e
theorem EvS.un {x : Expr} {op : UnaryOp} {p : Pos} {f : List Slot → Option AV} (hx : EvS G W k names sc x f) :
    EvS G W k names sc (.UnaryOp op x p) (fun sl => (f sl).bind (unV op)) := by
  intro A env s sl ro ef rs ba av hf Q hQ
  obtain ⟨a, h1, h2⟩ := Option.bind_eq_some_iff.mp hf
  refine UnaryOp_ (hx A env s sl ro ef rs ba a h1 _ fun va s₁ x₁ r₁ => ?_)
  exact un_sound h2 r₁ fun v s' x r => hQ v s' (x₁.trans x) r
theorem TsS.not {x : Expr} {p : Pos} {f : List Slot → Option AV} (hx : TsS G W k names sc x f) :
    TsS G W k names sc (.UnaryOp .Not x p) (fun sl => (f sl).bind (unV .Not)) := by
  intro A env s sl ro ef rs ba av bb hf ht Q hQ
  obtain ⟨a, h1, h2⟩ := Option.bind_eq_some_iff.mp hf
  simp only [unV] at h2
  obtain ⟨b, h3, rfl⟩ := Option.map_eq_some_iff.mp h2
  cases ht
  exact isTrue_not (hx A env s sl ro ef rs ba a b h1 h3 _ fun s' x' => hQ s' x')

noncomputable def andV (f g : List Slot → Option AV) : List Slot → Option AV := fun sl => (f sl).bind fun a => (truth a).bind fun c => if c then g sl else some a
noncomputable def orV (f g : List Slot → Option AV) : List Slot → Option AV := fun sl => (f sl).bind fun a => (truth a).bind fun c => if c then some a else g sl

theorem EvS.or {x y : Expr} {r : List Expr} {p : Pos} {f g : List Slot → Option AV} (hx : EvS G W k names sc x f) (hr : EvS G W k names sc (.BoolOp .Or (y :: r) p) g) :
    EvS G W k names sc (.BoolOp .Or (x :: y :: r) p) (orV f g) := by
  intro A env s sl ro ef rs ba av hf Q hQ
  obtain ⟨a, h1, hf⟩ := Option.bind_eq_some_iff.mp hf
  obtain ⟨c, h2, h3⟩ := Option.bind_eq_some_iff.mp hf
  refine BoolOp_or (hx A env s sl ro ef rs ba a h1 _ fun va s₁ x₁ r₁ => truth_sound h2 r₁ fun s₂ x₂ => ?_)
  cases c with
  | false =>
    rw [if_neg Bool.false_ne_true] at h3 ⊢
    exact hr A env s₂ sl ro ef (rs.grow (x₁.trans x₂).kept) (ba.ext (x₁.trans x₂)) av h3 _ fun v s' x r => hQ v s' ((x₁.trans x₂).trans x) r
  | true =>
    rw [if_pos rfl] at h3 ⊢
    cases h3
    exact hQ _ _ (x₁.trans x₂) (r₁.grow x₂.kept)
theorem EvS.one {op : BoolOp} {x : Expr} {p : Pos} {f : List Slot → Option AV} (hx : EvS G W k names sc x f) : EvS G W k names sc (.BoolOp op [x] p) f :=
  fun A env s sl ro ef rs ba av hf Q hQ => BoolOp_one (hx A env s sl ro ef rs ba av hf Q hQ)
theorem TsS.one {op : BoolOp} {x : Expr} {p : Pos} {f : List Slot → Option AV} (hx : TsS G W k names sc x f) : TsS G W k names sc (.BoolOp op [x] p) f := by
  intro A env s sl ro ef rs ba av b hf ht Q hQ
  have := hx A env s sl ro ef rs ba av b hf ht
  cases op with
  | And =>
    refine isTrue_and (this _ fun s' x' => ?_)
    cases b with
    | true => rw [if_pos rfl]; exact isTrue_and_nil (hQ s' x')
    | false => rw [if_neg Bool.false_ne_true]; exact hQ s' x'
  | Or =>
    refine isTrue_or (this _ fun s' x' => ?_)
    cases b with
    | true => rw [if_pos rfl]; exact hQ s' x'
    | false => rw [if_neg Bool.false_ne_true]; exact isTrue_or_nil (hQ s' x')
theorem TsS.and {x y : Expr} {r : List Expr} {p : Pos} {f g : List Slot → Option AV} (hx : TsS G W k names sc x f) (hr : TsS G W k names sc (.BoolOp .And (y :: r) p) g) :
    TsS G W k names sc (.BoolOp .And (x :: y :: r) p) (andV f g) := by
  intro A env s sl ro ef rs ba av b hf ht Q hQ
  obtain ⟨a, h1, hf⟩ := Option.bind_eq_some_iff.mp hf
  obtain ⟨c, h2, h3⟩ := Option.bind_eq_some_iff.mp hf
  refine isTrue_and (hx A env s sl ro ef rs ba a c h1 h2 _ fun s₁ x₁ => ?_)
  cases c with
  | true =>
    rw [if_pos rfl] at h3 ⊢
    exact hr A env s₁ sl ro ef (rs.grow x₁.kept) (ba.ext x₁) av b h3 ht _ fun s' x => hQ s' (x₁.trans x)
  | false =>
    rw [if_neg Bool.false_ne_true] at h3 ⊢
    cases h3
    rw [h2] at ht; cases ht
    exact hQ _ x₁
theorem TsS.or {x y : Expr} {r : List Expr} {p : Pos} {f g : List Slot → Option AV} (hx : TsS G W k names sc x f) (hr : TsS G W k names sc (.BoolOp .Or (y :: r) p) g) :
    TsS G W k names sc (.BoolOp .Or (x :: y :: r) p) (orV f g) := by
  intro A env s sl ro ef rs ba av b hf ht Q hQ
  obtain ⟨a, h1, hf⟩ := Option.bind_eq_some_iff.mp hf
  obtain ⟨c, h2, h3⟩ := Option.bind_eq_some_iff.mp hf
  refine isTrue_or (hx A env s sl ro ef rs ba a c h1 h2 _ fun s₁ x₁ => ?_)
  cases c with
  | false =>
    rw [if_neg Bool.false_ne_true] at h3 ⊢
    exact hr A env s₁ sl ro ef (rs.grow x₁.kept) (ba.ext x₁) av b h3 ht _ fun s' x => hQ s' (x₁.trans x)
  | true =>
    rw [if_pos rfl] at h3 ⊢
    cases h3
    rw [h2] at ht; cases ht
    exact hQ _ x₁

noncomputable def iteV (t f g : List Slot → Option AV) : List Slot → Option AV := fun sl => (t sl).bind fun a => (truth a).bind fun c => if c then f sl else g sl
theorem EvS.ite {t b o : Expr} {p : Pos} {ft f g : List Slot → Option AV} (ht : TsS G W k names sc t ft) (hb : EvS G W k names sc b f) (ho : EvS G W k names sc o g) :
    EvS G W k names sc (.IfExp t b o p) (iteV ft f g) := by
  intro A env s sl ro ef rs ba av hf Q hQ
  obtain ⟨a, h1, hf⟩ := Option.bind_eq_some_iff.mp hf
  obtain ⟨c, h2, h3⟩ := Option.bind_eq_some_iff.mp hf
  refine IfExp_ (ht A env s sl ro ef rs ba a c h1 h2 _ fun s₁ x₁ => ?_)
  cases c with
  | true =>
    rw [if_pos rfl] at h3 ⊢
    exact hb A env s₁ sl ro ef (rs.grow x₁.kept) (ba.ext x₁) av h3 _ fun v s' x r => hQ v s' (x₁.trans x) r
  | false =>
    rw [if_neg Bool.false_ne_true] at h3 ⊢
    exact ho A env s₁ sl ro ef (rs.grow x₁.kept) (ba.ext x₁) av h3 _ fun v s' x r => hQ v s' (x₁.trans x) r
end
end Mine
end

section
open PySem PySem.W PyProof.Rows
set_option Elab.async false
set_option tactic.hygienic false
set_option maxRecDepth 100000


namespace Mine

noncomputable def notStar : Expr → Bool
  | .Starred .. => false
  | _ => true
theorem starEach_cons {e : Expr} {r : List Expr} {env : Env} (h : notStar e = true) : starEach (e :: r) env = (false, eval e env) :: starEach r env := by
  cases e <;> first | rfl | cases h

noncomputable def EvL (G : Gl) (W : Addr → Prop) (k : Nat) (names : List Str) (sc : List (Str × NameKind)) (es : List Expr) (f : List Slot → Option (List AV)) : Prop :=
  (∀ env pos, ((backTo pos (starEach es env)).any (·.1)) = false) ∧
  ∀ (A : Around) (env : Env) (s : Shared) (sl : List Slot) (pos : Pos), Room A k → EnvF env sc → RS W env names sl s.heap → Base G W s → ∀ avs, f sl = some avs →
    ∀ Q : List Value → Shared → Prop, (∀ vs s', Ext s s' → RepL W s'.heap avs vs → Q vs s') → wpAny G.M A (spliced (backTo pos (starEach es env))) Q (fun zq zq => False) s

noncomputable def consV (f : List Slot → Option AV) (g : List Slot → Option (List AV)) : List Slot → Option (List AV) := fun sl => (f sl).bind fun a => (g sl).map (a :: ·)

section
variable {G : Gl} {W : Addr → Prop} {k : Nat} {names : List Str} {sc : List (Str × NameKind)} {A : Around} {s : Shared} {E : Value → Shared → Prop}

theorem EvL.nil : EvL G W k names sc [] (fun zq => some []) :=
  ⟨fun zq zq => rfl, fun A env s sl pos ro ef rs ba avs hf Q hQ => by cases hf; exact Calls.spliced_nil (hQ [] s (.refl s) rfl)⟩
theorem EvL.cons {e : Expr} {r : List Expr} {f : List Slot → Option AV} {g : List Slot → Option (List AV)} (he : EvS G W k names sc e f) (hr : EvL G W k names sc r g) (hn : notStar e = true) :
    EvL G W k names sc (e :: r) (consV f g) := by
  refine ⟨fun env pos => ?_, fun A env s sl pos ro ef rs ba avs hf Q hQ => ?_⟩
  · rw [starEach_cons hn]
    show (false || (backTo pos (starEach r env)).any (·.1)) = false
    rw [hr.1 env pos]; rfl
  · obtain ⟨a, h1, hf⟩ := Option.bind_eq_some_iff.mp hf
    obtain ⟨as, h2, rfl⟩ := Option.map_eq_some_iff.mp hf
    rw [starEach_cons hn]
    show wpAny _ _ (spliced ((false, eval e env) :: backTo pos (starEach r env))) _ _ _
    refine Calls.spliced_cons (he A env s sl ro ef rs ba a h1 _ fun v s₁ x₁ r₁ => ?_)
    refine hr.2 A env s₁ sl pos ro ef (rs.grow x₁.kept) (ba.ext x₁) as h2 _ fun vs s₂ x₂ r₂ => ?_
    exact hQ _ _ (x₁.trans x₂) ⟨v, vs, rfl, r₁.grow x₂.kept, r₂⟩

theorem EvS.list {es : List Expr} {p : Pos} {g : List Slot → Option (List AV)} (hr : EvL G W k names sc es g) :
    EvS G W k names sc (.List es p) (fun sl => (g sl).bind fun xs => if xs.length < 1000000 then some (.lst xs) else Option.none) := by
  intro A env s sl ro ef rs ba av hf Q hQ
  obtain ⟨xs, h1, hf⟩ := Option.bind_eq_some_iff.mp hf
  split at hf
  · next q =>
    cases hf
    refine List_ (hr.2 A env s sl p ro ef rs ba xs h1 _ fun vs s₁ x₁ r₁ => ?_)
    refine wpAny_newObj_type (hQ _ _ (x₁.trans .push) ⟨_, vs, rfl, (ba.ext x₁).fresh (Nat.le_refl _), ⟨0, Heap.get?_push_size _ rfl⟩, r₁.grow (Ext.push (s := s₁)).kept⟩) ?_
    show vs.toArray.size ≤ sizeLine
    rw [List.size_toArray, r₁.length, sizeLine_eq]; lia
  · cases hf
theorem EvS.tuple {es : List Expr} {kd : Nat} {p : Pos} {g : List Slot → Option (List AV)} (hr : EvL G W k names sc es g) :
    EvS G W k names sc (.Tuple es kd p) (fun sl => (g sl).bind fun xs => if xs.length < 1000000 then some (.tup xs) else Option.none) := by
  intro A env s sl ro ef rs ba av hf Q hQ
  obtain ⟨xs, h1, hf⟩ := Option.bind_eq_some_iff.mp hf
  split at hf
  · next q =>
    cases hf
    refine Tuple_ (hr.2 A env s sl p ro ef rs ba xs h1 _ fun vs s₁ x₁ r₁ => ?_)
    refine wpAny_newObj_type (hQ _ _ (x₁.trans .push) ⟨_, vs, rfl, (ba.ext x₁).fresh (Nat.le_refl _), ⟨_, Heap.get?_push_size _ rfl, rfl, 0, rfl⟩, r₁.grow (Ext.push (s := s₁)).kept⟩) ?_
    show vs.toArray.size ≤ sizeLine
    rw [List.size_toArray, r₁.length, sizeLine_eq]; lia
  · cases hf

noncomputable def idxV (a i : AV) : Option AV := match a, i with
  | .str x, .int j => if decide (-(2 ^ 62) < j) && decide (j < 2 ^ 62) then ((seqIndex? j x.length).bind (x.cps[·]?)).map fun c => .str ⟨#[c]⟩ else none
  | a, .int j => match a.any? with
    | some xs => if decide (0 ≤ j) && decide (j < 2 ^ 62) then xs[j.toNat]? else none
    | none => match a with
      | _ => none
  | _, _ => none

set_option tactic.hygienic true in
theorem idx_sound {value slice : Expr} {a i av : AV} {va vi : Value} (e : idxV a i = some av) (ra : RepV W s.heap a va) (ri : RepV W s.heap i vi)
    (hs : ∀ o i : Value, subscripted slice false o i = operate [o, i] (getItem o i)) {Q : Value → Shared → Prop}
    (hQ : ∀ v s', Ext s s' → RepV W s'.heap av v → Q v s') : wpAny G.M A (subscriptTail value slice va vi) Q E s := by
  unfold idxV at e
  split at e
  · next x j =>
    split at e
    · next q =>
      simp only [Bool.and_eq_true, decide_eq_true_eq] at q
      obtain ⟨c, h1, rfl⟩ := Option.map_eq_some_iff.mp e
      obtain ⟨t, rfl⟩ := ra
      obtain ⟨u, rfl⟩ := ri
      refine tail_any (typeIs_str s x t) F.slot_str_getitem.lookup (P.getItem_str ?_ h1 (hQ _ _ .tok ⟨_, rfl⟩)) (hs _ _)
      simp only [Bool.or_eq_false_iff, decide_eq_false_iff_not]
      lia
    · cases e
  · next j _ =>
    obtain ⟨u, rfl⟩ := ri
    split at e
    · next xs hx =>
      split at e
      · next q =>
        simp only [Bool.and_eq_true, decide_eq_true_eq] at q
        obtain ⟨l, vs, rfl, hl, r⟩ := ra.anyList hx
        obtain ⟨v, hv, rv⟩ := r.get e
        exact tail_any hl.typeIs slot_list_getitem.lookup (wpAny_getItem_list hl q.1 (by lia) (by simpa using hv) (hQ _ _ (.refl s) rv)) (hs _ _)
      · cases e
    · cases e
  · cases e

noncomputable def notSlice : Expr → Bool
  | .Slice .. => false
  | _ => true
theorem subscripted_plain {slice : Expr} (h : notSlice slice = true) (o i : Value) : subscripted slice false o i = operate [o, i] (getItem o i) := by
  cases slice <;> first | rfl | cases h

theorem EvS.idx {value slice : Expr} {p : Pos} {f g : List Slot → Option AV} (hv : EvS G W k names sc value f) (hi : EvS G W k names sc slice g) (hn : notSlice slice = true) :
    EvS G W k names sc (.Subscript value slice p) (fun sl => (f sl).bind fun a => (g sl).bind fun b => idxV a b) := by
  intro A env s sl ro ef rs ba av hf Q hQ
  obtain ⟨a, h1, hf⟩ := Option.bind_eq_some_iff.mp hf
  obtain ⟨b, h2, h3⟩ := Option.bind_eq_some_iff.mp hf
  refine Subscript_ (hv A env s sl ro ef rs ba a h1 _ fun va s₁ x₁ r₁ => ?_)
  refine hi A env s₁ sl ro ef (rs.grow x₁.kept) (ba.ext x₁) b h2 _ fun vb s₂ x₂ r₂ => ?_
  exact idx_sound h3 (r₁.grow x₂.kept) r₂ (subscripted_plain hn) fun v s' x r => hQ v s' ((x₁.trans x₂).trans x) r

noncomputable def EvP (G : Gl) (W : Addr → Prop) (k : Nat) (names : List Str) (sc : List (Str × NameKind)) (ex : Option Expr) (f : List Slot → Option AV) : Prop :=
  ∀ (A : Around) (env : Env) (s : Shared) (sl : List Slot), Room A k → EnvF env sc → RS W env names sl s.heap → Base G W s → ∀ av, f sl = some av →
    ∀ Q : Value → Shared → Prop, (∀ v s', Ext s s' → RepV W s'.heap av v → Q v s') → wpAny G.M A (evalPart ex env) Q (fun zq zq => False) s
theorem EvP.no : EvP G W k names sc none (fun zq => some .none) := by
  intro A env s sl ro ef rs ba av hf Q hQ
  cases hf
  exact wpAny_pure (hQ _ _ (.refl s) rfl)
theorem EvP.yes {e : Expr} {f : List Slot → Option AV} (h : EvS G W k names sc e f) : EvP G W k names sc (some e) f := h

noncomputable def partOf : AV → Option (Option Int)
  | .none => some none
  | .int i => some (some i)
  | _ => none
theorem part_is {a : AV} {v : Value} {h : Heap} {p : Option Int} (r : RepV W h a v) (e : partOf a = some p) : IsPart v p := by
  cases a <;> first | (cases e; done) | skip
  · cases e; rw [show v = _ from r]; exact .none
  all_goals first | (cases e; obtain ⟨t, rfl⟩ := r; exact .int _ t) | (simp [partOf] at e)

noncomputable def sliceL (xs : List AV) (lo hi : Option Int) : List AV := (xs.drop (lo.elim 0 (clipAt xs.length))).take (hi.elim xs.length (clipAt xs.length) - lo.elim 0 (clipAt xs.length))
noncomputable def sliceV (a l h : AV) : Option AV := (partOf l).bind fun lo => (partOf h).bind fun hi => match a with
  | .str x => if x.length < 1000000 then some (.str (Txt.slice x lo hi)) else none
  | a => match a.any? with
    | some xs => if xs.length < 1000000 then some (.lst (sliceL xs lo hi)) else none
    | none => none

theorem RepL.drop {h : Heap} : ∀ (n : Nat) {xs : List AV} {vs : List Value}, RepL W h xs vs → RepL W h (xs.drop n) (vs.drop n)
  | 0, _, _, r => r
  | n + 1, [], _, r => by rw [show _ = [] from r]; rfl
  | n + 1, x :: xs, _, ⟨v, q, e, _, b⟩ => by rw [e]; exact RepL.drop n b
theorem RepL.take {h : Heap} : ∀ (n : Nat) {xs : List AV} {vs : List Value}, RepL W h xs vs → RepL W h (xs.take n) (vs.take n)
  | 0, _, _, r => rfl
  | n + 1, [], _, r => by rw [show _ = [] from r]; rfl
  | n + 1, x :: xs, _, ⟨v, q, e, a, b⟩ => by rw [e]; exact ⟨v, q.take n, rfl, a, RepL.take n b⟩
theorem RepL.reverse {h : Heap} : ∀ {xs : List AV} {vs : List Value}, RepL W h xs vs → RepL W h xs.reverse vs.reverse
  | [], _, r => by rw [show _ = [] from r]; rfl
  | x :: xs, _, ⟨v, q, e, a, b⟩ => by rw [e, List.reverse_cons, List.reverse_cons]; exact (RepL.reverse b).append (RepL.one a)

theorem str_getitem_lookup : typeLookup (.type "str") "__getitem__" = pure (some (.builtin "str.__getitem__")) := F.slot_str_getitem.lookup

theorem part_some {v : Value} {p : Option Int} (h : IsPart v p) : ∃ o : Option (Int × Tok), v = partValue o ∧ o.map (·.1) = p := by
  cases h with
  | none => exact ⟨none, rfl, rfl⟩
  | int i t => exact ⟨some (i, t), rfl, rfl⟩

theorem getItem_slice_str {x : Str} {t : Tok} {l u : Value} {lo hi : Option Int} {Q : Value → Shared → Prop} (hx : x.length < 1000000) (pl : IsPart l lo) (pu : IsPart u hi)
    (h : ∀ t' tk, Q (.str (Txt.slice x lo hi) t') { s with heap := s.heap.push { cls := .type "slice", data := .fields #[l, u, .none] }, toks := tk }) :
    wpAny G.M A (getItem (.str x t) (.ref s.heap.objs.size)) Q E { s with heap := s.heap.push { cls := .type "slice", data := .fields #[l, u, .none] } } := by
  obtain ⟨ol, rfl, rfl⟩ := part_some pl
  obtain ⟨ou, rfl, rfl⟩ := part_some pu
  refine PySem.getItem_meets (typeIs_str _ x t) (by decide) F.slot_str_getitem F.entry_str_getitem (F.args_str_getitem_2 _ _) (meets_str_getitem_slice x t _ ol ou none rfl) ⟨⟨_, Heap.get?_push_size _ rfl, rfl, rfl⟩, ?_⟩
  have e : Txt.slice x (ol.map (·.1)) (ou.map (·.1)) = if ((((none : Option (Int × Tok)).map (·.1)).getD 1 == 1 && (slicePicked x ol ou none).length == x.length) = true) then x else ⟨((slicePicked x ol ou none).filterMap (x.cps[·]?)).toArray⟩ := rfl
  unfold sliceMade
  split
  · next q => rw [e, if_pos q] at h; exact h t _
  · next q =>
    rw [e, if_neg q] at h
    refine ⟨?_, h _ _⟩
    show ((slicePicked x ol ou none).filterMap (x.cps[·]?)).toArray.size ≤ sizeLine
    have h1 := sliceIndices_le (ol.map (·.1)) (ou.map (·.1)) x.length
    have h2 := List.length_filterMap_le (x.cps[·]?) (slicePicked x ol ou none)
    rw [List.size_toArray, sizeLine_eq]
    have h3 : (slicePicked x ol ou none).length ≤ x.length := h1
    lia

set_option tactic.hygienic true in
theorem sliceV_some {a l h r : AV} (e : sliceV a l h = some r) : ∃ lo hi, partOf l = some lo ∧ partOf h = some hi ∧
    ((∃ x, a = .str x ∧ x.length < 1000000 ∧ r = .str (Txt.slice x lo hi)) ∨ ∃ xs, a.any? = some xs ∧ xs.length < 1000000 ∧ r = .lst (sliceL xs lo hi)) := by
  obtain ⟨lo, h1, e1⟩ := Option.bind_eq_some_iff.mp e
  obtain ⟨hi, h2, e2⟩ := Option.bind_eq_some_iff.mp e1
  clear e e1
  refine ⟨lo, hi, h1, h2, ?_⟩
  have tail : ∀ o : Option (List AV), (o.bind fun xs => if xs.length < 1000000 then some (AV.lst (sliceL xs lo hi)) else none) = some r → ∃ xs, o = some xs ∧ xs.length < 1000000 ∧ r = .lst (sliceL xs lo hi) := fun o e => by
    obtain ⟨xs, h3, e⟩ := Option.bind_eq_some_iff.mp e
    split at e
    · next q => cases e; exact ⟨xs, h3, q, rfl⟩
    · cases e
  cases a
  case str x =>
    replace e2 : (if x.length < 1000000 then some (AV.str (Txt.slice x lo hi)) else none) = some r := e2
    split at e2
    · next q => cases e2; exact .inl ⟨x, rfl, q, rfl⟩
    · cases e2
  all_goals exact .inr (tail _ e2)
theorem EvS.slice {x₀ : Str} {q₀ : Pos} {lower upper : Option Expr} {q p : Pos} {f g h : List Slot → Option AV} (hv : EvS G W k names sc (.Name x₀ q₀) f) (hl : EvP G W k names sc lower g) (hu : EvP G W k names sc upper h)
    (hn : true = true) :
    EvS G W k names sc (.Subscript (.Name x₀ q₀) (.Slice lower upper Option.none q) p) (fun sl => (f sl).bind fun a => (g sl).bind fun b => (h sl).bind fun c => sliceV a b c) := by
  intro A env s sl ro ef rs ba av hf Q hQ
  obtain ⟨a, h1, hf⟩ := Option.bind_eq_some_iff.mp hf
  obtain ⟨b, h2, hf⟩ := Option.bind_eq_some_iff.mp hf
  obtain ⟨c, h3, hf⟩ := Option.bind_eq_some_iff.mp hf
  obtain ⟨lo, hi, p1, p2, hf⟩ := sliceV_some hf
  have hnm : ∀ o r, letTemporaryGo (.Name x₀ q₀) o r = pure () := fun zq zq => rfl
  rcases hf with ⟨x, rfl, hx, rfl⟩ | ⟨xs, hx, hsz, rfl⟩
  · refine wpAny_Subscript_Slice (T := "str") str_getitem_lookup (hv A env s sl ro ef rs ba _ h1 _ fun va s₁ x₁ r₁ => ?_) hnm
    refine wpAny_Slice (hl A env s₁ sl ro ef (rs.grow x₁.kept) (ba.ext x₁) b h2 _ fun vl s₂ x₂ r₂ => ?_)
    have x₂ := x₁.trans x₂
    refine hu A env s₂ sl ro ef (rs.grow x₂.kept) (ba.ext x₂) c h3 _ fun vu s₃ x₃ r₃ => ?_
    obtain ⟨t, rfl⟩ := r₁
    exact wpAny_pure ⟨typeIs_str _ _ t, getItem_slice_str hx (part_is r₂ p1) (part_is r₃ p2) fun t' tk => hQ _ _ ((x₂.trans x₃).trans (.of fun zq zq e => Heap.get?_push_of_some _ e)) ⟨t', rfl⟩⟩
  · refine wpAny_Subscript_list_slice (hv A env s sl ro ef rs ba _ h1 _ fun va s₁ x₁ r₁ => ?_) hnm
    refine hl A env s₁ sl ro ef (rs.grow x₁.kept) (ba.ext x₁) b h2 _ fun vl s₂ x₂ r₂ => ?_
    refine hu A env s₂ sl ro ef (rs.grow (x₁.trans x₂).kept) (ba.ext (x₁.trans x₂)) c h3 _ fun vu s₃ x₃ r₃ => ?_
    obtain ⟨l, vs, rfl, hl, rl⟩ := (r₁.grow (x₂.trans x₃).kept).anyList hx
    have hlen := rl.length
    refine ⟨l, _, lo, hi, rfl, hl, by rw [List.size_toArray, hlen, sizeLine_eq]; lia, part_is r₂ p1, part_is r₃ p2, ?_⟩
    have x₃ := (x₁.trans x₂).trans x₃
    clear r₁ r₂ r₃ hl h1 h2 h3 p1 p2
    as_aux_lemma =>
    have x₄ : Ext s₃ { s₃ with heap := (s₃.heap.push { cls := .type "slice", data := .fields #[vl, vu, .none] }).push { cls := .type "list", data := .seq (slicePick vs.toArray lo hi Option.none) } } :=
      (Ext.push (s := s₃)).trans Ext.push
    refine hQ _ _ (x₃.trans x₄) ⟨_, (vs.drop (lo.elim 0 (clipAt xs.length))).take (hi.elim xs.length (clipAt xs.length) - lo.elim 0 (clipAt xs.length)), rfl, ?_, ⟨0, ?_⟩, ?_⟩
    · exact (ba.ext x₃).fresh (Nat.le_succ _)
    · have := Heap.get?_push_size (s₃.heap.push { cls := .type "slice", data := .fields #[vl, vu, .none] }) (o := { cls := .type "list", data := .seq (slicePick vs.toArray lo hi Option.none) }) rfl
      rw [Heap.size_push] at this
      rw [this, slicePick_plain, List.size_toArray, hlen]
    · exact ((rl.grow x₄.kept).drop _).take _
end
end Mine
end

section
open PySem PySem.W PyProof.Rows
set_option Elab.async false
set_option tactic.hygienic false
set_option maxRecDepth 100000
set_option linter.unusedVariables false


namespace Mine

mutual
noncomputable def AV.freeze : AV → AV
  | .tup xs => .tup (freezeL xs)
  | .lst xs | .mut xs => .lst (freezeL xs)
  | .view xs => .view (freezeL xs)
  | x => x
noncomputable def freezeL : List AV → List AV
  | [] => []
  | x :: xs => x.freeze :: freezeL xs
end
mutual
theorem RepV.freeze {W : Addr → Prop} {h : Heap} : ∀ (x : AV) (v : Value), RepV W h x v → RepV (fun zq => False) h x.freeze v
  | .none, _, r | .bool _, _, r | .int _, _, r | .str _, _, r => r
  | .tup xs, v, ⟨a, vs, e, hw, l, r⟩ => ⟨a, vs, e, fun q => q, l, RepL.freeze xs vs r⟩
  | .lst xs, v, ⟨a, vs, e, hw, l, r⟩ => ⟨a, vs, e, fun q => q, l, RepL.freeze xs vs r⟩
  | .mut xs, v, ⟨a, vs, e, l, r⟩ => ⟨a, vs, e, fun q => q, l, RepL.freeze xs vs r⟩
  | .view xs, v, ⟨a, vs, e, l, r⟩ => ⟨a, vs, e, l, RepL.freeze xs vs r⟩
theorem RepL.freeze {W : Addr → Prop} {h : Heap} : ∀ (xs : List AV) (vs : List Value), RepL W h xs vs → RepL (fun zq => False) h (freezeL xs) vs
  | [], _, r => r
  | x :: xs, _, ⟨v, q, e, a, b⟩ => ⟨v, q, e, RepV.freeze x v a, RepL.freeze xs q b⟩
end
mutual
theorem RepV.weaken {W W' : Addr → Prop} {h : Heap} (hw : ∀ a, W' a → W a) : ∀ (x : AV) (v : Value), RepV W h x v → RepV W' h x v
  | .none, _, r | .bool _, _, r | .int _, _, r | .str _, _, r => r
  | .tup xs, v, ⟨a, vs, e, n, l, r⟩ => ⟨a, vs, e, fun q => n (hw a q), l, RepL.weaken hw xs vs r⟩
  | .lst xs, v, ⟨a, vs, e, n, l, r⟩ => ⟨a, vs, e, fun q => n (hw a q), l, RepL.weaken hw xs vs r⟩
  | .mut xs, v, ⟨a, vs, e, l, r⟩ => ⟨a, vs, e, l, RepL.weaken hw xs vs r⟩
  | .view xs, v, ⟨a, vs, e, l, r⟩ => ⟨a, vs, e, l, RepL.weaken hw xs vs r⟩
theorem RepL.weaken {W W' : Addr → Prop} {h : Heap} (hw : ∀ a, W' a → W a) : ∀ (xs : List AV) (vs : List Value), RepL W h xs vs → RepL W' h xs vs
  | [], _, r => r
  | x :: xs, _, ⟨v, q, e, a, b⟩ => ⟨v, q, e, RepV.weaken hw x v a, RepL.weaken hw xs q b⟩
end

structure Fn (G : Gl) (g : Str) (lvl : Nat) (f : List AV → Option AV) : Prop where
  place : ∃ a o fd, G.mg g = some (.ref a) ∧ G.h₀.get? a = some o ∧ o.data = .func fd
  runs : ∀ a, G.mg g = some (.ref a) → ∀ (A : Around) (s : Shared) (vs : List Value) (avs : List AV) (r : AV), Room A lvl → Kept G.h₀ s.heap → ∀ H, TB H s.heap → RepL (fun zq => False) s.heap avs vs → f avs = some r →
    ∀ Q : Value → Shared → Prop, (∀ v s', Ext s s' → RepV (fun b => (s.heap.get? b).isSome = true) s'.heap r v → r.firm = true → Q v s') → wpAny G.M A (call (.ref a) vs) Q (fun zq zq => False) s

section
variable {G : Gl} {W : Addr → Prop} {k : Nat} {names : List Str} {sc : List (Str × NameKind)} {A : Around} {s : Shared} {E : Value → Shared → Prop}

theorem EvS.call {g : Str} {lvl : Nat} {fn : List AV → Option AV} {p q : Pos} {e : Expr} {es : List Expr} {f : List Slot → Option (List AV)} (F : Fn G g lvl fn) (hk : lvl ≤ k) (hg : sc.lookup g = some .globalImplicit)
    (hd : (g == ("__debug__" : Str)) = false) (ha : EvL G W k names sc (e :: es) f) (hn : notStar e = true) :
    EvS G W k names sc (.Call (.Name g p) (e :: es) [] q) (fun sl => (f sl).bind fun avs => fn (freezeL avs)) := by
  intro A env s sl ro ef rs ba av hf Q hQ
  obtain ⟨avs, h1, h2⟩ := Option.bind_eq_some_iff.mp hf
  obtain ⟨a, o, fd, hm, ho, hfd⟩ := F.place
  refine Call_ (wpAny_Name (load_global ef ba hg hm ?_) hd)
  refine callWith_def hfd (ha.2 A env s sl q ro ef rs ba avs h1 _ fun vs s₁ x₁ r₁ => ⟨(ba.ext x₁).keep _ _ ho (solid_func hfd), ?_⟩) (starEach_cons hn)
  refine F.runs a hm A s₁ vs (freezeL avs) av (ro.le hk) (ba.ext x₁).keep _ (ba.ext x₁).tb (r₁.freeze) h2 Q fun v s' x r fi => hQ v s' (x₁.trans x) ?_
  refine r.weaken fun b w => ?_
  exact ((ba.ext x₁).above b w).1

theorem EvS.builtin {g : Str} {v : Value} {fn : List AV → Option AV} {p q : Pos} {e : Expr} {es : List Expr} {f : List Slot → Option (List AV)} (hg : sc.lookup g = some .globalImplicit)
    (hd : (g == ("__debug__" : Str)) = false) (hne : g ≠ "__name__") (hm : G.mg g = Option.none) (hb : bootBuiltins g = some v) (hv : (∃ id, v = .builtin id) ∨ ∃ T, v = .type T) (ha : EvL G W k names sc (e :: es) f) (hn : notStar e = true)
    (hr : ∀ env pos, ((backTo pos (starEach es env)).any (·.1)) = false)
    (hc : ∀ (A : Around) (s : Shared) (vs : List Value) (avs : List AV) (av : AV), Room A k → Base G W s → RepL W s.heap avs vs → fn avs = some av → ∀ Q : Value → Shared → Prop, (∀ v s', Ext s s' → RepV W s'.heap av v → Q v s') → wpAny G.M A (PySem.call v vs) Q (fun zq zq => False) s) :
    EvS G W k names sc (.Call (.Name g p) (e :: es) [] q) (fun sl => (f sl).bind fn) := by
  intro A env s sl ro ef rs ba av hf Q hQ
  obtain ⟨avs, h1, h2⟩ := Option.bind_eq_some_iff.mp hf
  refine Call_ (wpAny_Name (load_builtin ef ba hg hm hne hb ?_) hd)
  have h : wpAny G.M A (spliced (backTo q (starEach (e :: es) env))) (fun vs s₁ => wpAny G.M A (PySem.call v vs) Q (fun zq zq => False) s₁) (fun zq zq => False) s :=
    ha.2 A env s sl q ro ef rs ba avs h1 _ fun vs s₁ x₁ r₁ => hc A s₁ vs avs av ro (ba.ext x₁) r₁ h2 Q fun v s' x r => hQ v s' (x₁.trans x) r
  rcases hv with ⟨id, rfl⟩ | ⟨T, rfl⟩
  · exact PyProof.Rows.callWith_builtin1 h (starEach_cons hn) (hr _ _)
  · exact PyProof.Rows.callWith_type1 h (starEach_cons hn) (hr _ _)

noncomputable def lenV : List AV → Option AV
  | [.str x] => if x.length < 1000000 then some (.int x.length) else none
  | [a] => match a.any? with
    | some xs => if xs.length < 1000000 then some (.int xs.length) else none
    | none => none
  | _ => none
theorem len_sound {vs : List Value} {avs : List AV} {av : AV} (r : RepL W s.heap avs vs) (e : lenV avs = some av) {Q : Value → Shared → Prop} (hQ : ∀ v s', Ext s s' → RepV W s'.heap av v → Q v s') :
    wpAny G.M A (call (.builtin "len") vs) Q E s := by
  unfold lenV at e
  split at e
  · split at e
    · obtain ⟨v, q, rfl, ⟨t, rfl⟩, rfl⟩ := r
      cases e
      exact P.len_str (by lia) (hQ _ _ .tok ⟨_, rfl⟩)
    · cases e
  · split at e
    · next hx =>
      split at e
      · obtain ⟨v, q, rfl, ra, rfl⟩ := r
        cases e
        obtain ⟨l, us, rfl, hl, rl⟩ := ra.anyList hx
        have hlen := rl.length
        refine len_list hl (by rw [List.size_toArray, hlen]; lia) ?_
        rw [List.size_toArray, hlen]
        exact hQ _ _ .tok ⟨_, rfl⟩
      · cases e
    · cases e
  · cases e

noncomputable def absV : List AV → Option AV
  | [.int a] => some (.int (if a < 0 then -a else a))
  | _ => none
theorem abs_sound {vs : List Value} {avs : List AV} {av : AV} (r : RepL W s.heap avs vs) (e : absV avs = some av) {Q : Value → Shared → Prop} (hQ : ∀ v s', Ext s s' → RepV W s'.heap av v → Q v s') :
    wpAny G.M A (call (.builtin "abs") vs) Q E s := by
  unfold absV at e
  split at e
  · obtain ⟨v, q, rfl, ⟨t, rfl⟩, rfl⟩ := r
    cases e
    exact call_abs_int fun u tk => hQ _ _ .tok ⟨_, rfl⟩
  · cases e
noncomputable def chrV : List AV → Option AV
  | [.int i] => if 0 ≤ i ∧ i ≤ 0x10FFFF then some (.str ⟨#[i.toNat]⟩) else none
  | _ => none
theorem chr_sound {vs : List Value} {avs : List AV} {av : AV} (r : RepL W s.heap avs vs) (e : chrV avs = some av) {Q : Value → Shared → Prop} (hQ : ∀ v s', Ext s s' → RepV W s'.heap av v → Q v s') :
    wpAny G.M A (call (.builtin "chr") vs) Q E s := by
  unfold chrV at e
  split at e
  · split at e
    · next h =>
      obtain ⟨v, q, rfl, ⟨t, rfl⟩, rfl⟩ := r
      cases e
      exact P.chr_of_int (by simp; lia) (hQ _ _ .tok ⟨_, rfl⟩)
    · cases e
  · cases e
noncomputable def ordV : List AV → Option AV
  | [.str x] => match x.cps.toList with
    | [c] => some (.int c)
    | _ => none
  | _ => none
set_option tactic.hygienic true in
theorem ord_sound {vs : List Value} {avs : List AV} {av : AV} (r : RepL W s.heap avs vs) (e : ordV avs = some av) {Q : Value → Shared → Prop} (hQ : ∀ v s', Ext s s' → RepV W s'.heap av v → Q v s') :
    wpAny G.M A (call (.builtin "ord") vs) Q E s := by
  unfold ordV at e
  split at e
  · next x =>
    split at e
    · next c hc =>
      obtain ⟨v, q, rfl, ⟨t, rfl⟩, rfl⟩ := r
      cases e
      have : x = ⟨#[c]⟩ := by
        obtain ⟨cps⟩ := x
        have : cps = #[c] := by rw [← Array.toArray_toList (xs := cps)]; simp only at hc; rw [hc]
        rw [this]
      rw [this]
      exact P.ord_of_char (hQ _ _ .tok ⟨_, rfl⟩)
    · cases e
  · cases e
noncomputable def minV : List AV → Option AV
  | [.int a, .int b] => some (.int (if b < a then b else a))
  | _ => none
theorem min_sound {vs : List Value} {avs : List AV} {av : AV} (ro : Room A k) (r : RepL W s.heap avs vs) (e : minV avs = some av) {Q : Value → Shared → Prop} (hQ : ∀ v s', Ext s s' → RepV W s'.heap av v → Q v s') :
    wpAny G.M A (call (.builtin "min") vs) Q E s := by
  unfold minV at e
  split at e
  · obtain ⟨v, q, rfl, ⟨t, rfl⟩, ⟨v', q', rfl, ⟨t', rfl⟩, rfl⟩⟩ := r
    cases e
    refine min_two_ints ro.handled fun h' tk hk => hQ _ _ (.of hk) ?_
    split
    · exact ⟨_, rfl⟩
    · exact ⟨_, rfl⟩
  · cases e
noncomputable def divmodV : List AV → Option AV
  | [.int a, .int b] => if b ≠ 0 ∧ small b = true then some (.tup [.int (a.fdiv b), .int (a.fmod b)]) else none
  | _ => none
noncomputable def sumV : List AV → Option AV
  | [a] => match a.any? with
    | some xs => (asInts xs).map fun ns => .int ns.sum
    | none => none
  | _ => none
theorem intItems_of : ∀ {vs : List Value} {ns : List Int}, IntsAre vs ns → ∃ xs : List (Int × Tok), vs.toArray = intItems xs.toArray ∧ xs.map (·.1) = ns
  | _, _, .nil => ⟨[], by simp [intItems], rfl⟩
  | _, _, .cons n t h => by
    obtain ⟨xs, e1, e2⟩ := intItems_of h
    refine ⟨(n, t) :: xs, ?_, by rw [List.map_cons, e2]⟩
    have := congrArg Array.toList e1
    apply Array.ext'
    simp [intItems] at this ⊢
    exact this
theorem preSum_items (xs : List (Int × Tok)) : preSum (numAt xs.toArray) xs.toArray.size = (xs.map (·.1)).sum := by
  rw [preSum_eq, List.take_of_length_le (by simp)]
theorem sum_sound {vs : List Value} {avs : List AV} {av : AV} (ro : Room A k) (r : RepL W s.heap avs vs) (e : sumV avs = some av) {Q : Value → Shared → Prop} (hQ : ∀ v s', Ext s s' → RepV W s'.heap av v → Q v s') :
    wpAny G.M A (call (.builtin "sum") vs) Q E s := by
  unfold sumV at e
  split at e
  · split at e
    · next hx =>
      obtain ⟨ns, h1, h2⟩ := Option.map_eq_some_iff.mp e
      obtain ⟨v, q, rfl, ra, rfl⟩ := r
      subst h2
      obtain ⟨l, us, rfl, hl, rl⟩ := ra.anyList hx
      obtain ⟨xs, e1, e2⟩ := intItems_of (rl.ints _ _ _ h1)
      refine sum_intListG ro.handled (xs := xs.toArray) (by rw [← e1]; exact hl) fun h' tk t' hk => ?_
      rw [preSum_items, e2]
      exact hQ _ _ (.of hk) ⟨_, rfl⟩
    · cases e
  · cases e
end
end Mine
end

section
open PySem PySem.W PyProof.Rows
set_option Elab.async false
set_option tactic.hygienic false
set_option maxRecDepth 100000
set_option linter.unusedVariables false


namespace Mine

theorem RepRows.shift {W W' : Addr → Prop} {h h' : Heap} (hk : Kept h h') (hW : ∀ b, (h.get? b).isSome = true → W' b → W b) : ∀ {rs : List (List AV)} {ds : List Addr}, RepRows W h rs ds → RepRows W' h' rs ds
  | [], _, r => r
  | _ :: _, _, ⟨d, q, vs, e, l, r, rr⟩ => ⟨d, q, vs, e, PlainList.grow hk l, RepL.mono (fun b o zq => hk b o) (fun b o zq => hk b o) hW _ _ r, RepRows.shift hk hW rr⟩
theorem SlotRep.shift {W W' : Addr → Prop} {h h' : Heap} (hk : Kept h h') (hW : ∀ b, (h.get? b).isSome = true → W' b → W b) {s : Slot} {ov : Option Value} (r : SlotRep W h s ov) : SlotRep W' h' s ov := by
  cases s with
  | unset => trivial
  | val x => obtain ⟨v, e, a, f⟩ := r; exact ⟨v, e, RepV.mono (fun b o zq => hk b o) (fun b o zq => hk b o) hW _ _ a, f⟩
  | mls xs => obtain ⟨d, vs, e, l, a, f⟩ := r; exact ⟨d, vs, e, PlainList.grow hk l, RepL.mono (fun b o zq => hk b o) (fun b o zq => hk b o) hW _ _ a, f⟩
  | mgr rows => obtain ⟨d, ds, e, l, a, f⟩ := r; exact ⟨d, ds, e, PlainList.grow hk l, RepRows.shift hk hW a, f⟩
  | scr xs =>
    obtain ⟨d, vs, e, n, l, a, f⟩ := r
    refine ⟨d, vs, e, fun w => n (hW d ?_ w), IsList.grow hk l, RepL.mono (fun b o zq => hk b o) (fun b o zq => hk b o) hW _ _ a, f⟩
    obtain ⟨o, ho, _⟩ := l
    rw [ho]; rfl

noncomputable def relab (sc ns : List (Str × NameKind)) : List (Str × NameKind) := ns.map fun (n, k) => if (k == .free && sc.lookup n == some .cell) then (n, .cell) else (n, k)
theorem relabel_names {scope : Scope} {env : Env} {sc : List (Str × NameKind)} (ef : EnvF env sc) : (relabel scope env).names = relab sc scope.names := by
  simp only [relabel, relab, ef.kind, Env.kindOf, ef.names]
  congr 1
  funext ⟨n, k⟩
  simp

theorem lookup_relab {sc : List (Str × NameKind)} {y : Str} : ∀ {ns : List (Str × NameKind)}, (relab sc ns).lookup y = (ns.lookup y).map fun k => if (k == .free && sc.lookup y == some .cell) then .cell else k
  | [] => rfl
  | (n, k) :: r => by
    have ih := lookup_relab (sc := sc) (y := y) (ns := r)
    have e : relab sc ((n, k) :: r) = (if (k == .free && sc.lookup n == some .cell) then (n, .cell) else (n, k)) :: relab sc r := rfl
    rw [e]
    by_cases h : y = n
    · subst h
      by_cases hc : (k == .free && sc.lookup y == some .cell) = true
      · rw [if_pos hc]; simp [List.lookup_cons]; simp at hc; simp [hc]
      · rw [if_neg hc]; simp [List.lookup_cons]; simp at hc; intro a b; exact absurd b (hc a)
    · have hb : (y == n) = false := by simpa using h
      by_cases hc : (k == .free && sc.lookup n == some .cell) = true
      · rw [if_pos hc]; simp only [List.lookup_cons, hb]; exact ih
      · rw [if_neg hc]; simp only [List.lookup_cons, hb]; exact ih

theorem lookup_of_mem {α : Type} : ∀ {l : List (Str × α)} {n : Str} {c : α}, (n, c) ∈ l → ∃ d, l.lookup n = some d
  | (k, v) :: r, n, c, h => by
    rw [List.lookup_cons]
    cases hb : n == k with
    | true => exact ⟨v, rfl⟩
    | false =>
      rcases List.mem_cons.mp h with e | h
      · cases e; simp at hb
      · exact lookup_of_mem h

theorem closure_ex {env : Env} (f : Str × NameKind → List (Str × Addr) → Sem (ForInStep (List (Str × Addr))))
    (hf : ∀ name kind cs, f (name, kind) cs = if (kind == .free) = true then (do let c ← cellOf env name; pure (.yield ((name, c) :: cs))) else pure (.yield cs)) :
    ∀ (ns : List (Str × NameKind)) (acc : List (Str × Addr)), (∀ y ∈ ns, y.2 = .free → ∃ c, env.cells.lookup y.1 = some c) → (∀ n c, acc.lookup n = some c → env.cells.lookup n = some c) →
      ∃ cl, forIn ns acc f = pure cl ∧ (∀ n c, cl.lookup n = some c → env.cells.lookup n = some c) ∧ ∀ n, ((n, NameKind.free) ∈ ns ∨ ∃ c, acc.lookup n = some c) → ∃ c, cl.lookup n = some c
  | [], acc, _, ha => ⟨acc, by rw [List.forIn_nil], ha, fun n h => by rcases h with h | h; cases h; exact h⟩
  | (n, k) :: r, acc, hn, ha => by
    rw [List.forIn_cons, hf]
    by_cases hk : (k == NameKind.free) = true
    · rw [if_pos hk]
      obtain ⟨c, hc⟩ := hn (n, k) List.mem_cons_self (by simpa using hk)
      have hce : cellOf env n = pure c := by unfold cellOf; simp only at hc; rw [hc]
      obtain ⟨cl, h1, h2, h3⟩ := closure_ex f hf r ((n, c) :: acc) (fun y hy => hn y (List.mem_cons_of_mem _ hy)) (fun m d e => by
        rw [List.lookup_cons] at e
        cases hb : m == n with
        | true => rw [hb] at e; cases e; rw [beq_iff_eq.mp hb]; exact hc
        | false => rw [hb] at e; exact ha m d e)
      refine ⟨cl, by rw [hce]; simpa using h1, h2, fun m h => h3 m ?_⟩
      rcases h with h | ⟨d, h⟩
      · rcases List.mem_cons.mp h with e | h
        · cases e; exact .inr ⟨c, by simp [List.lookup_cons]⟩
        · exact .inl h
      · refine .inr ?_
        rw [List.lookup_cons]
        cases m == n
        · exact ⟨d, h⟩
        · exact ⟨c, rfl⟩
    · rw [if_neg hk]
      obtain ⟨cl, h1, h2, h3⟩ := closure_ex f hf r acc (fun y hy => hn y (List.mem_cons_of_mem _ hy)) ha
      refine ⟨cl, by simpa using h1, h2, fun m h => h3 m ?_⟩
      rcases h with h | h
      · rcases List.mem_cons.mp h with e | h
        · cases e; exact absurd rfl hk
        · exact .inl h
      · exact .inr h

theorem closure_is {scope : Scope} {env : Env} (h : ∀ y ∈ scope.names, y.2 = .free → ∃ c, env.cells.lookup y.1 = some c) :
    ∃ cl, closureFor scope env = pure cl ∧ (∀ n c, cl.lookup n = some c → env.cells.lookup n = some c) ∧ ∀ n, (n, NameKind.free) ∈ scope.names → ∃ c, cl.lookup n = some c := by
  obtain ⟨cl, h1, h2, h3⟩ := closure_ex (env := env) (fun x cs => if (x.2 == .free) = true then (do let c ← cellOf env x.1; pure (.yield ((x.1, c) :: cs))) else pure (.yield cs)) (fun name kind cs => rfl) scope.names [] h (fun zq zq e => by cases e)
  refine ⟨cl, ?_, h2, fun n hn => h3 n (.inl hn)⟩
  rw [← h1]
  simp only [closureFor, bind_pure]

theorem cellsFrom_append : ∀ (ns : List (Str × NameKind)) (n : Nat) (acc : List (Str × Addr)), cellsFrom n ns acc = cellsFrom n ns [] ++ acc
  | [], n, acc => rfl
  | (x, k) :: r, n, acc => by
    unfold cellsFrom
    split
    · rw [cellsFrom_append r _ ((x, n) :: acc), cellsFrom_append r _ [(x, n)], List.append_assoc]; rfl
    · exact cellsFrom_append r n acc
theorem lookup_append {α : Type} : ∀ {a b : List (Str × α)} {x : Str}, (a ++ b).lookup x = (a.lookup x).or (b.lookup x)
  | [], b, x => rfl
  | (k, v) :: r, b, x => by
    rw [List.cons_append, List.lookup_cons, List.lookup_cons]
    cases x == k
    · exact lookup_append
    · rfl
theorem own_mem : ∀ {ns : List (Str × NameKind)} {n : Nat} {x : Str} {c : Addr}, (x, c) ∈ cellsFrom n ns [] → (x, NameKind.cell) ∈ ns
  | [], n, x, c, h => by cases h
  | (y, k) :: r, n, x, c, h => by
    unfold cellsFrom at h
    split at h
    · next hk =>
      rw [cellsFrom_append] at h
      rcases List.mem_append.mp h with h | h
      · exact List.mem_cons_of_mem _ (own_mem h)
      · cases List.mem_singleton.mp h
        have : k = .cell := by simpa using hk
        subst this; exact List.mem_cons_self
    · exact List.mem_cons_of_mem _ (own_mem h)
theorem mem_own : ∀ {ns : List (Str × NameKind)} {n : Nat} {x : Str}, (x, NameKind.cell) ∈ ns → ∃ c, (x, c) ∈ cellsFrom n ns []
  | [], n, x, h => by cases h
  | (y, k) :: r, n, x, h => by
    unfold cellsFrom
    rcases List.mem_cons.mp h with e | h
    · cases e
      rw [if_pos (by rfl), cellsFrom_append]
      exact ⟨n, List.mem_append_right _ List.mem_cons_self⟩
    · split
      · obtain ⟨c, hc⟩ := mem_own (n := n + 1) h
        rw [cellsFrom_append]
        exact ⟨c, List.mem_append_left _ hc⟩
      · exact mem_own h

section
variable {M : Model} {A : Around} {E : Value → Shared → Prop} {s : Shared}
theorem newEnv_comp {scope : Scope} {globals : Addr} {cl : List (Str × Addr)} {qual : Str} {func : Option Addr} {code : Value} {outer : Env} {builtins : Addr} {Q : Env → Shared → Prop}
    (h : Q (newEnv scope s.heap.objs.size globals (cellsFrom (s.heap.objs.size + 1) scope.names [] ++ cl) qual func code (some outer) builtins)
      { s with heap := pushCells (s.heap.push { cls := .type "dict", data := .dict #[] }) scope.names }) :
    wpAny M A (newFunctionEnv scope globals cl [] qual func code (some outer) builtins) Q E s := by
  simp only [newFunctionEnv, Option.isSome_some, if_true]
  refine wpAny_bind (wpAny_alloc ?_)
  refine wpAny_bind (wpAny_layCells _ (fun name kind cells => by cases hkc : kind == NameKind.cell <;> simp [hkc]) _ _ _ _ ?_)
  rw [cellsFrom_append, show ({ s with heap := s.heap.push { cls := .type "dict", data := .dict #[] } } : Shared).heap.objs.size = s.heap.objs.size + 1 from Heap.size_push ..]
  exact wpAny_bind (by rw [List.forIn_nil]; exact wpAny_pure (wpAny_pure h))
end
end Mine
end

section
open PySem PySem.W PyProof.Rows
set_option Elab.async false
set_option tactic.hygienic false
set_option maxRecDepth 100000
set_option linter.unusedVariables false


namespace Mine

noncomputable def EvB (fr : Bool) (G : Gl) (W : Addr → Prop) (k : Nat) (names : List Str) (sc : List (Str × NameKind)) (ex : Expr) (f : List Slot → Option AV) : Prop :=
  ∀ (A : Around) (env : Env) (s : Shared) (sl : List Slot), Room A k → EnvF env sc → RS W env names sl s.heap → Base G W s → ∀ av, f sl = some av →
    ∀ Q : Value → Shared → Prop, (∀ v s', Ext s s' → RepV W s'.heap av v → (fr = true → ∃ d, v = .ref d ∧ s.heap.get? d = Option.none) → Q v s') → wpAny G.M A (eval ex env) Q (fun zq zq => False) s

noncomputable def EvI (G : Gl) (W : Addr → Prop) (k : Nat) (names : List Str) (sc : List (Str × NameKind)) (ex : Expr) (f : List Slot → Option (List AV)) : Prop :=
  ∀ (A : Around) (env : Env) (s : Shared) (sl : List Slot), Room A k → EnvF env sc → RS W env names sl s.heap → Base G W s → ∀ avs, f sl = some avs →
    ∀ Q : Value → Shared → Prop, (∀ I s' fp wr P St, Ext s s' → Walks G.prog G.w A I fp wr avs.length P St → St 0 s'.heap → (∀ b ∈ fp, b < s'.heap.objs.size) → (∀ b ∈ wr, s.heap.get? b = Option.none) →
      (∀ b ∈ fp, b ∉ wr → ¬ W b ∧ (s'.heap.get? b).isSome = true) → (∀ i h, St i h → (∀ b ∈ wr, ∃ o, h.get? b = some o ∧ iterO o = true) ∧ ∀ b ∈ fp, ∀ o, h.get? b = some o → tabby o = false) →
      (∀ i v x, P i v → avs[i]? = some x → RepV (fun b => W b ∨ b ∈ wr) s'.heap x v) → Q (.ref I) s') →
    wpAny G.M A (eval ex env) (fun xv s₁ => wpAny G.M A (pyIter xv) Q (fun zq zq => False) s₁) (fun zq zq => False) s

noncomputable def TestsS (G : Gl) (W : Addr → Prop) (k : Nat) (names : List Str) (sc : List (Str × NameKind)) (ifs : List Expr) (f : List Slot → Option Bool) : Prop :=
  ∀ (A : Around) (env : Env) (s : Shared) (sl : List Slot), Room A k → EnvF env sc → RS W env names sl s.heap → Base G W s → ∀ b, f sl = some b →
    ∀ (Q : Bool → Shared → Prop), (∀ s', Ext s s' → Q b s') →
      wpAny G.M A (forIn ifs true fun c r => if r = true then do let ok ← isTrue c env (eval c env); pure (ForInStep.yield ok) else pure (ForInStep.yield r)) Q (fun zq zq => False) s

section
variable {G : Gl} {W : Addr → Prop} {k : Nat} {names : List Str} {sc : List (Str × NameKind)} {A : Around} {s : Shared} {E : Value → Shared → Prop}

theorem EvS.b {ex f} (h : EvS G W k names sc ex f) : EvB false G W k names sc ex f := fun A env s sl ro ef rs ba av hf Q hQ =>
  h A env s sl ro ef rs ba av hf Q fun v s' x r => hQ v s' x r (fun e => by cases e)
theorem EvB.plain {fr ex f} (h : EvB fr G W k names sc ex f) : EvS G W k names sc ex f := fun A env s sl ro ef rs ba av hf Q hQ =>
  h A env s sl ro ef rs ba av hf Q fun v s' x r zq => hQ v s' x r

theorem TestsS.nil : TestsS G W k names sc [] (fun zq => some true) := fun A env s sl ro ef rs ba b hf Q hQ => by
  cases hf; exact wpAny_tests_nil (hQ s (.refl s))
theorem TestsS.one {ex f} (h : TsS G W k names sc ex f) : TestsS G W k names sc [ex] (fun sl => (f sl).bind truth) := fun A env s sl ro ef rs ba b hf Q hQ => by
  obtain ⟨av, h1, h2⟩ := Option.bind_eq_some_iff.mp hf
  exact wpAny_tests_one (h A env s sl ro ef rs ba av b h1 h2 Q hQ)

noncomputable def compV (ft : List Slot → Option Bool) (fe : List Slot → Option AV) (mk : AV → List Slot) : List AV → Option (List AV)
  | [] => some []
  | x :: r => (ft (mk x)).bind fun b => if b = true then (fe (mk x)).bind fun y => if y.firm = true then (compV ft fe mk r).map (y :: ·) else Option.none else compV ft fe mk r

noncomputable def compChk (sc ns : List (Str × NameKind)) (names : List Str) (x : Str) (ix : List Nat) : Bool :=
  (ns.lookup x == some .local || ns.lookup x == some .cell) &&
  ns.all (fun y => y.2 != .free || sc.lookup y.1 == some .cell || sc.lookup y.1 == some .free) &&
  ns.all (fun y => y.2 != .local || ns.lookup y.1 == some .local) &&
  ns.all (fun y => y.2 != .cell || (y.1 == x && ns.lookup x == some .cell)) &&
  ix.all (fun i => match names[i]? with | some y => y != x && ns.lookup y == some .free | none => false)

theorem assign_var {env : Env} {x : Str} {p : Pos} {v : Value} {Q : Unit → Shared → Prop} (hk : env.scope.kind = .function)
    (h : (env.kindOf x = some .local ∧ ∃ m, s.heap.Ns env.locals m) ∨ (env.kindOf x = some .cell ∧ ∃ c ov, env.cells.lookup x = some c ∧ s.heap.IsCell c ov))
    (hQ : ∀ a h' tk, ((env.kindOf x = some .local ∧ a = env.locals ∧ ∃ m, s.heap.Ns env.locals m ∧ h'.Ns env.locals (fun y => if y = x then some v else m y)) ∨ (env.kindOf x = some .cell ∧ env.cells.lookup x = some a ∧ h'.IsCell a (some v))) →
      Heap.SameBut a s.heap h' → Q () { s with heap := h', toks := tk }) : wpAny G.M A (assign (.Name x p) env v) Q E s := by
  refine wpAny_assign_Name ?_
  rcases h with ⟨a, m, n⟩ | ⟨a, c, ov, b, n⟩
  · exact wpAny_storeName_local a n (fun h' n' sb => hQ _ h' _ (.inl ⟨a, rfl, m, n, n'⟩) sb) (by rw [hk]; rfl)
  · exact wpAny_storeName_cell hk a b n fun h' n' sb => hQ c h' _ (.inr ⟨a, b, n'⟩) sb

noncomputable def cvars (names : List Str) (x : Str) (ix : List Nat) : List Str := x :: ix.map fun i => (names[i]?).getD x
noncomputable def cslots (sl : List Slot) (ix : List Nat) (a : AV) : List Slot := .val a :: ix.map fun i => (sl[i]?).getD .unset

theorem Ext.but {H₀ : Heap} {s s' : Shared} {C : Addr} {h' : Heap} {m} (xx : Ext s s') (tb : TB H₀ s.heap) (hC : s.heap.get? C = Option.none) (hm : s'.heap.Ns C m) (sb : Heap.SameBut C s'.heap h') : Ext s { s' with heap := h' } := by
  obtain ⟨o, e, c⟩ := codey_ns hm
  have hM : C ≠ mainGlobals := fun q => by
    obtain ⟨mg, o', _, _, e', _⟩ := tb.main
    rw [← q, hC] at e'; cases e'
  obtain ⟨h₁, tk, rfl, kk, nn, t⟩ := xx
  refine ⟨h', tk, rfl, fun b o e hs => sb.extBut b o (fun q => by rw [q, hC] at e; cases e) (kk b o e hs), fun b e => ?_, fun H tb => (t H tb).change (fun b o hb e => sb.extBut b o hb e) hM e c⟩
  by_cases q : b = C
  · rw [q]; exact hC
  · exact nn b (by rw [← sb.2 b q]; exact e)
theorem ltN {a b : Nat} (h : a < b) : a < b := h
theorem leN {a b : Nat} (h : a ≤ b) : a ≤ b := h
theorem neN {a b : Nat} (h : a ≠ b) : a ≠ b := h
theorem eqN {a b : Nat} (h : a = b) : a = b := h
theorem noE {α : Type} {t : Sem α} {Q : α → Shared → Prop} (h : wpAny G.M A t Q (fun zq zq => False) s) : wpAny G.M A t Q E s := wpAny_mono h (fun zq zq q => q) fun zq zq f => f.elim
theorem RepV.there {h : Heap} {a : AV} {d : Addr} (r : RepV W h a (.ref d)) : (h.get? d).isSome = true := by
  cases a
  case none => cases (show Value.ref d = .none from r)
  case bool => cases (show Value.ref d = .bool _ from r)
  case int => obtain ⟨_, e⟩ := r; cases e
  case str => obtain ⟨_, e⟩ := r; cases e
  case tup => obtain ⟨_, _, e, _, ⟨o, ho, _⟩, _⟩ := r; cases e; rw [ho]; rfl
  case lst => obtain ⟨_, _, e, _, ⟨o, ho⟩, _⟩ := r; cases e; rw [ho]; rfl
  case «mut» => obtain ⟨_, _, e, ⟨o, ho⟩, _⟩ := r; cases e; rw [ho]; rfl
  case view => obtain ⟨_, _, e, ⟨o, ho, _⟩, _⟩ := r; cases e; rw [ho]; rfl
theorem RepL.there {h : Heap} {d : Addr} : ∀ {xs : List AV} {vs : List Value}, RepL W h xs vs → Value.ref d ∈ vs → (h.get? d).isSome = true
  | [], _, r, m => by rw [show _ = [] from r] at m; cases m
  | x :: xs, _, ⟨v, q, e, a, b⟩, m => by
    rw [e] at m
    rcases List.mem_cons.mp m with m | m
    · rw [← m] at a; exact a.there
    · exact b.there m
theorem firmL_append {a b : List AV} (h : firmL a = true) (h' : firmL b = true) : firmL (a ++ b) = true := by
  rw [firmL_iff] at *
  intro x hx
  rcases List.mem_append.mp hx with q | q
  · exact h x q
  · exact h' x q

noncomputable def PApp (M : Model) (A : Around) (acc : Value) (J : Shared → Prop) (x : Value) (s : Shared) : Prop := wpAny M A (call (.builtin "list.append") [acc, x]) (fun zq s' => J s') (fun zq zq => False) s
noncomputable def PTst (M : Model) (A : Around) (elt : Expr) (env : Env) (acc : Value) (J : Shared → Prop) (ok : Bool) (s : Shared) : Prop := if ok = true then wpAny M A (eval elt env) (PApp M A acc J) (fun zq zq => False) s else J s
noncomputable def PAsg (M : Model) (A : Around) (ifs : List Expr) (elt : Expr) (env : Env) (acc : Value) (J : Shared → Prop) (_ : Unit) (s : Shared) : Prop :=
  wpAny M A (forIn ifs true fun c r => if r = true then do let ok ← isTrue c env (eval c env); pure (ForInStep.yield ok) else pure (ForInStep.yield r)) (PTst M A elt env acc J) (fun zq zq => False) s
noncomputable def PNxt (M : Model) (A : Around) (target : Expr) (ifs : List Expr) (elt : Expr) (env : Env) (acc : Value) (J K : Shared → Prop) (r : Option Value) (s : Shared) : Prop :=
  match r with
  | Option.none => K s
  | some v => wpAny M A (assign target env v) (PAsg M A ifs elt env acc J) (fun zq zq => False) s
theorem loop_name {prog : Program} {w : World} {A : Around} {s : Shared} {R : Result → Shared → Prop} {x : Str} {px : Pos} {elt iter : Expr} {ifs : List Expr} {scope : Scope} {pos : Pos} {it acc : Value} {env : Env} (I : Nat → Shared → Prop)
    (turn : ∀ n s (J : Shared → Prop), (∀ m s', m < n → I m s' → J s') → I n s → wpAny (model prog w) A (pyNext it) (PNxt (model prog w) A (.Name x px) ifs elt env acc J (R (.ok .next))) (fun zq zq => False) s)
    (n : Nat) (h : I n s) : codeAny (model prog w) A (.compLoop (.ListComp elt [⟨.Name x px, iter, ifs, 0⟩] scope pos) 0 it acc env) R s := by
  refine codeAny_compLoop_tests I (fun n s' h => wpAny_mono (turn n s' (fun s₅ => ∃ m, m < n ∧ I m s₅) (fun m s' a b => ⟨m, a, b⟩) h) (fun r s₁ h₁ => ?_) fun zq zq f => f.elim) n h
  cases r with
  | none => exact h₁
  | some v =>
    refine wpAny_mono (show wpAny _ _ _ _ _ _ from h₁) (fun zq s₂ h₂ => wpAny_mono (show wpAny _ _ _ _ _ _ from h₂) (fun ok s₃ h₃ => ?_) fun zq zq f => f.elim) fun zq zq f => f.elim
    cases ok with
    | false => exact h₃
    | true => exact wpAny_mono (show wpAny _ _ _ _ _ _ from h₃) (fun x s₄ h₄ => wpAny_mono (show wpAny _ _ _ _ _ _ from h₄) (fun zq zq h => h) fun zq zq f => f.elim) fun zq zq f => f.elim
inductive CInv (H H2 : Heap) (wr : Addr → Prop) (ows : List (Str × Addr)) (D C : Addr) (W' : Addr → Prop) (St : Nat → Heap → Prop) (tl : List AV → Option (List AV)) (items out : List AV) (fr : Bool) (s₂ : Shared) : Nat → Shared → Prop
  | mk (h' : Heap) (tk : Nat) (i : Nat) (done : List AV) (vs : List Value) (hi : i ≤ items.length) (st : St i h') (pl : h'.PlainList D (List.toArray vs)) (ns : ∃ m, h'.Ns C m)
      (oc : ∀ n c, (n, c) ∈ ows → ∃ ov, h'.IsCell c ov) (rl : RepL W' h' done vs) (fl : firmL done = true) (rest : List AV) (hr : tl (items.drop i) = some rest) (hro : done ++ rest = out)
      (kk : ∀ b o, ¬ wr b → H2.get? b = some o → tabby o = false → h'.get? b = some o) (nn : ∀ b, h'.get? b = Option.none → H2.get? b = Option.none) (tb : TB H h')
      (hfr : fr = true → ∃ ds : List Addr, vs = ds.map Value.ref ∧ ds.Nodup ∧ ∀ d ∈ ds, H2.get? d = Option.none) (hle : done.length ≤ i) :
      CInv H H2 wr ows D C W' St tl items out fr s₂ (items.length + 1 - i) { s₂ with heap := h', toks := tk }
theorem comp_core {fr : Bool} {x : Str} {px : Pos} {iter elt : Expr} {ifs : List Expr} {scope : Scope} {pos pos' : Pos} {ix : List Nat} {fi : List Slot → Option (List AV)} {ft : List Slot → Option Bool} {fe : List Slot → Option AV}
    (chk : compChk sc scope.names names x ix = true) (hsk : scope.kind = .function)
    (ci : EvI G W k names sc iter fi) (ct : ∀ W, TestsS G W k (cvars names x ix) (relab sc scope.names) ifs ft) (ce : ∀ W, EvB fr G W k (cvars names x ix) (relab sc scope.names) elt fe)
    {env : Env} {sl : List Slot} (ro : Room A k) (ef : EnvF env sc) (rs : RS W env names sl s.heap) (ba : Base G W s) {items out : List AV} (hi : fi sl = some items) (hf : firmL items = true) (hn : items.length < 1000000)
    (ho : compV ft fe (cslots sl ix) items = some out)
    {use : Option (Value → Sem Unit)} {Q : Value → Shared → Prop}
    (hQ : ∀ D C s' vs, Ext s s' → s.heap.get? D = Option.none → s.heap.get? C = Option.none → D ≠ C → (∃ m, s'.heap.Ns C m) → s'.heap.PlainList D (List.toArray vs) → RepL (fun b => W b ∨ b = D ∨ b = C) s'.heap out vs → firmL out = true →
      (fr = true → ∃ ds : List Addr, vs = ds.map Value.ref ∧ ds.Nodup ∧ ∀ d ∈ ds, s.heap.get? d = Option.none) → compPost G.M A (fun zq zq => False) use Q (.ref D) C (.ok .next) s')
    (hs : ∀ x, foldedSetIterable iter env x = pure x) :
    wpAny G.M A (comprehension (.ListComp elt [⟨.Name x px, iter, ifs, 0⟩] scope pos) scope env pos' (newList []) false (eval iter env) use) Q (fun zq zq => False) s := by
  unfold compChk at chk
  simp only [Bool.and_eq_true, Bool.or_eq_true, List.all_eq_true, beq_iff_eq, bne_iff_ne, ne_eq] at chk
  obtain ⟨⟨⟨⟨c1, c2⟩, c3⟩, c4⟩, c5⟩ := chk
  obtain ⟨cl, hclos, hcl1, hcl2⟩ := closure_is (scope := scope) (env := env) (fun y hy hk => by
    rcases c2 y hy with (h | h) | h
    · exact absurd hk h
    · exact ef.cells _ _ h (.inl rfl)
    · exact ef.cells _ _ h (.inr rfl))
  refine wpAny_comprehension_free rfl hs hclos hsk (fun y hy hk => (c3 y hy).resolve_left (fun h => h hk)) ?_
  refine ci A env s sl ro ef rs ba items hi _ fun I s₂ fp wr P St x₂ Wk st0 hfp hwr hfw hws hP => ?_
  refine wpAny_newObj_type (newEnv_comp ?_)
  dsimp only
  have hsz0 : s₂.heap.objs.size = s₂.heap.objs.size := rfl
  generalize hH2 : s₂.heap.push { cls := .type "list", dict := none, data := .seq ([] : List Value).toArray } = H2
  have hC : H2.objs.size = s₂.heap.objs.size + 1 := by rw [← hH2, Heap.size_push]
  generalize hH3 : H2.push { cls := .type "dict", data := .dict #[] } = H3
  have hC3 : H3.objs.size = H2.objs.size + 1 := by rw [← hH3, Heap.size_push]
  have ok := cellsFrom_ok scope.names H3 H3.objs.size [] ⟨fun zq zq hm => (nomatch hm), List.Pairwise.nil⟩ (Nat.le_refl _)
  rw [hC3] at ok
  have hDC : s₂.heap.objs.size ≠ H2.objs.size := by lia
  have k23 : FKept s₂.heap H3 := fun b o e => by rw [← hH3]; exact Heap.get?_push_of_some _ (by rw [← hH2]; exact Heap.get?_push_of_some _ e)
  have k24 : FKept s₂.heap (pushCells H3 scope.names) := fun b o e => pushCells_keeps _ _ _ _ (k23 b o e)
  have hD4 : (pushCells H3 scope.names).PlainList s₂.heap.objs.size (List.toArray []) := ⟨_, pushCells_keeps _ _ _ _ (by rw [← hH3]; exact Heap.get?_push_of_some _ (by rw [← hH2]; exact Heap.get?_push_size _ rfl))⟩
  have hC4 : (pushCells H3 scope.names).Ns H2.objs.size (fun zq => none) := by
    have := (Heap.Ns.new H2 (.type "dict"))
    rw [hH3] at this
    exact this.keeps (pushCells_keeps _ _)
  generalize hH4 : pushCells H3 scope.names = H4 at ok k24 hD4 hC4
  generalize hown : cellsFrom (H2.objs.size + 1) scope.names [] = own at ok
  generalize hDd : s₂.heap.objs.size = D at *
  generalize hCd : H2.objs.size = C at *
  as_aux_lemma =>
  have mem_own_x : ∀ n c, (n, c) ∈ own → n = x ∧ scope.names.lookup x = some .cell := fun n c h => by
    rw [← hown] at h
    rcases c4 _ (own_mem h) with q | q
    · exact absurd rfl q
    · exact q
  have hownx : scope.names.lookup x = some .cell → ∃ c, own.lookup x = some c := fun h => by
    obtain ⟨c, hc⟩ := mem_own (n := C + 1) (mem_of_lookup h)
    rw [hown] at hc; exact lookup_of_mem hc
  have hownn : ∀ y, y ≠ x → own.lookup y = none := fun y h => by
    cases q : own.lookup y with
    | none => rfl
    | some c => exact absurd (mem_own_x _ _ (mem_of_lookup q)).1 h
  have hkindOf : ∀ y, (compEnvC scope (own ++ cl) C env).kindOf y = (relab sc scope.names).lookup y := fun y => by
    show (relabel scope env).names.lookup y = _
    rw [relabel_names ef]
  have ef' : EnvF (compEnvC scope (own ++ cl) C env) (relab sc scope.names) := by
    refine ⟨hsk, ef.globals, ef.builtins, relabel_names ef, fun y kd e hkd => ?_⟩
    rw [lookup_relab] at e
    obtain ⟨k0, h1, h2⟩ := Option.map_eq_some_iff.mp e
    show ∃ c, (own ++ cl).lookup y = some c
    rw [lookup_append]
    by_cases h0 : k0 = .free
    · subst h0
      obtain ⟨c, hc⟩ := hcl2 y (mem_of_lookup h1)
      cases q : own.lookup y with
      | none => exact ⟨c, by rw [hc]; rfl⟩
      | some d => exact ⟨d, rfl⟩
    · have hk0 : k0 = kd := by rw [← h2, if_neg (by simp [h0])]
      have : k0 = .cell := by rw [hk0]; exact hkd.resolve_right (fun e => h0 (hk0.trans e))
      subst this
      rcases c4 _ (mem_of_lookup h1) with q | q
      · exact absurd rfl q
      · obtain ⟨c, hc⟩ := hownx q.2
        refine ⟨c, ?_⟩
        have q1 : y = x := q.1
        rw [q1, hc]; rfl
  have ge : ∀ a, s₂.heap.objs.size ≤ a → s₂.heap.get? a = none := fun a h => by
    cases q : s₂.heap.get? a with
    | none => rfl
    | some o => exact absurd (Heap.lt_size q) (Nat.not_lt.mpr h)
  rw [hDd] at ge
  have hown2 : ∀ n c, (n, c) ∈ own → s₂.heap.get? c = none ∧ C < c := fun n c h => by
    have := (ok.empty n c h).2
    exact ⟨ge c (by lia), by lia⟩
  generalize hWd : (fun b => W b ∨ b ∈ wr ∨ b = D ∨ b = C ∨ ∃ n, (n, b) ∈ own) = W'
  have eW : ∀ b, W' b ↔ (W b ∨ b ∈ wr ∨ b = D ∨ b = C ∨ ∃ n, (n, b) ∈ own) := fun b => by rw [← hWd]
  clear hWd
  as_aux_lemma =>
  have hW2 : ∀ b, (s₂.heap.get? b).isSome = true → W' b → W b ∨ b ∈ wr := fun b h w => by
    rcases (eW b).mp w with w | w | w | w | ⟨n, w⟩
    · exact .inl w
    · exact .inr w
    · subst w; rw [ge b (Nat.le_refl _)] at h; cases h
    · subst w; rw [ge b (by lia)] at h; cases h
    · rw [(hown2 n b w).1] at h; cases h
  have hW1 : ∀ b, (s.heap.get? b).isSome = true → W' b → W b := fun b h w => by
    rcases hW2 b (x₂.some h) w with q | q
    · exact q
    · rw [hwr b q] at h; cases h
  have kS : ∀ h' : Heap, (∀ b o, b ∉ wr → s₂.heap.get? b = some o → tabby o = false → h'.get? b = some o) → Kept s.heap h' := fun h' kk b o e hs =>
    kk b o (fun m => by rw [hwr b m] at e; cases e) (x₂.kept b o e hs) hs
  have tb₂ : TB s.heap s₂.heap := x₂.tb ba.tb.self
  have hmain : mainGlobals < s₂.heap.objs.size := by
    obtain ⟨mg, n⟩ := tb₂.main
    exact n.lt
  rw [hDd] at hmain
  have noM : ∀ a : Addr, D ≤ a → a ≠ mainGlobals := fun a h e => by rw [e] at h; exact Nat.lt_irrefl _ (Nat.lt_of_lt_of_le hmain h)
  have base' : ∀ (s' : Shared) (i : Nat), St i s'.heap → TB s.heap s'.heap → (∀ b, s'.heap.get? b = none → s₂.heap.get? b = none) → (∀ b o, b ∉ wr → s₂.heap.get? b = some o → tabby o = false → s'.heap.get? b = some o) → (∃ us, s'.heap.PlainList D us) → (∃ m, s'.heap.Ns C m) → (∀ n c, (n, c) ∈ own → ∃ ov, s'.heap.IsCell c ov) → Base G W' s' := by
    intro s' i hst tb' nn kk hd hc hcs
    have n0 : ∀ b, s.heap.get? b = none → G.h₀.get? b = none := fun b e => ba.gone b e
    have n2 : ∀ b, s₂.heap.get? b = none → G.h₀.get? b = none := fun b e => n0 b (x₂.gone e)
    refine ⟨fun b o e hs => kS _ kk b o (ba.keep b o e hs) hs, fun b e => n2 b (nn b e), ba.tb.trans tb', fun b w => ?_⟩
    rcases (eW b).mp w with w | w | w | w | ⟨n, w⟩
    · refine ⟨?_, (ba.above b w).2⟩
      cases q : s'.heap.get? b with
      | none => have := (ba.above b w).1; rw [x₂.gone (nn b q)] at this; cases this
      | some o => rfl
    · obtain ⟨o, ho, _⟩ := (hws i _ hst).1 b w; exact ⟨by rw [ho]; rfl, n0 b (hwr b w)⟩
    · subst w; obtain ⟨us, _, h⟩ := hd; exact ⟨by rw [h]; rfl, n2 _ (ge _ (Nat.le_refl _))⟩
    · subst w; obtain ⟨m, o, _, _, h, _⟩ := hc; exact ⟨by rw [h]; rfl, n2 _ (ge _ (by lia))⟩
    · obtain ⟨ov, o, h, _⟩ := hcs n b w; exact ⟨by rw [h]; rfl, n2 _ (hown2 n b w).1⟩
  have rs' : ∀ (h' : Heap) (v : Value) (a : AV), Kept s.heap h' → Loads (compEnvC scope (own ++ cl) C env) h' x (some v) → RepV W' h' a v → a.firm = true →
      RS W' (compEnvC scope (own ++ cl) C env) (cvars names x ix) (cslots sl ix a) h' := by
    intro h' v a kk hl hr hfa i y sv hy hsv hne
    cases i with
    | zero =>
      simp only [cvars, cslots, List.getElem?_cons_zero, Option.some.injEq] at hy hsv
      subst hy; subst hsv
      exact ⟨_, hl, v, rfl, hr, hfa⟩
    | succ j =>
      simp only [cvars, cslots, List.getElem?_cons_succ, List.getElem?_map] at hy hsv
      obtain ⟨i0, e0, hy⟩ := Option.map_eq_some_iff.mp hy
      rw [e0] at hsv
      simp only [Option.map_some] at hsv
      have hm := List.mem_of_getElem? e0
      have c5' := c5 i0 hm
      cases hn0 : names[i0]? with
      | none => rw [hn0] at c5'; cases c5'
      | some y0 =>
        rw [hn0] at c5' hy
        simp only [Option.getD_some] at hy
        subst hy
        simp only [Bool.and_eq_true, bne_iff_ne, ne_eq, beq_iff_eq] at c5'
        cases hs0 : sl[i0]? with
        | none =>
          rw [hs0] at hsv
          simp only [Option.getD_none, Option.some.injEq] at hsv
          exact absurd hsv.symm hne
        | some sv0 =>
          rw [hs0] at hsv
          simp only [Option.getD_some, Option.some.injEq] at hsv
          subst hsv
          obtain ⟨ov, l, r⟩ := rs i0 y0 sv0 hn0 hs0 hne
          refine ⟨ov, .inr ?_, r.shift kk hW1⟩
          have hko : env.kindOf y0 = sc.lookup y0 := by unfold Env.kindOf; rw [ef.names]
          have hsc : sc.lookup y0 = some .cell ∨ sc.lookup y0 = some .free := by
            rcases c2 _ (mem_of_lookup c5'.2) with (h | h) | h
            · exact absurd rfl h
            · exact .inl h
            · exact .inr h
          rcases l with ⟨q, _⟩ | ⟨_, c, hc, isc⟩
          · rw [hko] at q
            rcases hsc with h | h <;> rw [h] at q <;> cases q
          · refine ⟨?_, c, ?_, IsCell.keepsK isc kk⟩
            · rw [hkindOf, lookup_relab, c5'.2]
              by_cases h : sc.lookup y0 = some .cell
              · left; simp [h]
              · right; simp [h]
            · show (own ++ cl).lookup y0 = some c
              rw [lookup_append, hownn y0 c5'.1]
              obtain ⟨c', h'⟩ := hcl2 y0 (mem_of_lookup c5'.2)
              have := hcl1 _ _ h'
              rw [hc] at this
              cases this
              rw [h']; rfl
  have hwlt : ∀ b ∈ wr, b < D := fun b hb => hfp b (Wk.sub b hb)
  have hwC : C ∉ wr := fun h => by have := ltN (hwlt _ h); lia
  have hwD : D ∉ wr := fun h => by have := ltN (hwlt _ h); lia
  have hwO : ∀ n c, (n, c) ∈ own → c ∉ wr := fun n c h q => by have := ltN (hwlt _ q); have := ltN (hown2 n c h).2; lia
  have hlook : ∀ y, (compEnvC scope (own ++ cl) C env).cells.lookup y = (own ++ cl).lookup y := fun zq => rfl
  have hloc : (compEnvC scope (own ++ cl) C env).locals = C := rfl
  have hkd : (compEnvC scope (own ++ cl) C env).scope.kind = .function := hsk
  suffices loop : ∀ s₃ : Shared, (∃ tk, s₃ = { s₂ with heap := H4, toks := tk }) →
      codeAny G.M A (.compLoop (.ListComp elt [⟨.Name x px, iter, ifs, 0⟩] scope pos) 0 (.ref I) (.ref D) (compEnvC scope (own ++ cl) C env)) (compPost G.M A (fun zq zq => False) use Q (.ref D) C) s₃ from
    codeAny_compStart_list (loop { s₂ with heap := H4 } ⟨s₂.toks, rfl⟩) (Wk.self 0 _ _ _ (Wk.frame 0 _ _ st0 fun b zq o e => k24 b o e) (loop { s₂ with heap := H4 } ⟨s₂.toks, rfl⟩))
  generalize compEnvC scope (own ++ cl) C env = env' at *
  have hQ' := hQ D C
  clear hQ
  generalize compPost G.M A (fun zq zq => False) use Q (.ref D) C = R at *
  as_aux_lemma =>
    rintro _ ⟨tk0, rfl⟩
    refine loop_name (CInv s.heap s₂.heap (· ∈ wr) own D C W' St (compV ft fe (cslots sl ix)) items out fr s₂) ?_ (items.length + 1)
      (.mk H4 tk0 0 [] [] (Nat.zero_le _) (Wk.frame 0 _ _ st0 (fun b zq o e => k24 b o e)) hD4 ⟨_, hC4⟩ (fun n c h => ⟨none, (ok.empty n c h).1⟩) rfl rfl out ho rfl (fun b o zq e zq => k24 b o e) (none_full k24) (tb₂.keeps k24) (fun zq => ⟨[], rfl, List.nodup_nil, fun d hd => by cases hd⟩) (Nat.le_refl _))
    rintro _ _ J hJ ⟨h', tk, i, done, vs, hi', st, pl, ns, oc, rl, fl, rest, hr, hro, kk, nn, tb', hfr, hle⟩
    by_cases hlt : i < items.length
    · refine Wk.item i _ _ _ hlt st fun v h₁ tk₁ hPv st₁ kk₁ => ?_
      dsimp only at kk₁
      have tb₁ : TB s.heap h₁ := tb'.wr kk₁ (hws _ _ st).1
      have nn₁ : ∀ b, h₁.get? b = none → h'.get? b = none := none_wr kk₁ fun b hb => by obtain ⟨o, ho, _⟩ := (hws _ _ st₁).1 b hb; rw [ho]; rfl
      have ns₁ : ∃ m, h₁.Ns C m := let ⟨m, o, es, ep, e, r⟩ := ns; ⟨m, o, es, ep, kk₁ _ _ hwC e, r⟩
      have oc₁ : ∀ n c, (n, c) ∈ own → ∃ ov, h₁.IsCell c ov := fun n c h => let ⟨ov, o, e, r⟩ := oc n c h; ⟨ov, o, kk₁ _ _ (hwO n c h) e, r⟩
      have pl₁ : h₁.PlainList D (List.toArray vs) := let ⟨n, e⟩ := pl; ⟨n, kk₁ _ _ hwD e⟩
      show wpAny _ _ (assign (.Name x px) env' v) _ _ _
      refine assign_var (G := G) hkd ?_ fun a h₂ tk₂ ha sb => ?_
      · show _ ∨ _
        rcases c1 with h | h
        · exact .inl ⟨by rw [hkindOf, lookup_relab, h]; rfl, by rw [hloc]; exact ns₁⟩
        · obtain ⟨c, hc⟩ := hownx h
          obtain ⟨ov, hov⟩ := oc₁ x c (mem_of_lookup hc)
          refine .inr ⟨by rw [hkindOf, lookup_relab, h]; rfl, c, ov, ?_, hov⟩
          rw [hlook, lookup_append, hc]; rfl
      dsimp only at sb ha
      rw [hloc] at ha
      have ha' : a = C ∨ ∃ n, (n, a) ∈ own := by
        rcases ha with ⟨_, h, _⟩ | ⟨hk, h, _⟩
        · exact .inl h
        · refine .inr ⟨x, ?_⟩
          rw [hkindOf, lookup_relab] at hk
          have hxc : scope.names.lookup x = some .cell := by
            rcases c1 with q | q
            · rw [q] at hk; cases hk
            · exact q
          obtain ⟨c, hc⟩ := hownx hxc
          rw [hlook, lookup_append, hc] at h
          cases h
          exact mem_of_lookup hc
      have haW : W' a := (eW a).mpr (by rcases ha' with h | h; exact .inr (.inr (.inr (.inl h))); exact .inr (.inr (.inr (.inr h))))
      have haC : C ≤ a := by
        rcases ha' with h | ⟨n, h⟩
        · rw [h]; exact Nat.le_refl _
        · exact Nat.le_of_lt (hown2 n a h).2
      have haC' := leN haC
      have haD : a ≠ D := neN (by lia)
      have kk₂ : ∀ b o, b ∉ wr → s₂.heap.get? b = some o → tabby o = false → h₂.get? b = some o := fun b o hb e hs => by
        have : b ≠ a := fun q => by rw [q, ge a (leN (by lia))] at e; cases e
        exact sb.extBut b o this (kk₁ b o hb (kk b o hb e hs))
      have ca₁ : ∃ o, h₁.get? a = some o ∧ codey o = false := by
        rcases ha' with h | ⟨n, h⟩
        · obtain ⟨m, hm⟩ := ns₁; rw [h]; exact codey_ns hm
        · obtain ⟨ov, hov⟩ := oc₁ n a h; exact codey_cell hov
      have ca₂ : (h₂.get? a).isSome = true := by
        rcases ha with ⟨_, h, m, _, hm⟩ | ⟨_, _, hc⟩
        · rw [h]; obtain ⟨o, e, _⟩ := codey_ns hm; rw [e]; rfl
        · obtain ⟨o, e, _⟩ := codey_cell hc; rw [e]; rfl
      have tb₂' : TB s.heap h₂ := by obtain ⟨o, e, c⟩ := ca₁; exact tb₁.change (fun b o hb e => sb.extBut b o hb e) (noM a (leN (by lia))) e c
      have nn₂ : ∀ b, h₂.get? b = none → s₂.heap.get? b = none := fun b e => nn b (nn₁ b (none_but (fun b o hb e => sb.extBut b o hb e) ca₂ b e))
      have st₂ : St (i + 1) h₂ := Wk.frame _ _ _ st₁ fun b hb o e => sb.extBut b o (fun q => by have := ltN (hfp b hb); have q' := eqN q; lia) e
      have pl₂ : h₂.PlainList D (List.toArray vs) := let ⟨n, e⟩ := pl₁; ⟨n, sb.extBut _ _ (Ne.symm haD) e⟩
      have ns₂ : ∃ m, h₂.Ns C m := by
        rcases ha with ⟨_, h, m, _, hm⟩ | ⟨hk, h, hc⟩
        · exact ⟨_, hm⟩
        · obtain ⟨m, hm⟩ := ns₁
          have : a ≠ C := by
            rintro rfl
            obtain ⟨o, e1, e2⟩ := hc
            obtain ⟨o', es, ep, e3, e4⟩ := hm
            have h' : (own ++ cl).lookup x = some a := (hlook x).symm.trans h
            rcases ha' with _ | ⟨n, hn⟩
            · rw [hkindOf, lookup_relab] at hk
              rcases c1 with q | q
              · rw [q] at hk; cases hk
              · obtain ⟨c, hc⟩ := hownx q
                rw [lookup_append, hc] at h'
                cases h'
                exact Nat.lt_irrefl _ (hown2 _ _ (mem_of_lookup hc)).2
            · exact Nat.lt_irrefl _ (hown2 _ _ hn).2
          exact ⟨m, hm.sameBut sb (Ne.symm this)⟩
      have oc₂ : ∀ n c, (n, c) ∈ own → ∃ ov, h₂.IsCell c ov := fun n c hm => by
        by_cases q : c = a
        · rcases ha with ⟨_, h, _⟩ | ⟨_, _, hc⟩
          · have hCa : a = C := h
            rw [q, hCa] at hm
            exact absurd (hown2 n C hm).2 (Nat.lt_irrefl _)
          · exact ⟨_, q ▸ hc⟩
        · obtain ⟨ov, hov⟩ := oc₁ n c hm
          exact ⟨ov, hov.sameBut sb q⟩
      have lo₂ : Loads env' h₂ x (some v) := by
        rcases ha with ⟨hk, h, m, _, hm⟩ | ⟨hk, h, hc⟩
        · exact .inl ⟨hk, _, hloc.symm ▸ hm, by simp⟩
        · exact .inr ⟨.inl hk, a, h, hc⟩
      have nk : ∀ b o, ¬ W' b → h'.get? b = some o → tabby o = false → h₂.get? b = some o := fun b o hb e zq =>
        sb.extBut b o (fun q => hb (q ▸ haW)) (kk₁ b o (fun q => hb ((eW b).mpr (.inr (.inl q)))) e)
      have rl₂ : RepL W' h₂ done vs := RepL.firm nk (fun zq zq w => w) _ _ fl rl
      obtain ⟨xi, hxi⟩ : ∃ xi, items[i]? = some xi := ⟨_, List.getElem?_eq_getElem hlt⟩
      have hxf : xi.firm = true := RepL.firmL_of_mem hf xi (List.mem_of_getElem? hxi)
      have rx : RepV W' h₂ xi v := RepV.firm (fun b o hb e hs => kk₂ b o (fun q => hb (.inr q)) e hs) hW2 _ _ hxf (hP i v xi hPv hxi)
      have hdrop : items.drop i = xi :: items.drop (i + 1) := by
        rw [List.drop_eq_getElem_cons hlt]
        rw [List.getElem?_eq_getElem hlt] at hxi
        cases hxi; rfl
      rw [hdrop] at hr
      obtain ⟨b, hb, hr⟩ := Option.bind_eq_some_iff.mp hr
      have kS₂ := kS h₂ kk₂
      refine noE (ct W' A _ _ _ ro ef' (rs' h₂ v xi kS₂ lo₂ rx hxf) (base' _ (i + 1) st₂ tb₂' nn₂ kk₂ ⟨_, pl₂⟩ ns₂ oc₂) b hb _ fun s₃ x₃ => ?_)
      obtain ⟨h₃, tk₃, rfl, k₃, n₃, t₃⟩ := x₃
      dsimp only at k₃ n₃ t₃
      have kk₃ : ∀ b o, b ∉ wr → s₂.heap.get? b = some o → tabby o = false → h₃.get? b = some o := fun b o hb e hs => k₃ b o (kk₂ b o hb e hs) hs
      have st₃ : St (i + 1) h₃ := Wk.frame _ _ _ st₂ fun b hb o e => k₃ b o e ((hws _ _ st₂).2 b hb o e)
      have nn₃ : ∀ b, h₃.get? b = none → s₂.heap.get? b = none := fun b e => nn₂ b (n₃ b e)
      cases b with
      | false =>
        rw [if_neg (by decide)] at hr
        exact hJ (items.length + 1 - (i + 1)) _ (by lia) (.mk h₃ tk₃ (i + 1) done vs hlt st₃ (PlainList.grow k₃ pl₂) (let ⟨m, hm⟩ := ns₂; ⟨m, Ns.keepsK hm k₃⟩) (fun n c hm => let ⟨ov, ho⟩ := oc₂ n c hm; ⟨ov, IsCell.keepsK ho k₃⟩)
          (rl₂.grow k₃) fl rest hr hro kk₃ nn₃ (t₃ _ tb₂') hfr (Nat.le_succ_of_le hle))
      | true =>
        rw [if_pos rfl] at hr
        show wpAny _ _ (eval elt env') _ _ _
        obtain ⟨y, hy, hr⟩ := Option.bind_eq_some_iff.mp hr
        split at hr
        · next hyf =>
          obtain ⟨rest', hr', hrr⟩ := Option.map_eq_some_iff.mp hr
          subst hrr
          refine noE (ce W' A _ _ _ ro ef' (rs' h₃ v xi (kS h₃ kk₃) (lo₂.grow k₃) (rx.grow k₃) hxf) (base' _ (i + 1) st₃ (t₃ _ tb₂') nn₃ kk₃ ⟨_, PlainList.grow k₃ pl₂⟩ (let ⟨m, hm⟩ := ns₂; ⟨m, Ns.keepsK hm k₃⟩) fun n c hm => let ⟨ov, ho⟩ := oc₂ n c hm; ⟨ov, IsCell.keepsK ho k₃⟩) y hy _ fun u s₄ x₄ r₄ f₄ => ?_)
          obtain ⟨h₄, tk₄, rfl, k₄, n₄, t₄⟩ := x₄
          dsimp only at k₄ r₄ f₄ n₄ t₄
          have k34 : Kept h₂ h₄ := fun b o e hs => k₄ b o (k₃ b o e hs) hs
          have hvl := rl.length
          show wpAny _ _ (call (.builtin "list.append") [.ref D, u]) _ _ _
          refine wpAny_list_append_plain (hsz := by rw [List.size_toArray, hvl, sizeLine_eq]; lia) (PlainList.grow k34 pl₂) fun h₅ pl₅ sb₅ => ?_
          dsimp only at sb₅
          have hDW : W' D := (eW D).mpr (.inr (.inr (.inl rfl)))
          have nk₅ : ∀ b o, ¬ W' b → h₄.get? b = some o → tabby o = false → h₅.get? b = some o := fun b o hb e zq => sb₅.extBut b o (fun q => hb (q ▸ hDW)) e
          refine hJ (items.length + 1 - (i + 1)) _ (by lia) (.mk h₅ tk₄ (i + 1) (done ++ [y]) (vs ++ [u]) hlt ?_ (by simpa using pl₅) ?_ ?_ ?_ (firmL_append fl (by simp [firmL, hyf])) rest' hr' (by rw [List.append_assoc]; exact hro) ?_ ?_ ?_ ?_ (by simp; lia))
          · exact Wk.frame _ _ _ st₃ fun b hb o e => sb₅.extBut b o (fun q => by have := ltN (hfp b hb); have q' := eqN q; lia) (k₄ b o e ((hws _ _ st₃).2 b hb o e))
          · obtain ⟨m, hm⟩ := ns₂
            exact ⟨m, (Ns.keepsK hm k34).sameBut sb₅ (neN (by lia))⟩
          · intro n c hm
            obtain ⟨ov, ho⟩ := oc₂ n c hm
            exact ⟨ov, (IsCell.keepsK ho k34).sameBut sb₅ (neN (by have := ltN (hown2 n c hm).2; lia))⟩
          · exact RepL.firm nk₅ (fun zq zq w => w) _ _ (firmL_append fl (by simp [firmL, hyf])) ((rl₂.grow k34).append (RepL.one r₄))
          · exact fun b o hb e hs => sb₅.extBut b o (fun q => by rw [q, ge D (Nat.le_refl _)] at e; cases e) (k₄ b o (kk₃ b o hb e hs) hs)
          · exact fun b e => nn₃ b (n₄ b (none_but (fun b o hb e => sb₅.extBut b o hb e) (by obtain ⟨_, e⟩ := pl₅; rw [e]; rfl) b e))
          · obtain ⟨o, e, c⟩ := codey_list (PlainList.grow k34 pl₂)
            exact (t₄ _ (t₃ _ tb₂')).change (fun b o hb e => sb₅.extBut b o hb e) (noM D (Nat.le_refl _)) e c
          · intro hfr1
            obtain ⟨ds, e1, e2, e3⟩ := hfr hfr1
            obtain ⟨d, e4, e5⟩ := f₄ hfr1
            refine ⟨ds ++ [d], by rw [e1, e4]; simp, ?_, ?_⟩
            · rw [List.nodup_append]
              refine ⟨e2, by simp, ?_⟩
              intro a1 h1 b1 h2 hab
              rw [List.mem_singleton.mp h2] at hab
              subst hab
              have := (rl₂.grow k₃).there (d := a1) (by rw [e1]; exact List.mem_map_of_mem h1)
              rw [e5] at this; cases this
            · intro d1 h1
              rcases List.mem_append.mp h1 with h1 | h1
              · exact e3 d1 h1
              · rw [List.mem_singleton.mp h1]
                exact nn₃ d e5
        · cases hr
    · have hin : i = items.length := by lia
      refine Wk.done _ _ _ (hin ▸ st) fun h₁ tk₁ kk₁ => ?_
      dsimp only at kk₁ ⊢
      rw [hin, List.drop_length] at hr
      cases hr
      rw [List.append_nil] at hro
      subst hro
      have kk1 : ∀ b o, b ∉ wr → s₂.heap.get? b = some o → tabby o = false → h₁.get? b = some o := fun b o hb e hs => kk₁ b o hb (kk b o hb e hs)
      have ex₁ : ∀ b, h₁.get? b = none → s.heap.get? b = none := fun b e => by
        by_cases m : b ∈ wr
        · exact hwr b m
        · refine x₂.gone (nn b ?_)
          cases q : h'.get? b with
          | none => rfl
          | some o => rw [kk₁ b o m q] at e; cases e
      have xx : Ext s { s₂ with heap := h₁, toks := tk₁ } := by
        obtain ⟨hh, tt, e, _⟩ := x₂
        exact ⟨h₁, tk₁, by rw [e], kS h₁ kk1, ex₁, fun H t => t.trans (tb'.wr kk₁ (hws _ _ (hin ▸ st)).1)⟩
      refine hQ' _ vs xx (x₂.gone (ge D (Nat.le_refl _))) (x₂.gone (ge C (leN (by lia)))) (by lia) ?_ ?_ ?_ fl ?_
      · obtain ⟨m, o, es, ep, e, r⟩ := ns; exact ⟨m, o, es, ep, kk₁ _ _ hwC e, r⟩
      · obtain ⟨n, e⟩ := pl; exact ⟨n, kk₁ _ _ hwD e⟩
      · refine RepL.weaken (fun b w => (eW b).mpr ?_) _ _ (RepL.firm (W' := W') (fun b o hb e zq => kk₁ b o (fun q => hb ((eW b).mpr (.inr (.inl q)))) e) (fun zq zq w => w) _ _ fl rl)
        rcases w with w | w | w
        · exact .inl w
        · exact .inr (.inr (.inl w))
        · exact .inr (.inr (.inr (.inl w)))
      · intro hfr1
        obtain ⟨ds, e1, e2, e3⟩ := hfr hfr1
        exact ⟨ds, e1, e2, fun d hd => x₂.gone (e3 d hd)⟩

noncomputable def compF (fi : List Slot → Option (List AV)) (ft : List Slot → Option Bool) (fe : List Slot → Option AV) (ix : List Nat) : List Slot → Option (List AV) := fun sl =>
  (fi sl).bind fun items => if firmL items = true ∧ items.length < 1000000 then compV ft fe (cslots sl ix) items else Option.none

theorem RepL.firm_but {D C : Addr} {W : Addr → Prop} {h h' : Heap} (sb : Heap.SameBut C h h') {xs : List AV} {vs : List Value} (f : firmL xs = true) (r : RepL (fun b => W b ∨ b = D ∨ b = C) h xs vs) : RepL (fun b => W b ∨ b = D ∨ b = C) h' xs vs :=
  RepL.firm (fun b o hb e zq => sb.extBut b o (fun q => hb (.inr (.inr q))) e) (fun zq zq w => w) xs vs f r

theorem comp_plain {fr : Bool} {x : Str} {px : Pos} {iter elt : Expr} {ifs : List Expr} {scope : Scope} {pos : Pos} {ix : List Nat} {fi : List Slot → Option (List AV)} {ft : List Slot → Option Bool} {fe : List Slot → Option AV}
    (chk : compChk sc scope.names names x ix = true) (hsk : scope.kind = .function)
    (ci : EvI G W k names sc iter fi) (ct : ∀ W, TestsS G W k (cvars names x ix) (relab sc scope.names) ifs ft) (ce : ∀ W, EvB fr G W k (cvars names x ix) (relab sc scope.names) elt fe)
    {env : Env} {sl : List Slot} (ro : Room A k) (ef : EnvF env sc) (rs : RS W env names sl s.heap) (ba : Base G W s) {out : List AV} (ho : compF fi ft fe ix sl = some out)
    {Q : Value → Shared → Prop}
    (hQ : ∀ D s' vs, Ext s s' → s.heap.get? D = Option.none → s'.heap.PlainList D (List.toArray vs) → RepL (fun b => W b ∨ b = D) s'.heap out vs → firmL out = true →
      (fr = true → ∃ ds : List Addr, vs = ds.map Value.ref ∧ ds.Nodup ∧ ∀ d ∈ ds, s.heap.get? d = Option.none) → Q (.ref D) s')
    (hs : ∀ x, foldedSetIterable iter env x = pure x) :
    wpAny G.M A (eval (.ListComp elt [⟨.Name x px, iter, ifs, 0⟩] scope pos) env) Q (fun zq zq => False) s := by
  obtain ⟨items, h1, h2⟩ := Option.bind_eq_some_iff.mp ho
  split at h2
  · next hc =>
    rw [eval_ListComp]
    refine comp_core (use := none) (fr := fr) chk hsk ci ct ce ro ef rs ba h1 hc.1 hc.2 h2 (fun D C s' vs xx hD hC hDC hns hpl hrl hfl hfr => ?_) hs
    obtain ⟨m, hm⟩ := hns
    refine ⟨m, hm, fun h' sb => ?_⟩
    have xx' : Ext s { s' with heap := h' } := by
      refine xx.but ba.tb hC hm sb
    refine hQ D _ vs xx' hD (let ⟨n, e⟩ := hpl; ⟨n, sb.extBut _ _ hDC e⟩) (RepL.weaken ?_ _ _ (RepL.firm_but sb hfl hrl)) hfl hfr
    intro b w
    rcases w with w | w
    · exact .inl w
    · exact .inr (.inl w)
  · cases h2

theorem EvB.comp {fr : Bool} {x : Str} {px : Pos} {iter elt : Expr} {ifs : List Expr} {scope : Scope} {pos : Pos} (ix : List Nat) {fi : List Slot → Option (List AV)} {ft : List Slot → Option Bool} {fe : List Slot → Option AV}
    (chk : compChk sc scope.names names x ix = true) (hsk : scope.kind = .function)
    (ci : EvI G W k names sc iter fi) (ct : ∀ W, TestsS G W k (cvars names x ix) (relab sc scope.names) ifs ft) (ce : ∀ W, EvB fr G W k (cvars names x ix) (relab sc scope.names) elt fe)
    (hs : ∀ env x, foldedSetIterable iter env x = pure x) :
    EvB true G W k names sc (.ListComp elt [⟨.Name x px, iter, ifs, 0⟩] scope pos) (fun sl => (compF fi ft fe ix sl).map .lst) := by
  intro A env s sl ro ef rs ba av hf Q hQ
  obtain ⟨out, h1, rfl⟩ := Option.map_eq_some_iff.mp hf
  refine comp_plain chk hsk ci ct ce ro ef rs ba h1 (fun D s' vs xx hD hpl hrl hfl zq => ?_) (hs env)
  exact hQ _ s' xx ⟨D, vs, rfl, ba.new hD, hpl, hrl.weaken (fun b w => .inl w)⟩ fun zq => ⟨D, rfl, hD⟩
end
end Mine
end

section
open PySem PySem.W PyProof.Rows
set_option Elab.async false
set_option tactic.hygienic false
set_option maxRecDepth 100000
set_option linter.unusedVariables false


namespace Mine

noncomputable def listOf : AV → Option (List AV)
  | .lst xs => some xs
  | _ => none
theorem listOf_some {a : AV} {xs : List AV} (h : listOf a = some xs) : a = .lst xs := by cases a <;> cases h; rfl
noncomputable def signs (x : Str) : List AV := x.cps.toList.map fun c => .str ⟨#[c]⟩
noncomputable def strOf : AV → Option (List AV)
  | .str x => some (signs x)
  | _ => none
noncomputable def countUp (a b : Int) : List AV := (List.range (b - a).toNat).map fun i => .int (a + (i : Nat))
noncomputable def rangeV : List AV → Option (List AV)
  | [.int n] => if -1000000 < n ∧ n < 1000000 then some (countUp 0 n) else none
  | [.int a, .int b] => if -1000000 < a ∧ a < 1000000 ∧ b < 1000000 ∧ -1000000 < b then some (countUp a b) else none
  | _ => none

section
variable {G : Gl} {W : Addr → Prop} {k : Nat} {names : List Str} {sc : List (Str × NameKind)} {A : Around} {s : Shared} {E : Value → Shared → Prop}

set_option tactic.hygienic true in
theorem EvI.list {ex f} (h : EvS G W k names sc ex f) : EvI G W k names sc ex (fun sl => (f sl).bind listOf) := by
  intro A env s sl ro ef rs ba avs hf Q hQ
  obtain ⟨av, h1, h2⟩ := Option.bind_eq_some_iff.mp hf
  refine h A env s sl ro ef rs ba av h1 _ fun v s₁ x₁ r₁ => ?_
  obtain rfl := listOf_some h2
  obtain ⟨a, vs, rfl, hw, ⟨n, hl⟩, rl⟩ := r₁
  have hil : s₁.heap.IsList a (List.toArray vs) := ⟨_, hl, rfl, n, rfl⟩
  have hlt : a < s₁.heap.objs.size := Heap.lt_size hl
  have hne : a ≠ s₁.heap.objs.size := Nat.ne_of_lt hlt
  refine wpAny_pyIter_list hil ?_
  have wk := Walks.list (prog := G.prog) (w := G.w) (A := A) ro.handled s₁.heap.objs.size a hne (List.toArray vs)
  have hsz : (List.toArray vs).size = avs.length := by rw [List.size_toArray, rl.length]
  rw [hsz] at wk
  have st0 : (s₁.heap.push { cls := .type "list_iterator", data := .fields #[.ref a, .int 0 0] }).IsListIter s₁.heap.objs.size a 0 ∧ (s₁.heap.push { cls := .type "list_iterator", data := .fields #[.ref a, .int 0 0] }).IsList a (List.toArray vs) :=
    ⟨⟨_, Heap.get?_push_size _ rfl, rfl, rfl⟩, IsList.grow (Ext.push (s := s₁)).kept hil⟩
  refine hQ _ _ _ _ _ _ (x₁.trans .push) wk st0 ?_ ?_ ?_ ?_ ?_
  · intro b hb
    have : (s₁.heap.push { cls := .type "list_iterator", data := .fields #[.ref a, .int 0 0] }).objs.size = s₁.heap.objs.size + 1 := Heap.size_push ..
    show b < (s₁.heap.push { cls := .type "list_iterator", data := .fields #[.ref a, .int 0 0] }).objs.size
    rw [this]
    simp at hb
    rcases hb with rfl | rfl
    · exact Nat.lt_succ_self _
    · exact Nat.lt_succ_of_lt hlt
  · intro b hb
    rw [List.mem_singleton.mp hb]
    exact x₁.gone (get_size _)
  · intro b hb hnb
    simp at hb hnb
    rcases hb with rfl | rfl
    · exact absurd rfl hnb
    · exact ⟨hw, by show ((s₁.heap.push _).get? _).isSome = true; rw [Heap.get?_push_of_some _ hl]; rfl⟩
  · intro i h hst
    obtain ⟨⟨o, ho, hc, hd⟩, ⟨o', ho', hc', _⟩⟩ := hst
    refine ⟨fun b hb => ?_, fun b hb o₂ e => ?_⟩
    · rw [List.mem_singleton.mp hb]
      exact ⟨o, ho, iterO_of hc hd (by decide)⟩
    · simp at hb
      rcases hb with rfl | rfl
      · rw [ho] at e; cases e; exact solid_cls hc
      · rw [ho'] at e; cases e; exact solid_cls hc'
  · intro i v x hp hx
    obtain ⟨u, hu, ru⟩ := rl.get hx
    have : v = u := by
      have hp : (List.toArray vs)[i]? = some v := hp
      rw [List.getElem?_toArray, hu] at hp
      exact (Option.some.inj hp).symm
    rw [this]
    refine RepV.mono (fun b o zq e zq => Heap.get?_push_of_some _ e) (fun b o zq e zq => Heap.get?_push_of_some _ e) (fun b hb w => ?_) _ _ ru
    rcases w with w | w
    · exact w
    · rw [List.mem_singleton.mp w, get_size] at hb; cases hb

set_option tactic.hygienic true in
theorem strOf_some {a : AV} {xs : List AV} (h : strOf a = some xs) : ∃ x, a = .str x ∧ xs = signs x := by cases a <;> cases h; exact ⟨_, rfl, rfl⟩
theorem EvI.str {ex f} (h : EvS G W k names sc ex f) : EvI G W k names sc ex (fun sl => (f sl).bind strOf) := by
  intro A env s sl ro ef rs ba avs hf Q hQ
  obtain ⟨av, h1, h2⟩ := Option.bind_eq_some_iff.mp hf
  refine h A env s sl ro ef rs ba av h1 _ fun v s₁ x₁ r₁ => ?_
  obtain ⟨x, rfl, rfl⟩ := strOf_some h2
  obtain ⟨t, rfl⟩ := r₁
  have fin : ∀ (o : Obj) (St : Nat → Heap → Prop), Walks G.prog G.w A s₁.heap.objs.size [s₁.heap.objs.size] [s₁.heap.objs.size] x.cps.size (SignAt x) St → St 0 (s₁.heap.push o) →
      (∀ i h, St i h → ∃ o, h.get? s₁.heap.objs.size = some o ∧ iterO o = true) → Q (.ref s₁.heap.objs.size) { s₁ with heap := s₁.heap.push o } := by
    intro o St wk st hs
    have hsz : x.cps.size = (signs x).length := by simp [signs]
    rw [hsz] at wk
    refine hQ _ _ _ _ _ _ (x₁.trans .push) wk st ?_ ?_ ?_ ?_ ?_
    · intro b hb
      rw [List.mem_singleton.mp hb]
      show _ < (s₁.heap.push o).objs.size
      rw [Heap.size_push]; exact Nat.lt_succ_self _
    · intro b hb
      rw [List.mem_singleton.mp hb]
      exact x₁.gone (get_size _)
    · intro b hb hnb; exact absurd hb hnb
    · intro i h hst
      obtain ⟨o, ho, hi⟩ := hs i h hst
      refine ⟨fun b hb => ?_, fun b hb o₂ e => ?_⟩
      · rw [List.mem_singleton.mp hb]; exact ⟨o, ho, hi⟩
      · rw [List.mem_singleton.mp hb, ho] at e; cases e; exact (iterO_spec hi).2.1
    · intro i v y hp hy
      obtain ⟨c, u, e1, rfl⟩ := hp
      simp only [signs, List.getElem?_map, Array.getElem?_toList, e1, Option.map_some, Option.some.injEq] at hy
      subst hy
      exact ⟨_, rfl⟩
  cases ha : x.cps.all (· < 128)
  · exact wpAny_pyIter_wide ha (fin _ _ (Walks.strWide ro.handled _ x t) ⟨_, Heap.get?_push_size _ rfl, rfl, rfl⟩ fun i h ⟨o, ho, hc, hd⟩ => ⟨o, ho, iterO_of hc hd (by decide)⟩)
  · exact wpAny_pyIter_ascii ha (fin _ _ (Walks.strAscii ro.handled _ x t) ⟨_, Heap.get?_push_size _ rfl, rfl, rfl⟩ fun i h ⟨o, ho, hc, hd⟩ => ⟨o, ho, iterO_of hc hd (by decide)⟩)

theorem builtin_call {g : Str} {v : Value} {p q : Pos} {e : Expr} {es : List Expr} {f : List Slot → Option (List AV)} {env : Env} {sl : List Slot} {avs : List AV} {Q : Value → Shared → Prop} (hg : sc.lookup g = some .globalImplicit)
    (hd : (g == ("__debug__" : Str)) = false) (hne : g ≠ "__name__") (hm : G.mg g = Option.none) (hb : bootBuiltins g = some v) (hv : (∃ id, v = .builtin id) ∨ ∃ T, v = .type T) (ha : EvL G W k names sc (e :: es) f) (hn : notStar e = true)
    (hr : ∀ env pos, ((backTo pos (starEach es env)).any (·.1)) = false) (ro : Room A k) (ef : EnvF env sc) (rs : RS W env names sl s.heap) (ba : Base G W s) (hf : f sl = some avs)
    (hc : ∀ vs s₁, Ext s s₁ → RepL W s₁.heap avs vs → wpAny G.M A (PySem.call v vs) Q (fun zq zq => False) s₁) :
    wpAny G.M A (eval (.Call (.Name g p) (e :: es) [] q) env) Q (fun zq zq => False) s := by
  refine Call_ (wpAny_Name (load_builtin ef ba hg hm hne hb ?_) hd)
  have h : wpAny G.M A (spliced (backTo q (starEach (e :: es) env))) (fun vs s₁ => wpAny G.M A (PySem.call v vs) Q (fun zq zq => False) s₁) (fun zq zq => False) s :=
    ha.2 A env s sl q ro ef rs ba avs hf _ hc
  rcases hv with ⟨id, rfl⟩ | ⟨T, rfl⟩
  · exact PyProof.Rows.callWith_builtin1 h (starEach_cons hn) (hr _ _)
  · exact PyProof.Rows.callWith_type1 h (starEach_cons hn) (hr _ _)

theorem iter_range {r : Addr} {a b : Int} {t u v : Tok} {s₁ : Shared} {Q : Value → Shared → Prop} (ro : Room A k) (x₁ : Ext s s₁) (hr : IsRange s₁.heap r a b 1 t u v) (ha : -1000000 < a) (ha' : a < 1000000) (hb : b < 1000000) (hb' : -10000000 < b)
    (hQ : ∀ I s' fp wr P St, Ext s s' → Walks G.prog G.w A I fp wr (countUp a b).length P St → St 0 s'.heap → (∀ b ∈ fp, b < s'.heap.objs.size) → (∀ b ∈ wr, s.heap.get? b = Option.none) →
      (∀ b ∈ fp, b ∉ wr → ¬ W b ∧ (s'.heap.get? b).isSome = true) → (∀ i h, St i h → (∀ b ∈ wr, ∃ o, h.get? b = some o ∧ iterO o = true) ∧ ∀ b ∈ fp, ∀ o, h.get? b = some o → tabby o = false) →
      (∀ i v x, P i v → (countUp a b)[i]? = some x → RepV (fun b => W b ∨ b ∈ wr) s'.heap x v) → Q (.ref I) s') : wpAny G.M A (pyIter (.ref r)) Q E s₁ := by
  refine wpAny_pyIter_range hr (small_one (by lia) (by lia) (by lia) (by lia)) ?_
  have wk := Walks.range (prog := G.prog) (w := G.w) (A := A) ro.handled s₁.heap.objs.size a 1 (b - a).toNat
  have hsz : (b - a).toNat = (countUp a b).length := by simp [countUp]
  have hrs : Builtin.Range.rangeSize a b 1 = ((b - a).toNat : Int) := by rw [rangeSize_one]; split <;> lia
  have st0 : IsRangeIter (s₁.heap.push { cls := .type "range_iterator", data := .fields #[rawInt a, rawInt (Builtin.Range.rangeSize a b 1), rawInt 1] }) s₁.heap.objs.size (a + ((0 : Nat) : Int) * 1) (((b - a).toNat : Int) - ((0 : Nat) : Int)) 1 := by
    rw [hrs]
    have e1 : a + ((0 : Nat) : Int) * 1 = a := by simp
    have e2 : ((b - a).toNat : Int) - ((0 : Nat) : Int) = ((b - a).toNat : Int) := by simp
    rw [e1, e2]
    exact Heap.get?_push_size _ rfl
  rw [hsz] at wk
  refine hQ _ _ _ _ _ _ (x₁.trans .push) wk (by rw [← hsz]; exact st0) ?_ ?_ ?_ ?_ ?_
  · intro b' hb
    rw [List.mem_singleton.mp hb]
    show _ < (s₁.heap.push _).objs.size
    rw [Heap.size_push]; exact Nat.lt_succ_self _
  · intro b hb
    rw [List.mem_singleton.mp hb]
    exact x₁.gone (get_size _)
  · intro b hb hnb; exact absurd hb hnb
  · intro i h hst
    refine ⟨fun b hb => ?_, fun b hb o₂ e => ?_⟩
    · rw [List.mem_singleton.mp hb]; exact ⟨_, hst, rfl⟩
    · have e2 : h.get? s₁.heap.objs.size = some o₂ := by rw [← List.mem_singleton.mp hb]; exact e
      rw [show h.get? s₁.heap.objs.size = some _ from hst] at e2
      cases e2; rfl
  · intro i v y hp hy
    obtain ⟨t, rfl⟩ := hp
    simp only [countUp, List.getElem?_map] at hy
    obtain ⟨j, hj, rfl⟩ := Option.map_eq_some_iff.mp hy
    have : j = i := by
      rw [List.getElem?_range] at hj
      · exact (Option.some.inj hj).symm
      · have := (List.getElem?_eq_some_iff.mp hj).1
        simpa using this
    subst this
    exact ⟨t, by simp⟩

set_option tactic.hygienic true in
theorem EvI.range {p q : Pos} {e : Expr} {es : List Expr} {f : List Slot → Option (List AV)} (hg : sc.lookup ("range" : Str) = some .globalImplicit) (hm : G.mg ("range" : Str) = Option.none) (ha : EvL G W k names sc (e :: es) f) (hn : notStar e = true)
    (hr : ∀ env pos, ((backTo pos (starEach es env)).any (·.1)) = false) : EvI G W k names sc (.Call (.Name ("range" : Str) p) (e :: es) [] q) (fun sl => (f sl).bind rangeV) := by
  intro A env s sl ro ef rs ba avs hf Q hQ
  obtain ⟨args, h1, h2⟩ := Option.bind_eq_some_iff.mp hf
  refine builtin_call (v := .type "range") hg (by decide +kernel) (by decide +kernel) hm (by kernel_rfl) (.inr ⟨_, rfl⟩) ha hn hr ro ef rs ba h1 fun vs s₁ x₁ r₁ => ?_
  unfold rangeV at h2
  split at h2
  · next n =>
    split at h2
    · next hn =>
      cases h2
      obtain ⟨v, q, rfl, ⟨t, rfl⟩, rfl⟩ := r₁
      exact call_range_1 (iter_range ro (x₁.trans (.of fun zq zq e => Heap.get?_push_of_some _ e)) (IsRange.new _ _ _ _ _ _ _) (by lia) (by lia) hn.2 (by lia) hQ)
    · cases h2
  · next a b =>
    split at h2
    · next hn =>
      cases h2
      obtain ⟨v, q, rfl, ⟨t, rfl⟩, ⟨v', q', rfl, ⟨t', rfl⟩, rfl⟩⟩ := r₁
      exact call_range_2 (iter_range ro (x₁.trans (.of fun zq zq e => Heap.get?_push_of_some _ e)) (IsRange.new _ _ _ _ _ _ _) hn.1 hn.2.1 hn.2.2.1 (by lia) hQ)
    · cases h2
  · cases h2
end
end Mine
end

section
open PySem PySem.W PyProof.Rows
set_option Elab.async false
set_option tactic.hygienic false
set_option maxRecDepth 100000
set_option linter.unusedVariables false


namespace Mine

section
variable {G : Gl} {W : Addr → Prop} {k : Nat} {names : List Str} {sc : List (Str × NameKind)} {A : Around} {s : Shared} {E : Value → Shared → Prop}

set_option tactic.hygienic true in
theorem EvI.rev {p q : Pos} {e : Expr} {f : List Slot → Option AV} (hg : sc.lookup ("reversed" : Str) = some .globalImplicit) (hm : G.mg ("reversed" : Str) = Option.none) (he : EvS G W k names sc e f) (hn : notStar e = true) :
    EvI G W k names sc (.Call (.Name ("reversed" : Str) p) [e] [] q) (fun sl => ((f sl).bind listOf).map List.reverse) := by
  intro A env s sl ro ef rs ba avs hf Q hQ
  obtain ⟨xs, h0, rfl⟩ := Option.map_eq_some_iff.mp hf
  obtain ⟨av, h1, h2⟩ := Option.bind_eq_some_iff.mp h0
  refine builtin_call (v := .type "reversed") hg (by decide +kernel) (by decide +kernel) hm (by kernel_rfl) (.inr ⟨_, rfl⟩) (EvL.cons he EvL.nil hn) hn (fun zq zq => rfl) ro ef rs ba (avs := [av]) (by simp [consV, h1]) fun vs0 s₁ x₁ r₁ => ?_
  obtain ⟨v, q, rfl, r₁, rfl⟩ := r₁
  obtain rfl := listOf_some h2
  obtain ⟨a, vs, rfl, hw, ⟨n, hl⟩, rl⟩ := r₁
  have hil : s₁.heap.IsList a (List.toArray vs) := ⟨_, hl, rfl, n, rfl⟩
  have hlt : a < s₁.heap.objs.size := Heap.lt_size hl
  have hne : a ≠ s₁.heap.objs.size := Nat.ne_of_lt hlt
  refine call_reversed_list hil ?_
  have wk := Walks.listRev (prog := G.prog) (w := G.w) (A := A) ro.handled s₁.heap.objs.size a hne (List.toArray vs)
  have hsz : (List.toArray vs).size = xs.reverse.length := by rw [List.size_toArray, rl.length, List.length_reverse]
  have hit : (s₁.heap.push (revObj a (((List.toArray vs).size : Int) - 1))).IsRevIter s₁.heap.objs.size a (((List.toArray vs).size : Int) - 1 - ((0 : Nat) : Int)) := ⟨_, Heap.get?_push_size _ rfl, rfl, by simp [revObj]⟩
  have st0 : 0 ≤ (List.toArray vs).size ∧ (s₁.heap.push (revObj a (((List.toArray vs).size : Int) - 1))).IsRevIter s₁.heap.objs.size a (((List.toArray vs).size : Int) - 1 - ((0 : Nat) : Int)) ∧ (s₁.heap.push (revObj a (((List.toArray vs).size : Int) - 1))).IsList a (List.toArray vs) :=
    ⟨Nat.zero_le _, hit, IsList.grow (Ext.push (s := s₁)).kept hil⟩
  rw [hsz] at wk
  rw [← hsz] at wk
  refine wpAny_pyIter_revIter (i := ((List.toArray vs).size : Int) - 1) (by simpa using hit) ?_
  refine hQ _ _ _ _ _ _ (x₁.trans .push) (by rw [← hsz]; exact wk) st0 ?_ ?_ ?_ ?_ ?_
  · intro b hb
    show b < (s₁.heap.push _).objs.size
    rw [Heap.size_push]
    simp at hb
    rcases hb with rfl | rfl
    · exact Nat.lt_succ_self _
    · exact Nat.lt_succ_of_lt hlt
  · intro b hb
    rw [List.mem_singleton.mp hb]
    exact x₁.gone (get_size _)
  · intro b hb hnb
    simp at hb hnb
    rcases hb with rfl | rfl
    · exact absurd rfl hnb
    · exact ⟨hw, by show ((s₁.heap.push _).get? _).isSome = true; rw [Heap.get?_push_of_some _ hl]; rfl⟩
  · intro i h hst
    obtain ⟨_, ⟨o, ho, hc, hd⟩, ⟨o', ho', hc', _⟩⟩ := hst
    refine ⟨fun b hb => ?_, fun b hb o₂ e => ?_⟩
    · rw [List.mem_singleton.mp hb]
      exact ⟨o, ho, iterO_of hc hd (by decide)⟩
    · simp at hb
      rcases hb with rfl | rfl
      · rw [ho] at e; cases e; exact solid_cls hc
      · rw [ho'] at e; cases e; exact solid_cls hc'
  · intro i v x hp hx
    have hi : i < xs.length := by have := (List.getElem?_eq_some_iff.mp hx).1; simpa using this
    rw [List.getElem?_reverse hi] at hx
    obtain ⟨u, hu, ru⟩ := rl.get hx
    have : v = u := by
      have hp : (List.toArray vs)[(List.toArray vs).size - 1 - i]? = some v := hp
      rw [List.getElem?_toArray, List.size_toArray, rl.length, hu] at hp
      exact (Option.some.inj hp).symm
    rw [this]
    refine RepV.mono (fun b o zq e zq => Heap.get?_push_of_some _ e) (fun b o zq e zq => Heap.get?_push_of_some _ e) (fun b hb w => ?_) _ _ ru
    rcases w with w | w
    · exact w
    · rw [List.mem_singleton.mp w, get_size] at hb; cases hb

theorem EvS.meth0 {o : Expr} {name : Str} {apos q : Pos} {f : List Slot → Option AV} {fn : AV → Option AV} (ho : EvS G W k names sc o f) (hb : ∀ env, attributeBase o name env (eval o env) = eval o env) (hl : (apos.endLine == q.line) = true)
    (hM : ∀ (A : Around) (s : Shared) (v : Value) (a r : AV), Room A k → Base G W s → RepV W s.heap a v → fn a = some r → ∀ Q : Value → Shared → Prop, (∀ v' s', Ext s s' → RepV W s'.heap r v' → Q v' s') →
      MethodOnS G.prog G.w A (fun zq zq => False) name v q [] Q s) :
    EvS G W k names sc (.Call (.Attribute o name apos) [] [] q) (fun sl => (f sl).bind fn) := by
  intro A env s sl ro ef rs ba av hf Q hQ
  obtain ⟨a, h1, h2⟩ := Option.bind_eq_some_iff.mp hf
  refine Call_method0 (hb env) hl (ho A env s sl ro ef rs ba a h1 _ fun v s₁ x₁ r₁ => ?_)
  exact hM A s₁ v a av ro (ba.ext x₁) r₁ h2 Q fun v' s' x r => hQ v' s' (x₁.trans x) r

theorem EvS.meth1 {o e : Expr} {name : Str} {apos q : Pos} {f g : List Slot → Option AV} {fn : AV → AV → Option AV} (ho : EvS G W k names sc o f) (he : EvS G W k names sc e g) (hn : notStar e = true)
    (hb : ∀ env, attributeBase o name env (eval o env) = eval o env) (hl : (apos.endLine == q.line) = true)
    (hM : ∀ (A : Around) (s : Shared) (v : Value) (a : AV) (x : Sem Value) (Q : Value → Shared → Prop), Room A k → Base G W s → RepV W s.heap a v →
      wpAny G.M A x (fun u s₁ => ∃ b r, Ext s s₁ ∧ RepV W s₁.heap b u ∧ fn a b = some r ∧ ∀ v' s', Ext s₁ s' → RepV W s'.heap r v' → Q v' s') (fun zq zq => False) s → (∃ b r, fn a b = some r) →
      MethodOnS G.prog G.w A (fun zq zq => False) name v q [(false, x)] Q s) :
    EvS G W k names sc (.Call (.Attribute o name apos) [e] [] q) (fun sl => (f sl).bind fun a => (g sl).bind fun b => fn a b) := by
  intro A env s sl ro ef rs ba av hf Q hQ
  obtain ⟨a, h1, hf⟩ := Option.bind_eq_some_iff.mp hf
  obtain ⟨b, h2, h3⟩ := Option.bind_eq_some_iff.mp hf
  refine Call_method1 (hb env) (starEach_cons hn) hl (ho A env s sl ro ef rs ba a h1 _ fun v s₁ x₁ r₁ => ?_)
  refine hM A s₁ v a _ Q ro (ba.ext x₁) r₁ (he A env s₁ sl ro ef (rs.grow x₁.kept) (ba.ext x₁) b h2 _ fun u s₂ x₂ r₂ => ?_) ⟨b, av, h3⟩
  exact ⟨b, av, x₂, r₂, h3, fun v' s' x r => hQ v' s' ((x₁.trans x₂).trans x) r⟩

noncomputable def lowerV : AV → Option AV
  | .str x => if x.length < 100000 then some (.str (Txt.lower x)) else none
  | _ => none
noncomputable def bitsV : AV → Option AV
  | .int i => some (.int (Builtin.Int.intBits i))
  | _ => none
noncomputable def countV (a b : AV) : Option AV := match a.seq?, b with
  | some xs, .int n => (asInts xs).map fun ns => .int (ns.count n : Nat)
  | _, _ => none
noncomputable def indexV (a b : AV) : Option AV := match a.seq?, b with
  | some xs, .int n => (asInts xs).bind fun ns => if ns.idxOf n < ns.length ∧ ns.length < 1000000 then some (.int (ns.idxOf n : Nat)) else none
  | _, _ => none
noncomputable def asStrs : List AV → Option (List Str)
  | [] => some []
  | .str x :: r => (asStrs r).map (x :: ·)
  | _ :: _ => none
noncomputable def joinV (a b : AV) : Option AV := match a, b.any? with
  | .str x, some xs => (asStrs xs).bind fun ys => if x.length ≤ 16 ∧ (ys.map (·.length)).sum + ys.length ≤ 1048576 then some (.str (Txt.join x ys)) else none
  | _, _ => none

set_option tactic.hygienic true in
theorem EvS.lower {o : Expr} {apos q : Pos} {f : List Slot → Option AV} (ho : EvS G W k names sc o f) (hb : ∀ env, attributeBase o ("lower" : Str) env (eval o env) = eval o env) (hl : (apos.endLine == q.line) = true) :
    EvS G W k names sc (.Call (.Attribute o ("lower" : Str) apos) [] [] q) (fun sl => (f sl).bind lowerV) := by
  refine ho.meth0 hb hl fun A s v a r ro ba ra e Q hQ => ?_
  cases a <;> first | (simp [lowerV] at e; done) | skip
  case str x =>
  obtain ⟨t, rfl⟩ := ra
  simp only [lowerV] at e
  split at e
  · next h => cases e; exact SB.lower (fit_lower (by lia)) (hQ _ _ .tok ⟨_, rfl⟩)
  · cases e
set_option tactic.hygienic true in
theorem EvS.bits {o : Expr} {apos q : Pos} {f : List Slot → Option AV} (ho : EvS G W k names sc o f) (hb : ∀ env, attributeBase o ("bit_length" : Str) env (eval o env) = eval o env) (hl : (apos.endLine == q.line) = true) :
    EvS G W k names sc (.Call (.Attribute o ("bit_length" : Str) apos) [] [] q) (fun sl => (f sl).bind bitsV) := by
  refine ho.meth0 hb hl fun A s v a r ro ba ra e Q hQ => ?_
  cases a <;> first | (simp [bitsV] at e; done) | skip
  case int i =>
  obtain ⟨t, rfl⟩ := ra
  cases e
  refine ⟨"int", "int.bit_length", F.plainAttrs_int, F.slot_int_bit_length, F.type_int_bit_length, typeIs_int _ _ _, (fun zq e => by cases e), ?_⟩
  exact method0_gives F.slot_int_bit_length F.entry_int_bit_length (typeIs_int _ _ _) (F.args_int_bit_length_1 _) (AutoIntG2.int_bit_length_int_0 i t) (hQ _ _ .tok ⟨_, rfl⟩)

noncomputable def isN (n : Int) (v : Value) : Bool := match v with
  | .int m _ => m == n
  | _ => false
theorem isN_gives {vs : List Value} {ns : List Int} (h : IntsAre vs ns) (n : Int) (t : Tok) : ∀ y, y ∈ List.toArray vs → MeetsSeq.EqGives y (.int n t) (isN n y) := by
  have key : ∀ y ∈ vs, MeetsSeq.EqGives y (.int n t) (isN n y) := by
    induction h with
    | nil => intro y hy; cases hy
    | cons m u _ ih =>
      intro y hy
      rcases List.mem_cons.mp hy with rfl | hy
      · exact MeetsSeq.EqGives.int m n u t
      · exact ih y hy
  intro y hy
  exact key y (by simpa using hy)
theorem countP_isN {vs : List Value} {ns : List Int} (h : IntsAre vs ns) (n : Int) : vs.countP (isN n) = ns.count n := by
  induction h with
  | nil => rfl
  | cons m u _ ih => rw [List.countP_cons, List.count_cons, ih]; rfl
theorem isN_at {vs : List Value} {ns : List Int} (h : IntsAre vs ns) (n : Int) : ∀ i : Nat, vs[i]?.map (isN n) = ns[i]?.map (· == n) := by
  induction h with
  | nil => intro i; rfl
  | cons m u _ ih => intro i; cases i with
    | zero => rfl
    | succ i => simpa using ih i

theorem intsLen {vs : List Value} {ns : List Int} (h : IntsAre vs ns) : vs.length = ns.length := by
  induction h with
  | nil => rfl
  | cons _ _ _ ih => simp [ih]
set_option tactic.hygienic true in
theorem EvS.count {o e : Expr} {apos q : Pos} {f g : List Slot → Option AV} (ho : EvS G W k names sc o f) (he : EvS G W k names sc e g) (hn : notStar e = true) (hb : ∀ env, attributeBase o ("count" : Str) env (eval o env) = eval o env) (hl : (apos.endLine == q.line) = true) :
    EvS G W k names sc (.Call (.Attribute o ("count" : Str) apos) [e] [] q) (fun sl => (f sl).bind fun a => (g sl).bind fun b => countV a b) := by
  refine ho.meth1 he hn hb hl fun A s v a x Q ro ba ra hx hsome => ?_
  obtain ⟨b, r, hbr⟩ := hsome
  unfold countV at hbr
  split at hbr
  · next xs n0 hxs =>
    obtain ⟨l, vs, rfl, ⟨cp, hl⟩, rl⟩ := ra.seq hxs
    refine ⟨"list", "list.count", F.plainAttrs_list, F.slot_list_count, F.type_list_count, ⟨_, hl, rfl⟩, (fun c e => by cases e; exact ⟨_, hl, rfl⟩), ?_⟩
    refine P.count_list (wpAny_mono hx (fun u s₁ h₁ => ?_) fun zq zq f => f.elim)
    obtain ⟨b, r, x₁, rb, e1, hq⟩ := h₁
    unfold countV at e1
    rw [hxs] at e1
    split at e1
    · next xs' n hh =>
      cases hh
      obtain ⟨ns, e2, rfl⟩ := Option.map_eq_some_iff.mp e1
      obtain ⟨t, rfl⟩ := rb
      have hi := (rl.grow x₁.kept).ints _ _ _ e2
      refine ⟨_, cp, isN n, x₁.kept _ _ hl rfl, isN_gives hi n t, ?_⟩
      have : ((List.toArray vs).toList.countP (isN n)) = ns.count n := countP_isN hi n
      rw [this]
      exact hq _ _ .tok ⟨_, rfl⟩
    · cases e1
  · cases hbr
set_option tactic.hygienic true in
theorem EvS.index {o e : Expr} {apos q : Pos} {f g : List Slot → Option AV} (ho : EvS G W k names sc o f) (he : EvS G W k names sc e g) (hn : notStar e = true) (hb : ∀ env, attributeBase o ("index" : Str) env (eval o env) = eval o env) (hl : (apos.endLine == q.line) = true) :
    EvS G W k names sc (.Call (.Attribute o ("index" : Str) apos) [e] [] q) (fun sl => (f sl).bind fun a => (g sl).bind fun b => indexV a b) := by
  refine ho.meth1 he hn hb hl fun A s v a x Q ro ba ra hx hsome => ?_
  obtain ⟨b, r, hbr⟩ := hsome
  unfold indexV at hbr
  split at hbr
  · next xs n0 hxs =>
    obtain ⟨l, vs, rfl, ⟨cp, hl⟩, rl⟩ := ra.seq hxs
    refine ⟨"list", "list.index", F.plainAttrs_list, F.slot_list_index, F.type_list_index, ⟨_, hl, rfl⟩, (fun c e => by cases e; exact ⟨_, hl, rfl⟩), ?_⟩
    refine P.index_list (wpAny_mono hx (fun u s₁ h₁ => ?_) fun zq zq f => f.elim)
    obtain ⟨b, r, x₁, rb, e1, hq⟩ := h₁
    unfold indexV at e1
    rw [hxs] at e1
    split at e1
    · next xs' n hh =>
      cases hh
      obtain ⟨ns, e2, e3⟩ := Option.bind_eq_some_iff.mp e1
      split at e3
      · next hc =>
        cases e3
        obtain ⟨t, rfl⟩ := rb
        have hi := (rl.grow x₁.kept).ints _ _ _ e2
        have hlen : vs.length = ns.length := intsLen hi
        have hj : ns.idxOf n < (List.toArray vs).size := by rw [List.size_toArray, hlen]; exact hc.1
        refine ⟨_, cp, isN n, ns.idxOf n, hj, x₁.kept _ _ hl rfl, isN_gives hi n t, by have := hc.2; have := hc.1; lia, ?_, ?_, hq _ _ .tok ⟨_, rfl⟩⟩
        · have h1 := isN_at hi n (ns.idxOf n)
          rw [List.getElem?_eq_getElem hc.1, List.getElem?_eq_getElem (by rw [hlen]; exact hc.1)] at h1
          simp only [Option.map_some, Option.some.injEq] at h1
          rw [List.getElem_toArray, h1]
          simp
        · intro m hm hlt
          have h1 := isN_at hi n m
          have hm1 : m < vs.length := by simpa using hm
          rw [List.getElem?_eq_getElem hm1, List.getElem?_eq_getElem (by lia)] at h1
          simp only [Option.map_some, Option.some.injEq] at h1
          rw [List.getElem_toArray, h1]
          have := List.not_of_lt_findIdx (p := (· == n)) (xs := ns) (i := m) hlt
          simpa using this
      · cases e3
    · cases e1
  · cases hbr

set_option tactic.hygienic true in
theorem RepL.strs {h : Heap} : ∀ {xs : List AV} {vs : List Value} {ys : List Str}, RepL W h xs vs → asStrs xs = some ys → StrsAre vs ys
  | [], _, _, r, e => by rw [show _ = [] from r]; cases e; exact .nil
  | x :: xs, _, _, ⟨v, q, e', a, b⟩, e => by
    cases x <;> first | (simp [asStrs] at e; done) | skip
    case str y =>
    obtain ⟨t, a⟩ := a
    obtain ⟨ms, h1, h2⟩ := Option.map_eq_some_iff.mp e
    subst h2
    rw [e', a]
    exact .cons y t (RepL.strs b h1)

set_option tactic.hygienic true in
theorem EvS.join {o e : Expr} {apos q : Pos} {f g : List Slot → Option AV} (ho : EvS G W k names sc o f) (he : EvS G W k names sc e g) (hn : notStar e = true) (hb : ∀ env, attributeBase o ("join" : Str) env (eval o env) = eval o env) (hl : (apos.endLine == q.line) = true) :
    EvS G W k names sc (.Call (.Attribute o ("join" : Str) apos) [e] [] q) (fun sl => (f sl).bind fun a => (g sl).bind fun b => joinV a b) := by
  refine ho.meth1 he hn hb hl fun A s v a x Q ro ba ra hx hsome => ?_
  obtain ⟨b, r, hbr⟩ := hsome
  unfold joinV at hbr
  split at hbr
  · next sep xs hxs =>
    obtain ⟨t, rfl⟩ := ra
    refine ⟨"str", "str.join", F.plainAttrs_str, F.slot_str_join, F.type_str_join, typeIs_str _ _ _, (fun c e => by cases e), ?_⟩
    refine Calls.callWith_builtin (by rfl) (Calls.evalArgs_plain (Calls.spliced_cons (wpAny_mono hx (fun u s₁ h₁ => Calls.spliced_nil ?_) fun zq zq f => f.elim)))
    obtain ⟨b, r, x₁, rb, e1, hq⟩ := h₁
    unfold joinV at e1
    split at e1
    · next sep' xs' h1 h2 =>
      cases h1
      obtain ⟨ys, e2, e3⟩ := Option.bind_eq_some_iff.mp e1
      split at e3
      · next hc =>
        cases e3
        obtain ⟨l, vs, rfl, hl, rl⟩ := rb.anyList h2
        exact join_listW hl (rl.strs e2) hc.1 hc.2 fun t' k => hq _ _ .tok ⟨_, rfl⟩
      · cases e3
    · cases e1
  · cases hbr
end
end Mine
end

section
open PySem PySem.W PyProof.Rows
set_option Elab.async false
set_option tactic.hygienic false
set_option maxRecDepth 100000
set_option linter.unusedVariables false


namespace Mine

noncomputable def entOf (e : DictEntry) : Option (Int × Str) := match e.key, e.val with
  | .int k _, .str v _ => if e.hash == hashInt k then some (k, v) else none
  | _, _ => none

set_option tactic.hygienic true in
theorem entOf_some {e : DictEntry} {k : Int} {v : Str} (h : entOf e = some (k, v)) : (∃ t, e.key = .int k t) ∧ (∃ t, e.val = .str v t) ∧ e.hash = hashInt k := by
  unfold entOf at h
  split at h
  · next a t b u ha hb =>
    split at h
    · next hc =>
      cases h
      exact ⟨⟨t, ha⟩, ⟨u, hb⟩, by simpa using hc⟩
    · cases h
  · cases h

theorem find_ent (k : Int) : ∀ (l : List DictEntry) (dd : List (Int × Str)), l.map entOf = dd.map some →
    match dd.lookup k with
    | some v => ∃ t, (l.find? fun e => Value.isInt k e.key).map (·.val) = some (.str v t)
    | none => (l.find? fun e => Value.isInt k e.key).map (·.val) = none
  | [], [], _ => rfl
  | [], _ :: _, h => by cases h
  | _ :: _, [], h => by cases h
  | e :: l, (a, b) :: dd, h => by
    simp only [List.map_cons, List.cons.injEq] at h
    obtain ⟨⟨t, hk⟩, ⟨u, hv⟩, _⟩ := entOf_some h.1
    rw [List.lookup_cons, List.find?_cons, hk]
    by_cases hka : k = a
    · subst hka
      have e1 : (k == k) = true := by simp
      have e2 : Value.isInt k (.int k t) = true := by simp [Value.isInt]
      rw [e1, e2]
      exact ⟨u, by simp [hv]⟩
    · have e1 : (k == a) = false := by simpa using hka
      have e2 : Value.isInt k (.int a t) = false := by simp [Value.isInt]; exact fun q => hka q.symm
      rw [e1, e2]
      exact find_ent k l dd h.2

section
variable {G : Gl} {W : Addr → Prop} {k : Nat} {names : List Str} {sc : List (Str × NameKind)} {A : Around} {s : Shared} {E : Value → Shared → Prop}

noncomputable def getV (dd : List (Int × Str)) : AV → Option AV
  | .int i => some (match dd.lookup i with | some v => .str v | Option.none => .none)
  | _ => none

set_option tactic.hygienic true in
theorem EvS.b3get {e : Expr} {p apos q : Pos} {f : List Slot → Option AV} (hg : sc.lookup ("b3_exceptions" : Str) = some .globalImplicit) (he : EvS G W k names sc e f) (hn : notStar e = true) (hl : (apos.endLine == q.line) = true) :
    EvS G W k names sc (.Call (.Attribute (.Name ("b3_exceptions" : Str) p) ("get" : Str) apos) [e] [] q) (fun sl => (f sl).bind (getV G.dd)) := by
  intro A env s sl ro ef rs ba av hf Q hQ
  obtain ⟨a, h1, h2⟩ := Option.bind_eq_some_iff.mp hf
  obtain ⟨d, o, es, ep, hm, ho, hex, hsys, hdat, hes⟩ := G.b3
  refine Call_method1 (by rfl) (starEach_cons hn) hl (wpAny_Name (load_global ef ba hg hm ?_) (by decide +kernel))
  have hes : es.toList.map entOf = G.dd.map some := hes
  have hkeys : KeysOf (intKind G.prog G.w) es := by
    intro e he
    have : entOf e ∈ es.toList.map entOf := List.mem_map_of_mem (by simpa using he)
    rw [hes] at this
    obtain ⟨⟨k, v⟩, _, e1⟩ := List.mem_map.mp this
    obtain ⟨⟨t, hk⟩, _, hh⟩ := entOf_some e1.symm
    exact ⟨k, by rw [hk]; simp [intKind, Value.isInt], hh⟩
  have hmo : ∀ s' : Shared, Kept G.h₀ s'.heap → s'.heap.MapOf (intKind G.prog G.w) d (fun k => findBy (intKind G.prog G.w).is es k) := fun s' kk => ⟨o, es, ep, kk _ _ ho (solid_dict hdat), hex, hdat, hkeys, fun zq => rfl⟩
  refine ⟨"dict", "dict.get", F.plainAttrs_dict, F.slot_dict_get, F.type_dict_get, ⟨o, ba.keep _ _ ho (solid_dict hdat), hex.1⟩, (fun c e => by cases e; exact ⟨o, ba.keep _ _ ho (solid_dict hdat), hex.2.1⟩), ?_⟩
  refine wpAny_dict_get1 (knd := intKind G.prog G.w) hsys (he A env s sl ro ef rs ba a h1 _ fun v s₁ x₁ r₁ => ?_)
  unfold getV at h2
  split at h2
  · next i =>
    cases h2
    obtain ⟨t, rfl⟩ := r₁
    refine ⟨i, _, by simp [intKind, Value.isInt], hmo s₁ (ba.ext x₁).keep, ?_⟩
    have key := find_ent i es.toList G.dd hes
    have hfb : findBy (intKind G.prog G.w).is es i = (es.toList.find? fun e => Value.isInt i e.key).map (·.val) := by
      unfold findBy
      rw [Array.find?_toList]; rfl
    rw [hfb]
    cases hd : G.dd.lookup i with
    | none =>
      rw [hd] at key
      rw [key]
      exact hQ _ _ (x₁.trans .tok) (by rw [hd]; rfl)
    | some v =>
      rw [hd] at key
      obtain ⟨u, key⟩ := key
      rw [key]
      exact hQ _ _ (x₁.trans .tok) (by rw [hd]; exact ⟨u, rfl⟩)
  · cases h2

theorem EvB.list {es : List Expr} {p : Pos} {g : List Slot → Option (List AV)} (hr : EvL G W k names sc es g) :
    EvB true G W k names sc (.List es p) (fun sl => (g sl).bind fun xs => if xs.length < 1000000 then some (.lst xs) else Option.none) := by
  intro A env s sl ro ef rs ba av hf Q hQ
  obtain ⟨xs, h1, hf⟩ := Option.bind_eq_some_iff.mp hf
  split at hf
  · next q =>
    cases hf
    refine List_ (hr.2 A env s sl p ro ef rs ba xs h1 _ fun vs s₁ x₁ r₁ => ?_)
    refine wpAny_newObj_type (hQ _ _ (x₁.trans .push) ⟨_, vs, rfl, (ba.ext x₁).fresh (Nat.le_refl _), ⟨0, Heap.get?_push_size _ rfl⟩, r₁.grow (Ext.push (s := s₁)).kept⟩ fun zq => ⟨_, rfl, x₁.gone (get_size _)⟩) ?_
    show vs.toArray.size ≤ sizeLine
    rw [List.size_toArray, r₁.length, sizeLine_eq]; lia
  · cases hf

noncomputable def repV (a n : AV) : Option AV := match a.seq?, n with
  | some xs, .int n => if xs.length * n.toNat < 1000000 ∧ n < 1000000 ∧ -1000000 < n then some (.lst (List.replicate n.toNat xs).flatten) else none
  | _, _ => none
set_option tactic.hygienic true in
theorem EvB.rep {l r : Expr} {p : Pos} {f g : List Slot → Option AV} (hl : EvS G W k names sc l f) (hr : EvS G W k names sc r g) :
    EvB true G W k names sc (.BinOp l .Mult r p) (fun sl => (f sl).bind fun a => (g sl).bind fun b => repV a b) := by
  intro A env s sl ro ef rs ba av hf Q hQ
  obtain ⟨a, h1, hf⟩ := Option.bind_eq_some_iff.mp hf
  obtain ⟨b, h2, h3⟩ := Option.bind_eq_some_iff.mp hf
  refine wpAny_BinOp (hl A env s sl ro ef rs ba a h1 _ fun va s₁ x₁ r₁ => ?_)
  refine hr A env s₁ sl ro ef (rs.grow x₁.kept) (ba.ext x₁) b h2 _ fun vb s₂ x₂ r₂ => ?_
  unfold repV at h3
  split at h3
  · next xs n hx =>
    split at h3
    · next q =>
      cases h3
      obtain ⟨u, rfl⟩ := r₂
      obtain ⟨l, vs, rfl, ⟨kk, hl⟩, r⟩ := (r₁.grow x₂.kept).seq hx
      have hlen := r.length
      have ba₂ := ba.ext (x₁.trans x₂)
      refine mul_list0 hl (by lia) (by lia) (by rw [List.size_toArray, hlen]; lia) (hQ _ _ ((x₁.trans x₂).trans .push) ?_ fun zq => ⟨_, rfl, (x₁.trans x₂).gone (get_size _)⟩)
      refine ⟨_, (List.replicate n.toNat vs).flatten, rfl, ba₂.fresh (Nat.le_refl _), ⟨0, ?_⟩, (r.grow (Ext.push (s := s₂)).kept).replicate _⟩
      rw [Heap.get?_push_size _ rfl]
      congr 3
      by_cases hv : vs = []
      · subst hv; simp
      · rw [if_neg (by simpa using hv), foldl_replicate_toArray]
    · cases h3
  · cases h3

theorem RepL.of_get {h : Heap} : ∀ {xs : List AV} {vs : List Value}, vs.length = xs.length → (∀ (j : Nat) v x, vs[j]? = some v → xs[j]? = some x → RepV W h x v) → RepL W h xs vs
  | [], [], _, _ => rfl
  | [], _ :: _, e, _ => by cases e
  | _ :: _, [], e, _ => by cases e
  | x :: xs, v :: vs, e, f => ⟨v, vs, rfl, f 0 v x rfl rfl, RepL.of_get (by simpa using e) fun j u y a b => f (j + 1) u y (by simpa using a) (by simpa using b)⟩

noncomputable def stepUp (a b c : Int) : List AV := (List.range ((b - a - 1) / c + 1).toNat).map fun i => .int (a + (i : Nat) * c)
noncomputable def listRangeV (xs : List AV) : Option AV := (asInts xs).bind fun ws => match ws with
  | [a, b, c] => if -1000000 < a ∧ a < b ∧ b < 1000000 ∧ 0 < c ∧ c < 1000000 then some (.lst (stepUp a b c)) else none
  | _ => none
theorem asInts_ex {xs : List AV} : ∀ {ws : List Int}, asInts xs = some ws → xs = ws.map .int := by
  induction xs with
  | nil => intro ws h; cases h; rfl
  | cons x r ih =>
    intro ws h
    cases x <;> first | (cases h; done) | skip
    obtain ⟨w, h1, rfl⟩ := Option.map_eq_some_iff.mp (show (asInts r).map _ = some ws from h)
    rw [ih h1]; rfl
theorem listRangeV_some {args : List AV} {r : AV} (h : listRangeV args = some r) : ∃ a b c, args = [.int a, .int b, .int c] ∧ (-1000000 < a ∧ a < b ∧ b < 1000000 ∧ 0 < c ∧ c < 1000000) ∧ r = .lst (stepUp a b c) := by
  obtain ⟨ws, h1, h2⟩ := Option.bind_eq_some_iff.mp h
  split at h2
  · split at h2
    · next hc => cases h2; exact ⟨_, _, _, asInts_ex h1, hc, rfl⟩
    · cases h2
  · cases h2
theorem small_i' {c : Int} (h3 : 0 < c) (h4 : c < 1000000) : small c = true := by
  have h1 : c.natAbs < 1000000 := by lia
  exact decide_eq_true (Nat.lt_of_lt_of_le h1 (by decide +kernel))
theorem fit {x : Int} (h : -10000000 < x) (h' : x < 10000000) : Builtin.Range.rangeFitsLong x = true := by
  unfold Builtin.Range.rangeFitsLong
  rw [decide_eq_true (Int.le_of_lt (Int.lt_of_le_of_lt (by decide +kernel) h)), decide_eq_true (Int.lt_of_lt_of_le h' (by decide +kernel))]; rfl
theorem range_nums {a b c : Int} (h0 : -1000000 < a) (h1 : a < b) (h2 : b < 1000000) (h3 : 0 < c) (h4 : c < 1000000) : small c = true ∧ Builtin.Range.rangeSize a b c = (((b - a - 1) / c + 1).toNat : Int) ∧ Builtin.Range.small a b c = true ∧ ((b - a - 1) / c + 1).toNat ≤ 2 ^ 24 := by
  have hdiv : 0 ≤ (b - a - 1) / c := Int.ediv_nonneg (by lia) (Int.le_of_lt h3)
  have hdle : (b - a - 1) / c ≤ b - a - 1 := Int.ediv_le_self _ (by lia)
  have hrs : Builtin.Range.rangeSize a b c = (b - a - 1) / c + 1 := by
    unfold Builtin.Range.rangeSize
    rw [if_pos h3, if_pos h1, Int.add_comm]
  have hnn : (((b - a - 1) / c + 1).toNat : Int) = (b - a - 1) / c + 1 := Int.toNat_of_nonneg (by lia)
  refine ⟨small_i' h3 h4, by rw [hrs, hnn], ?_, by lia⟩
  unfold Builtin.Range.small
  have c5 : b + (c - 1) < 10000000 := by lia
  have c6 : -10000000 < b + (c - 1) := by lia
  rw [hrs, if_pos h3, fit (by lia) (by lia), fit (by lia) (by lia), fit (by lia) (by lia), fit (by lia) (by lia), fit c6 c5, Bool.or_true]; rfl
theorem stepUp_at {a b c : Int} {j : Nat} {x : AV} (hx : (stepUp a b c)[j]? = some x) : x = .int (a + (j : Nat) * c) := by
  unfold stepUp at hx
  rw [List.getElem?_map] at hx
  obtain ⟨i, hi, rfl⟩ := Option.map_eq_some_iff.mp hx
  have hlt := (List.getElem?_eq_some_iff.mp hi).1
  rw [List.length_range] at hlt
  rw [List.getElem?_range hlt] at hi
  cases hi; rfl
theorem EvB.listRange {p p' q q' : Pos} {e : Expr} {es : List Expr} {f : List Slot → Option (List AV)} (hg : sc.lookup ("range" : Str) = some .globalImplicit) (hm : G.mg ("range" : Str) = Option.none) (hg' : sc.lookup ("list" : Str) = some .globalImplicit) (hm' : G.mg ("list" : Str) = Option.none)
    (ha : EvL G W k names sc (e :: es) f) (hn : notStar e = true) (hr : ∀ env pos, ((backTo pos (starEach es env)).any (·.1)) = false) :
    EvB true G W k names sc (.Call (.Name ("list" : Str) p') [.Call (.Name ("range" : Str) p) (e :: es) [] q] [] q') (fun sl => (f sl).bind listRangeV) := by
  intro A env s sl ro ef rs ba av hf Q hQ
  obtain ⟨args, h1, h2⟩ := Option.bind_eq_some_iff.mp hf
  refine Call_ (wpAny_Name (load_builtin (v := .type "list") ef ba hg' hm' (by decide +kernel) (by kernel_rfl) ?_) (by decide +kernel))
  refine PyProof.Rows.callWith_type1 ?_ rfl rfl
  refine Calls.spliced_cons ?_
  refine builtin_call (v := .type "range") hg (by decide +kernel) (by decide +kernel) hm (by kernel_rfl) (.inr ⟨_, rfl⟩) ha hn hr ro ef rs ba h1 fun vs s₁ x₁ r₁ => ?_
  obtain ⟨a, b, c, rfl, ⟨c0, c1, c2, c3, c4⟩, rfl⟩ := listRangeV_some h2
  obtain ⟨v, q, rfl, ⟨t, rfl⟩, ⟨v', q', rfl, ⟨t', rfl⟩, ⟨v'', q'', rfl, ⟨t'', rfl⟩, rfl⟩⟩⟩ := r₁
  obtain ⟨hsm, hrs, hsml, hle⟩ := range_nums c0 c1 c2 c3 c4
  refine call_range_3 (by lia) ?_ (Or.inl (small_pylong hsm))
  refine Calls.spliced_nil ?_
  have hge : ∀ d, s₁.heap.objs.size ≤ d → s₁.heap.get? d = Option.none := fun d q => by
    cases e : s₁.heap.get? d with
    | none => rfl
    | some o => exact absurd (Heap.lt_size e) (Nat.not_lt.mpr q)
  clear h1 h2 hf ha
  refine call_list_range ro.handled (IsRange.new _ _ _ _ _ _ _) hsml hrs hle fun h' tk acc cp hk hl hit => ?_
  obtain ⟨d, hd⟩ : ∃ d, (s₁.heap.push { cls := .type "range", data := .fields #[.int a t, .int b t', .int c t''] }).objs.size = d := ⟨_, rfl⟩
  have hnew : s₁.heap.get? d = Option.none := hge _ (by rw [← hd, Heap.size_push]; exact Nat.le_succ _)
  have x₂ : Ext s₁ { s₁ with heap := h', toks := tk } := .of fun b o e => hk b o (Heap.get?_push_of_some _ e)
  clear hk
  replace hl : h'.get? d = _ := hd ▸ hl
  refine (fun z : Q (.ref d) { s₁ with heap := h', toks := tk } => hd.symm ▸ z) ?_
  refine hQ _ _ (x₁.trans x₂) ⟨_, acc.toList, rfl, (ba.ext x₁).new hnew, ⟨cp, by simpa using hl⟩, RepL.of_get ?_ ?_⟩ fun zq => ⟨_, rfl, x₁.gone hnew⟩
  · rw [Array.length_toList, hit.1]; simp [stepUp]
  · intro j v x hv hx
    obtain ⟨u, rfl⟩ := hit.2 j v (by simpa using hv)
    rw [stepUp_at hx]
    exact ⟨u, rfl⟩
end
end Mine
end

section
open PySem PySem.W PyProof.Rows
set_option Elab.async false
set_option tactic.hygienic false
set_option maxRecDepth 100000
set_option linter.unusedVariables false


namespace Mine

structure EnvOk (env : Env) (names : List Str) : Prop where
  nodup : names.Nodup
  inj : ∀ x y c, env.cells.lookup x = some c → env.cells.lookup y = some c → x = y

noncomputable def Ld (env : Env) (h : Heap) (m : Str → Option Value) (x : Str) (ov : Option Value) : Prop :=
  (env.kindOf x = some .local ∧ m x = ov) ∨ (env.kindOf x = some .cell ∧ ∃ c, env.cells.lookup x = some c ∧ h.IsCell c ov)

noncomputable def SlotOwn (W : Addr → Prop) (h : Heap) : Slot → List Addr → Option Value → Prop
  | .unset, o, _ => o = []
  | .val x, o, ov => o = [] ∧ ∃ v, ov = some v ∧ RepV W h x v ∧ x.firm = true
  | .mls xs, o, ov => ∃ d vs, o = [d] ∧ W d ∧ ov = some (.ref d) ∧ h.PlainList d (List.toArray vs) ∧ RepL W h xs vs ∧ firmL xs = true
  | .mgr rows, o, ov => ∃ d ds, o = d :: ds ∧ (∀ a ∈ o, W a) ∧ ov = some (.ref d) ∧ h.PlainList d (List.toArray (ds.map Value.ref)) ∧ RepRows W h rows ds ∧ rows.all firmL = true
  | .scr xs, o, ov => o = [] ∧ ∃ d vs, ov = some (.ref d) ∧ ¬ W d ∧ h.IsList d (List.toArray vs) ∧ RepL W h xs vs ∧ firmL xs = true

theorem SlotOwn.rep {W : Addr → Prop} {h : Heap} {sv : Slot} {o : List Addr} {ov : Option Value} (r : SlotOwn W h sv o ov) : SlotRep W h sv ov := by
  cases sv with
  | unset => trivial
  | val x => exact r.2
  | mls xs => obtain ⟨d, vs, _, _, a, b, c, e⟩ := r; exact ⟨d, vs, a, b, c, e⟩
  | mgr rows => obtain ⟨d, ds, _, _, a, b, c, e⟩ := r; exact ⟨d, ds, a, b, c, e⟩
  | scr xs => exact r.2

structure StX (G : Gl) (W : Addr → Prop) (env : Env) (names : List Str) (sl : List Slot) (s : Shared) (m : Str → Option Value) (os : Nat → List Addr) (va : Nat → Option Value) : Prop where
  base : Base G W s
  wl : W env.locals
  wc : ∀ x c, env.cells.lookup x = some c → W c
  ns : s.heap.Ns env.locals m
  slots : ∀ i x sv, names[i]? = some x → sl[i]? = some sv → Ld env s.heap m x (va i) ∧ SlotOwn W s.heap sv (os i) (va i)
  nodup : ∀ i, (os i).Nodup
  apart : ∀ i j a, a ∈ os i → a ∈ os j → i = j
  isls : ∀ i a, a ∈ os i → W a ∧ ∃ us, s.heap.PlainList a us

section
variable {G : Gl} {W : Addr → Prop} {k : Nat} {names : List Str} {sc : List (Str × NameKind)} {A : Around} {s : Shared} {E : Value → Shared → Prop} {env : Env} {sl : List Slot} {m : Str → Option Value} {os : Nat → List Addr} {va : Nat → Option Value}

theorem Ld.loads {h : Heap} {x : Str} {ov : Option Value} (l : Ld env h m x ov) (n : h.Ns env.locals m) : Loads env h x ov := by
  rcases l with ⟨a, e⟩ | ⟨a, c, b, e⟩
  · exact .inl ⟨a, m, n, e⟩
  · exact .inr ⟨.inl a, c, b, e⟩

theorem StX.rs (st : StX G W env names sl s m os va) : RS W env names sl s.heap := fun i x sv a b zq =>
  ⟨va i, (st.slots i x sv a b).1.loads st.ns, (st.slots i x sv a b).2.rep⟩

theorem RepRows.own {W : Addr → Prop} {h : Heap} : ∀ {rs : List (List AV)} {ds : List Addr}, RepRows W h rs ds → ∀ a ∈ ds, ∃ us, h.PlainList a us
  | [], _, r, a, ha => by rw [show _ = [] from r] at ha; cases ha
  | _ :: _, _, ⟨d, q, vs, e, l, _, rr⟩, a, ha => by
    rw [e] at ha
    rcases List.mem_cons.mp ha with rfl | ha
    · exact ⟨_, l⟩
    · exact RepRows.own rr a ha
theorem SlotOwn.isl {h : Heap} {sv : Slot} {o : List Addr} {ov : Option Value} (r : SlotOwn W h sv o ov) : ∀ a ∈ o, W a ∧ ∃ us, h.PlainList a us := by
  intro a ha
  cases sv with
  | unset => rw [show o = [] from r] at ha; cases ha
  | val x => rw [r.1] at ha; cases ha
  | mls xs => obtain ⟨d, vs, e, w, _, b, _⟩ := r; rw [e] at ha; rw [List.mem_singleton.mp ha]; exact ⟨w, _, b⟩
  | mgr rows =>
    obtain ⟨d, ds, e, w, _, b, c, _⟩ := r
    refine ⟨w a ha, ?_⟩
    rw [e] at ha
    rcases List.mem_cons.mp ha with rfl | ha
    · exact ⟨_, b⟩
    · exact c.own a ha
  | scr xs => rw [r.1] at ha; cases ha

theorem RepRows.move {W W' : Addr → Prop} {h h' : Heap} {a : Addr} (hk : ∀ b o, b ≠ a → h.get? b = some o → tabby o = false → h'.get? b = some o) (hW : ∀ b, (h.get? b).isSome = true → W' b → W b) (ha : W a) :
    ∀ {rs : List (List AV)} {ds : List Addr}, a ∉ ds → rs.all firmL = true → RepRows W h rs ds → RepRows W' h' rs ds
  | [], _, _, _, r => r
  | r0 :: rs, _, hn, hf, ⟨d, q, vs, e, ⟨n, l⟩, r, rr⟩ => by
    rw [e] at hn
    simp only [List.all_cons, Bool.and_eq_true] at hf
    exact ⟨d, q, vs, e, ⟨n, hk _ _ (fun e => hn (by rw [e]; exact List.mem_cons_self)) l rfl⟩, RepL.firm (fun b o w e s => hk b o (fun e => w (e ▸ ha)) e s) hW _ _ hf.1 r, RepRows.move hk hW ha (fun q => hn (List.mem_cons_of_mem _ q)) hf.2 rr⟩
theorem SlotOwn.move {W W' : Addr → Prop} {h h' : Heap} {a : Addr} (hk : ∀ b o, b ≠ a → h.get? b = some o → tabby o = false → h'.get? b = some o) (hW : ∀ b, (h.get? b).isSome = true → W' b → W b) (hWW : ∀ b, W b → W' b) (ha : W a)
    {sv : Slot} {o : List Addr} {ov : Option Value} (hn : a ∉ o) (r : SlotOwn W h sv o ov) : SlotOwn W' h' sv o ov := by
  have hk' : ∀ b o, ¬ W b → h.get? b = some o → tabby o = false → h'.get? b = some o := fun b o w e s => hk b o (fun e => w (e ▸ ha)) e s
  cases sv with
  | unset => exact r
  | val x => obtain ⟨e, v, q, rv, f⟩ := r; exact ⟨e, v, q, RepV.firm hk' hW _ _ f rv, f⟩
  | mls xs =>
    obtain ⟨d, vs, e, w, q, ⟨n, l⟩, rl, f⟩ := r
    exact ⟨d, vs, e, hWW _ w, q, ⟨n, hk _ _ (fun e' => hn (by rw [e, e']; exact List.mem_cons_self)) l rfl⟩, RepL.firm hk' hW _ _ f rl, f⟩
  | mgr rows =>
    obtain ⟨d, ds, e, w, q, ⟨n, l⟩, rl, f⟩ := r
    exact ⟨d, ds, e, fun b hb => hWW _ (w b hb), q, ⟨n, hk _ _ (fun e' => hn (by rw [e, e']; exact List.mem_cons_self)) l rfl⟩, rl.move hk hW ha (fun q => hn (by rw [e]; exact List.mem_cons_of_mem _ q)) f, f⟩
  | scr xs =>
    obtain ⟨e, d, vs, q, nw, ⟨ob, ho, l⟩, rl, f⟩ := r
    exact ⟨e, d, vs, q, fun w => nw (hW d (by rw [ho]; rfl) w), ⟨ob, hk _ _ (fun e => nw (e ▸ ha)) ho (solid_cls l.1), l⟩, RepL.firm hk' hW _ _ f rl, f⟩

theorem SlotOwn.grow {h h' : Heap} (hk : Kept h h') {sv : Slot} {o : List Addr} {ov : Option Value} (r : SlotOwn W h sv o ov) : SlotOwn W h' sv o ov := by
  cases sv with
  | unset => exact r
  | val x => obtain ⟨e, v, q, rv, f⟩ := r; exact ⟨e, v, q, rv.grow hk, f⟩
  | mls xs => obtain ⟨d, vs, e, w, q, l, rl, f⟩ := r; exact ⟨d, vs, e, w, q, PlainList.grow hk l, rl.grow hk, f⟩
  | mgr rows => obtain ⟨d, ds, e, w, q, l, rl, f⟩ := r; exact ⟨d, ds, e, w, q, PlainList.grow hk l, rl.grow hk, f⟩
  | scr xs => obtain ⟨e, d, vs, q, nw, l, rl, f⟩ := r; exact ⟨e, d, vs, q, nw, IsList.grow hk l, rl.grow hk, f⟩
theorem Ld.grow {h h' : Heap} (hk : Kept h h') {x : Str} {ov : Option Value} (l : Ld env h m x ov) : Ld env h' m x ov := by
  rcases l with q | ⟨a, c, b, e⟩
  · exact .inl q
  · exact .inr ⟨a, c, b, IsCell.keepsK e hk⟩

theorem StX.ext (st : StX G W env names sl s m os va) {s₁ : Shared} (x : Ext s s₁) : StX G W env names sl s₁ m os va where
  base := st.base.ext x
  wl := st.wl
  wc := st.wc
  ns := Ns.keepsK st.ns x.kept
  slots := fun i y sv a b => ⟨(st.slots i y sv a b).1.grow x.kept, (st.slots i y sv a b).2.grow x.kept⟩
  nodup := st.nodup
  apart := st.apart
  isls := fun i a h => ⟨(st.isls i a h).1, let ⟨us, l⟩ := (st.isls i a h).2; ⟨us, PlainList.grow x.kept l⟩⟩

theorem StX.load (st : StX G W env names sl s m os va) (ef : EnvF env sc) {i : Nat} {x : Str} {sv : Slot} {v : Value} {p : Pos} {Q : Value → Shared → Prop} (hx : names[i]? = some x) (hs : sl[i]? = some sv) (hv : va i = some v) (hd : (x == ("__debug__" : Str)) = false) (h : Q v s) :
    wpAny G.M A (eval (.Name x p) env) Q E s := by
  obtain ⟨l, _⟩ := st.slots i x sv hx hs
  rw [hv] at l
  refine wpAny_Name ?_ hd
  rcases l with ⟨a, e⟩ | ⟨a, c, b, e⟩
  · exact wpAny_loadName_local ef.kind a st.ns e h
  · exact wpAny_loadName_cell ef.kind a b e h

structure Mov (W W' : Addr → Prop) (s s' : Shared) : Prop where
  same : ∃ h tk, s' = { s with heap := h, toks := tk }
  kept : ∀ b o, ¬ W b → s.heap.get? b = some o → tabby o = false → s'.heap.get? b = some o
  gone : ∀ b, s'.heap.get? b = none → s.heap.get? b = none
  more : ∀ b, W b → W' b
  new : ∀ b, W' b → (s.heap.get? b).isSome = true → W b
theorem Mov.refl (W : Addr → Prop) (s : Shared) : Mov W W s s := ⟨⟨s.heap, s.toks, rfl⟩, fun zq zq zq e zq => e, fun zq e => e, fun zq w => w, fun zq w zq => w⟩
theorem Mov.trans {W W' W'' : Addr → Prop} {a b c : Shared} (x : Mov W W' a b) (y : Mov W' W'' b c) : Mov W W'' a c where
  same := by obtain ⟨h, t, rfl⟩ := x.same; obtain ⟨h', t', rfl⟩ := y.same; exact ⟨h', t', rfl⟩
  kept := fun d o w e hs => y.kept d o (fun w' => w (x.new d w' (by rw [e]; rfl))) (x.kept d o w e hs) hs
  gone := fun d e => x.gone d (y.gone d e)
  more := fun d w => y.more d (x.more d w)
  new := fun d w e => x.new d (y.new d w (by
    cases q : b.heap.get? d with
    | none => rw [x.gone d q] at e; cases e
    | some o => rfl)) e
theorem Mov.ext {W : Addr → Prop} {s s' : Shared} (x : Ext s s') : Mov W W s s' := by
  obtain ⟨h, t, rfl, kk, nn, _⟩ := x
  exact ⟨⟨h, t, rfl⟩, fun b o zq e => kk b o e, nn, fun zq w => w, fun zq w zq => w⟩

theorem set_get {α : Type} {l : List α} {i j : Nat} {a : α} {b : α} (h : (l.set i a)[j]? = some b) : (i = j ∧ b = a) ∨ (i ≠ j ∧ l[j]? = some b) := by
  rw [List.getElem?_set] at h
  by_cases e : i = j
  · rw [if_pos e] at h
    split at h
    · cases h; exact .inl ⟨e, rfl⟩
    · cases h
  · rw [if_neg e] at h; exact .inr ⟨e, h⟩

theorem Ns.ne_list {h : Heap} {a d : Addr} {us : Array Value} (n : h.Ns a m) (l : h.PlainList d us) : a ≠ d := by
  rintro rfl
  obtain ⟨o, es, ep, ho, h1⟩ := n
  obtain ⟨cp, hl⟩ := l
  rw [ho] at hl; cases hl
  obtain ⟨h2, _⟩ := h1
  cases h2
theorem IsCell.ne_list {h : Heap} {a d : Addr} {us : Array Value} {ov : Option Value} (n : h.IsCell a ov) (l : h.PlainList d us) : a ≠ d := by
  rintro rfl
  obtain ⟨o, ho, h1⟩ := n
  obtain ⟨cp, hl⟩ := l
  rw [ho] at hl; cases hl
  cases h1
theorem IsCell.ne_ns {h : Heap} {a d : Addr} {ov : Option Value} (n : h.IsCell a ov) (l : h.Ns d m) : a ≠ d := by
  rintro rfl
  obtain ⟨o, ho, h1⟩ := n
  obtain ⟨o', es, ep, ho', h2⟩ := l
  rw [ho] at ho'; cases ho'
  obtain ⟨h2, _⟩ := h2
  rw [h1] at h2; cases h2
end
end Mine
end

section
open PySem PySem.W PyProof.Rows
set_option Elab.async false
set_option tactic.hygienic false
set_option maxRecDepth 100000
set_option linter.unusedVariables false


namespace Mine
section
variable {G : Gl} {W : Addr → Prop} {k : Nat} {names : List Str} {sc : List (Str × NameKind)} {A : Around} {s : Shared} {E : Value → Shared → Prop} {env : Env} {sl : List Slot} {m : Str → Option Value} {os : Nat → List Addr} {va : Nat → Option Value}

theorem nodup_idx {α : Type} : ∀ {l : List α} {i j : Nat} {x : α}, l.Nodup → l[i]? = some x → l[j]? = some x → i = j
  | [], i, _, _, _, h, _ => by simp at h
  | y :: l, 0, 0, _, _, _, _ => rfl
  | y :: l, 0, j + 1, x, n, h, h' => by
    simp at h h'
    rw [h] at n
    exact absurd (List.mem_of_getElem? h') (List.nodup_cons.mp n).1
  | y :: l, i + 1, 0, x, n, h, h' => by
    simp at h h'
    rw [h'] at n
    exact absurd (List.mem_of_getElem? h) (List.nodup_cons.mp n).1
  | y :: l, i + 1, j + 1, x, n, h, h' => by
    simp at h h'
    rw [nodup_idx (List.nodup_cons.mp n).2 h h']
theorem StX.store {s₀ : Shared} (st : StX G W env names sl s₀ m os va) (xx : Ext s₀ s) (eo : EnvOk env names) (hk : env.scope.kind = .function) {i : Nat} {x : Str} {v : Value} {sv old : Slot} {o : List Addr} {W' : Addr → Prop}
    (hx : names[i]? = some x) (hsl : sl[i]? = some old) (hW' : ∀ b, W' b ↔ W b ∨ b ∈ o) (ho : ∀ a ∈ o, s₀.heap.get? a = none) (hnd : o.Nodup) (hsv : SlotOwn W' s.heap sv o (some v)) {Q : Unit → Shared → Prop}
    (hQ : ∀ s' m', Mov W W' s₀ s' → (∀ b ob, ¬ W b → s.heap.get? b = some ob → tabby ob = false → s'.heap.get? b = some ob) → StX G W' env names (sl.set i sv) s' m' (fun j => if j = i then o else os j) (fun j => if j = i then some v else va j) → Q () s') :
    wpAny G.M A (storeName env x v) Q E s := by
  have st' := st.ext xx
  have hisl := hsv.isl
  have hsame : ∀ h' tk, ∃ h₁ tk₁, ({ s with heap := h', toks := tk } : Shared) = { s₀ with heap := h₁, toks := tk₁ } := by
    obtain ⟨h, t, rfl, _⟩ := xx
    exact fun h' tk => ⟨h', tk, rfl⟩
  have fin : ∀ (a : Addr) (h' : Heap) (tk : Nat) (m' : Str → Option Value), W a → (∃ oa, s.heap.get? a = some oa ∧ codey oa = false) → (∀ us, ¬ s.heap.PlainList a us) → Heap.SameBut a s.heap h' → (h'.get? a).isSome = true → h'.Ns env.locals m' →
      (∀ j y ov, names[j]? = some y → j ≠ i → Ld env s.heap m y ov → Ld env h' m' y ov) → Ld env h' m' x (some v) → Q () { s with heap := h', toks := tk } := by
    intro a h' tk m' wa ca nl sb ha ns' hold hnew
    have nao : a ∉ o := fun q => by obtain ⟨_, us, l⟩ := hisl a q; exact nl us l
    have k0 : ∀ b ob, b ≠ a → s₀.heap.get? b = some ob → tabby ob = false → h'.get? b = some ob := fun b ob hb e hs => sb.extBut b ob hb (xx.kept b ob e hs)
    have nn : ∀ b, h'.get? b = none → s₀.heap.get? b = none := fun b e => xx.gone (none_but (fun b o hb e => sb.extBut b o hb e) ha b e)
    have w0 : ∀ b, (s₀.heap.get? b).isSome = true → W' b → W b := fun b hb w => by
      rcases (hW' b).mp w with w | w
      · exact w
      · rw [ho b w] at hb; cases hb
    have h0a : G.h₀.get? a = none := (st.base.above a wa).2
    refine hQ _ m' ⟨hsame h' tk, fun b ob w e hs => k0 b ob (fun q => w (q ▸ wa)) e hs, nn, fun b w => (hW' b).mpr (.inl w), fun b w e => w0 b e w⟩ (fun b ob w e zq => sb.extBut b ob (fun q => w (q ▸ wa)) e) ?_
    refine ⟨⟨fun b ob e hs => ?_, fun b e => st.base.gone b (nn b e), ?_, fun b w => ?_⟩, (hW' _).mpr (.inl st.wl), fun y c e => (hW' _).mpr (.inl (st.wc y c e)), ns', ?_, ?_, ?_, ?_⟩
    · exact k0 b ob (fun q => by rw [q, h0a] at e; cases e) (st.base.keep b ob e hs) hs
    · obtain ⟨oa, e, c⟩ := ca
      exact st'.base.tb.change (fun b o hb e => sb.extBut b o hb e) (st.base.notMain wa) e c
    · show (h'.get? b).isSome = true ∧ _
      by_cases hba : b = a
      · subst hba; exact ⟨ha, h0a⟩
      · rcases (hW' b).mp w with w | w
        · refine ⟨?_, (st.base.above b w).2⟩
          cases q : h'.get? b with
          | none => have := (st.base.above b w).1; rw [nn b q] at this; cases this
          | some o => rfl
        · obtain ⟨_, us, n, l⟩ := hisl b w
          exact ⟨by rw [sb.extBut b _ hba l]; rfl, st.base.gone b (ho b w)⟩
    · intro j y sv' hy hs'
      rcases set_get hs' with ⟨rfl, rfl⟩ | ⟨hne, hs'⟩
      · rw [hx] at hy; cases hy
        simp only [if_pos]
        exact ⟨hnew, hsv.move (fun b ob hb e zq => sb.extBut b ob hb e) (fun zq zq w => w) (fun zq w => w) ((hW' a).mpr (.inl wa)) nao⟩
      · have hji : j ≠ i := fun q => hne q.symm
        simp only [if_neg hji]
        refine ⟨hold j y _ hy hji (st'.slots j y sv' hy hs').1, (st.slots j y sv' hy hs').2.move k0 w0 (fun b w => (hW' b).mpr (.inl w)) wa fun q => ?_⟩
        obtain ⟨_, us, l⟩ := st'.isls j a q
        exact nl us l
    · intro j
      split
      · exact hnd
      · exact st.nodup j
    · have cross : ∀ j b, b ∈ os j → b ∈ o → False := fun j b h1 h2 => by
        have := (st.base.above b (st.isls j b h1).1).1
        rw [ho b h2] at this; cases this
      intro j j' b h1 h2
      split at h1 <;> split at h2
      · next e1 e2 => exact e1.trans e2.symm
      · next e1 e2 => exact (cross _ _ h2 h1).elim
      · next e1 e2 => exact (cross _ _ h1 h2).elim
      · exact st.apart j j' b h1 h2
    · intro j b h1
      split at h1
      · obtain ⟨w, us, n, l⟩ := hisl b h1
        exact ⟨w, us, n, sb.extBut b _ (fun q => nl us (q ▸ ⟨n, l⟩)) l⟩
      · obtain ⟨w, us, n, l⟩ := st'.isls j b h1
        exact ⟨(hW' b).mpr (.inl w), us, n, sb.extBut b _ (fun q => nl us (q ▸ ⟨n, l⟩)) l⟩
  have dist : ∀ j y, names[j]? = some y → j ≠ i → y ≠ x := fun j y hy hj q => by
    rw [q] at hy
    exact hj (nodup_idx eo.nodup hy hx)
  obtain ⟨l, _⟩ := st'.slots i x old hx hsl
  rcases l with ⟨a, e⟩ | ⟨a, c, b, e⟩
  · refine wpAny_storeName_local a st'.ns (fun h' n' sb => fin env.locals h' _ _ st.wl (codey_ns st'.ns) (fun us l => Ns.ne_list st'.ns l rfl) sb ?_ n' ?_ (.inl ⟨a, by simp⟩)) (by rw [hk]; rfl)
    · obtain ⟨ob, _, _, e, _⟩ := n'; rw [e]; rfl
    · intro j y ov hy hj l
      rcases l with ⟨a', e'⟩ | ⟨a', c, b, e'⟩
      · exact .inl ⟨a', by simp [dist j y hy hj]; exact e'⟩
      · exact .inr ⟨a', c, b, e'.sameBut sb (IsCell.ne_ns e' st'.ns)⟩
  · refine wpAny_storeName_cell hk a b e fun h' n' sb => fin c h' _ m (st.wc x c b) (codey_cell e) (fun us l => IsCell.ne_list e l rfl) sb ?_ (st'.ns.sameBut sb (Ne.symm (IsCell.ne_ns e st'.ns))) ?_ (.inr ⟨a, c, b, n'⟩)
    · obtain ⟨ob, e, _⟩ := n'; rw [e]; rfl
    · intro j y ov hy hj l
      rcases l with ⟨a', e'⟩ | ⟨a', c', b', e'⟩
      · exact .inl ⟨a', e'⟩
      · refine .inr ⟨a', c', b', e'.sameBut sb fun q => ?_⟩
        exact dist j y hy hj (eo.inj y x c' b' (q ▸ b))

theorem StX.setList (st : StX G W env names sl s m os va) {i : Nat} {x : Str} {xs xs' : List AV} {vs' : List Value} {d : Addr} {h' : Heap} {tk : Nat} (hx : names[i]? = some x) (hsl : sl[i]? = some (.mls xs)) (hd : va i = some (.ref d))
    (sb : Heap.SameBut d s.heap h') (hl : h'.PlainList d (List.toArray vs')) (hr : RepL W s.heap xs' vs') (hf : firmL xs' = true) :
    Mov W W s { s with heap := h', toks := tk } ∧ StX G W env names (sl.set i (.mls xs')) { s with heap := h', toks := tk } m os va := by
  obtain ⟨_, d', vs, e1, wd, e2, ld, _⟩ := st.slots i x _ hx hsl
  rw [hd] at e2; cases e2
  have k0 : ∀ b ob, b ≠ d → s.heap.get? b = some ob → h'.get? b = some ob := fun b ob hb e => sb.extBut b ob hb e
  have h0a : G.h₀.get? d = none := (st.base.above d wd).2
  have nn : ∀ b, h'.get? b = none → s.heap.get? b = none := none_but k0 (by obtain ⟨n, l⟩ := hl; rw [l]; rfl)
  refine ⟨⟨⟨h', tk, rfl⟩, fun b ob w e zq => k0 b ob (fun q => w (q ▸ wd)) e, nn, fun zq w => w, fun zq w zq => w⟩, ⟨⟨fun b ob e hs => ?_, fun b e => st.base.gone b (nn b e), ?_, fun b w => ?_⟩, st.wl, st.wc, ?_, ?_, st.nodup, st.apart, ?_⟩⟩
  · exact k0 b ob (fun q => by rw [q, h0a] at e; cases e) (st.base.keep b ob e hs)
  · obtain ⟨oa, e, c⟩ := codey_list ld
    exact st.base.tb.change k0 (st.base.notMain wd) e c
  · show (h'.get? b).isSome = true ∧ _
    by_cases hba : b = d
    · subst hba; obtain ⟨n, l⟩ := hl; exact ⟨by rw [l]; rfl, h0a⟩
    · obtain ⟨ob, e⟩ := Option.isSome_iff_exists.mp (st.base.above b w).1
      exact ⟨by rw [k0 b ob hba e]; rfl, (st.base.above b w).2⟩
  · exact st.ns.sameBut sb (Ns.ne_list st.ns ld)
  · intro j y sv hy hs
    have hLd : ∀ ov, Ld env s.heap m y ov → Ld env h' m y ov := fun ov l => by
      rcases l with q | ⟨a, c, b, e⟩
      · exact .inl q
      · exact .inr ⟨a, c, b, e.sameBut sb (IsCell.ne_list e ld)⟩
    rcases set_get hs with ⟨rfl, rfl⟩ | ⟨hne, hs⟩
    · rw [hx] at hy; cases hy
      exact ⟨hLd _ (st.slots i x _ hx hsl).1, d, vs', e1, wd, hd, hl, RepL.firm (fun b ob w e zq => k0 b ob (fun q => w (q ▸ wd)) e) (fun zq zq w => w) _ _ hf hr, hf⟩
    · refine ⟨hLd _ (st.slots j y sv hy hs).1, (st.slots j y sv hy hs).2.move (fun b o hb e zq => k0 b o hb e) (fun zq zq w => w) (fun zq w => w) wd fun q => ?_⟩
      exact hne (st.apart i j d (by rw [e1]; exact List.mem_singleton.mpr rfl) q)
  · intro j b h1
    obtain ⟨w, us, n, l⟩ := st.isls j b h1
    by_cases hba : b = d
    · subst hba; exact ⟨w, _, hl⟩
    · exact ⟨w, us, n, k0 b _ hba l⟩

inductive Fl where
  | next | brk | cont | ret (v : AV)
noncomputable def FlRep (G : Gl) (h : Heap) : Fl → Flow → Prop
  | .next, f => f = .next
  | .brk, f => f = .brk
  | .cont, f => f = .cont
  | .ret a, f => ∃ v, f = .ret v ∧ RepV (fun b => (G.h₀.get? b).isSome = true) h a v
end
end Mine
end

section
open PySem PySem.W PyProof.Rows
set_option Elab.async false
set_option tactic.hygienic false
set_option maxRecDepth 100000
set_option linter.unusedVariables false


namespace Mine

noncomputable def StS (G : Gl) (k : Nat) (names : List Str) (sc : List (Str × NameKind)) (st : Stmt) (f : List Slot → Option (Fl × List Slot)) : Prop :=
  ∀ (A : Around) (W : Addr → Prop) (env : Env) (s : Shared) (sl : List Slot) (m : Str → Option Value) (os : Nat → List Addr) (va : Nat → Option Value), Room A k → EnvF env sc → EnvOk env names → StX G W env names sl s m os va →
    ∀ fl sl', f sl = some (fl, sl') → ∀ Q : Flow → Shared → Prop, (∀ W' s' m' os' va' flow, Mov W W' s s' → StX G W' env names sl' s' m' os' va' → FlRep G s'.heap fl flow → Q flow s') →
      wpAny G.M A (exec st env) Q (fun zq zq => False) s
noncomputable def SsS (G : Gl) (k : Nat) (names : List Str) (sc : List (Str × NameKind)) (st : List Stmt) (f : List Slot → Option (Fl × List Slot)) : Prop :=
  ∀ (A : Around) (W : Addr → Prop) (env : Env) (s : Shared) (sl : List Slot) (m : Str → Option Value) (os : Nat → List Addr) (va : Nat → Option Value), Room A k → EnvF env sc → EnvOk env names → StX G W env names sl s m os va →
    ∀ fl sl', f sl = some (fl, sl') → ∀ Q : Flow → Shared → Prop, (∀ W' s' m' os' va' flow, Mov W W' s s' → StX G W' env names sl' s' m' os' va' → FlRep G s'.heap fl flow → Q flow s') →
      wpAny G.M A (execs st env) Q (fun zq zq => False) s

noncomputable def putS (sl : List Slot) (i : Nat) (sv : Slot) : Option (List Slot) := if i < sl.length then some (sl.set i sv) else none

section
variable {G : Gl} {W : Addr → Prop} {k : Nat} {names : List Str} {sc : List (Str × NameKind)} {A : Around} {s : Shared} {E : Value → Shared → Prop} {env : Env} {sl : List Slot} {m : Str → Option Value} {os : Nat → List Addr} {va : Nat → Option Value}

theorem SsS.nil : SsS G k names sc [] (fun sl => some (.next, sl)) := fun A W env s sl m os va ro ef eo st fl sl' hf Q hQ => by
  cases hf
  exact wpAny_execs_nil (hQ W s m os va .next (.refl W s) st rfl)
noncomputable def seqF (f g : List Slot → Option (Fl × List Slot)) : List Slot → Option (Fl × List Slot) := fun sl => (f sl).bind fun r => match r.1 with
  | .next => g r.2
  | _ => some r
theorem SsS.cons {st : Stmt} {r : List Stmt} {f g : List Slot → Option (Fl × List Slot)} (h : StS G k names sc st f) (hr : SsS G k names sc r g) : SsS G k names sc (st :: r) (seqF f g) := by
  intro A W env s sl m os va ro ef eo stx fl sl' hf Q hQ
  obtain ⟨⟨fl1, sl1⟩, h1, h2⟩ := Option.bind_eq_some_iff.mp hf
  refine wpAny_execs_cons (h A W env s sl m os va ro ef eo stx fl1 sl1 h1 _ fun W₁ s₁ m₁ os₁ va₁ flow₁ mv₁ st₁ fr₁ => ?_)
  cases fl1 with
  | next =>
    cases (show flow₁ = .next from fr₁)
    exact hr A W₁ env s₁ sl1 m₁ os₁ va₁ ro ef eo st₁ fl sl' h2 Q fun W₂ s₂ m₂ os₂ va₂ flow₂ mv₂ st₂ fr₂ => hQ W₂ s₂ m₂ os₂ va₂ flow₂ (mv₁.trans mv₂) st₂ fr₂
  | brk => cases h2; cases (show flow₁ = .brk from fr₁); exact hQ W₁ s₁ m₁ os₁ va₁ _ mv₁ st₁ rfl
  | cont => cases h2; cases (show flow₁ = .cont from fr₁); exact hQ W₁ s₁ m₁ os₁ va₁ _ mv₁ st₁ rfl
  | ret a => cases h2; obtain ⟨v, e, r⟩ := fr₁; cases e; exact hQ W₁ s₁ m₁ os₁ va₁ _ mv₁ st₁ ⟨v, rfl, r⟩

theorem putS_some {sl sl' : List Slot} {i : Nat} {sv : Slot} (h : putS sl i sv = some sl') : sl' = sl.set i sv ∧ ∃ old, sl[i]? = some old := by
  unfold putS at h
  split at h
  · next hi => cases h; exact ⟨rfl, _, List.getElem?_eq_getElem hi⟩
  · cases h

noncomputable def setF (i : Nat) (f : List Slot → Option AV) : List Slot → Option (Fl × List Slot) := fun sl => (f sl).bind fun av => if av.firm = true then (putS sl i (.val av)).map fun sl' => (.next, sl') else none

theorem store_val {s₀ : Shared} (st : StX G W env names sl s₀ m os va) (xx : Ext s₀ s) (eo : EnvOk env names) (hk : env.scope.kind = .function) {i : Nat} {x : Str} {v : Value} {a : AV} {old : Slot}
    (hx : names[i]? = some x) (hsl : sl[i]? = some old) (hr : RepV W s.heap a v) (hf : a.firm = true) {Q : Unit → Shared → Prop}
    (hQ : ∀ s' m' os' va', Mov W W s₀ s' → (∀ b ob, ¬ W b → s.heap.get? b = some ob → tabby ob = false → s'.heap.get? b = some ob) → StX G W env names (sl.set i (.val a)) s' m' os' va' → Q () s') : wpAny G.M A (storeName env x v) Q E s :=
  st.store xx eo hk (sv := .val a) (o := []) (W' := W) hx hsl (fun b => by simp) (fun a h => by cases h) List.nodup_nil ⟨rfl, v, rfl, hr, hf⟩ fun s' m' mv kk st' => hQ s' m' _ _ mv kk st'

theorem StS.assign {i : Nat} {x : Str} {p q : Pos} {e : Expr} {f : List Slot → Option AV} (hx : names[i]? = some x) (he : ∀ W, EvS G W k names sc e f) (hs : ∀ env, swapsWith e (some (.Name x p)) q.line env = pure false) :
    StS G k names sc (.Assign [.Name x p] e q) (setF i f) := by
  intro A W env s sl m os va ro ef eo st fl sl' hf Q hQ
  obtain ⟨av, h1, h2⟩ := Option.bind_eq_some_iff.mp hf
  split at h2
  · next hfirm =>
    obtain ⟨sl1, h3, h4⟩ := Option.map_eq_some_iff.mp h2
    cases h4
    obtain ⟨rfl, old, hold⟩ := putS_some h3
    refine wpAny_Assign_Name (he W A env s sl ro ef st.rs st.base av h1 _ fun v s₁ x₁ r₁ => ?_) (hs env)
    exact store_val st x₁ eo ef.kind hx hold r₁ hfirm fun s' m' os' va' mv zq st' => hQ W s' m' os' va' .next mv st' rfl
  · cases h2

noncomputable def rowsOf : List AV → Option (List (List AV))
  | [] => some []
  | .lst r :: xs => (rowsOf xs).map (r :: ·)
  | _ :: _ => none
noncomputable def newSlot : Nat → List AV → Option Slot
  | 0, xs => some (.val (.lst xs))
  | 1, xs => some (.mls xs)
  | _, xs => (rowsOf xs).bind fun rows => if rows.all (fun r => (asInts r).isSome) = true then some (.mgr rows) else none

set_option tactic.hygienic true in
theorem rows_of : ∀ {W : Addr → Prop} {h : Heap} {xs : List AV} {rows : List (List AV)} {vs : List Value} {ds : List Addr}, rowsOf xs = some rows → vs = ds.map Value.ref → RepL W h xs vs → RepRows W h rows ds ∧ (∀ d ∈ ds, ¬ W d) ∧ rows.all firmL = firmL xs
  | W, h, [], rows, vs, ds, e, hv, r => by
    cases e
    rw [show vs = [] from r] at hv
    have : ds = [] := by simpa using hv.symm
    subst this
    exact ⟨rfl, (fun d hd => by cases hd), rfl⟩
  | W, h, x :: xs, rows, vs, ds, e, hv, ⟨v, q, hvq, rx, rq⟩ => by
    cases x <;> first | (simp [rowsOf] at e; done) | skip
    case lst xs' =>
    obtain ⟨rest, e2, e3⟩ := Option.map_eq_some_iff.mp e
    subst e3
    cases ds with
    | nil => rw [hvq] at hv; cases hv
    | cons d ds =>
      rw [hvq] at hv
      simp only [List.map_cons, List.cons.injEq] at hv
      obtain ⟨hv1, hv2⟩ := hv
      obtain ⟨a, us, ea, nw, pl, rl⟩ := rx
      rw [hv1] at ea; cases ea
      obtain ⟨h1, h2, h3⟩ := rows_of e2 hv2 rq
      refine ⟨⟨d, ds, us, rfl, pl, rl, h1⟩, (fun b hb => ?_), ?_⟩
      · rcases List.mem_cons.mp hb with rfl | hb
        · exact nw
        · exact h2 b hb
      · simp only [List.all_cons, firmL, AV.firm, h3]

theorem RepL.nums {W W' : Addr → Prop} {h : Heap} : ∀ {xs : List AV} {vs : List Value}, (asInts xs).isSome = true → RepL W h xs vs → RepL W' h xs vs
  | [], _, _, r => r
  | x :: xs, _, f, ⟨v, q, e, a, b⟩ => by
    cases x <;> first | (simp [asInts] at f; done) | skip
    case int i =>
    simp only [asInts, Option.isSome_map] at f
    exact ⟨v, q, e, a, RepL.nums f b⟩
theorem RepRows.nums {W W' : Addr → Prop} {h : Heap} : ∀ {rs : List (List AV)} {ds : List Addr}, rs.all (fun r => (asInts r).isSome) = true → RepRows W h rs ds → RepRows W' h rs ds
  | [], _, _, r => r
  | _ :: _, _, f, ⟨d, q, vs, e, l, r, rr⟩ => by
    simp only [List.all_cons, Bool.and_eq_true] at f
    exact ⟨d, q, vs, e, l, r.nums f.1, RepRows.nums f.2 rr⟩

theorem store_new {s₀ : Shared} (st : StX G W env names sl s₀ m os va) (xx : Ext s₀ s) (eo : EnvOk env names) (hk : env.scope.kind = .function) {i : Nat} {x : Str} {D : Addr} {vs : List Value} {xs : List AV} {md : Nat} {sv old : Slot}
    (hx : names[i]? = some x) (hsl : sl[i]? = some old) (hD : s₀.heap.get? D = none) (hpl : s.heap.PlainList D (List.toArray vs)) (hr : RepL (fun b => W b ∨ b = D) s.heap xs vs) (hf : firmL xs = true) (hmd : newSlot md xs = some sv)
    (hrows : 2 ≤ md → ∃ ds : List Addr, vs = ds.map Value.ref ∧ ds.Nodup ∧ ∀ d ∈ ds, s₀.heap.get? d = none) {Q : Unit → Shared → Prop}
    (hQ : ∀ W' s' m' os' va', Mov W W' s₀ s' → (∀ b ob, ¬ W b → s.heap.get? b = some ob → tabby ob = false → s'.heap.get? b = some ob) → (∀ b, W' b → W b ∨ ∃ us, s.heap.PlainList b us) → StX G W' env names (sl.set i sv) s' m' os' va' → Q () s') : wpAny G.M A (storeName env x (.ref D)) Q E s := by
  have nW : ¬ W D := st.base.new hD
  match md, hmd with
  | 0, hmd =>
    cases hmd
    refine store_val st xx eo hk hx hsl (a := .lst xs) ⟨D, vs, rfl, nW, hpl, hr.weaken fun b w => .inl w⟩ hf fun s' m' os' va' mv kk st' => hQ W s' m' os' va' mv kk (fun b w => .inl w) st'
  | 1, hmd =>
    cases hmd
    refine st.store xx eo hk (sv := .mls xs) (o := [D]) (W' := fun b => W b ∨ b = D) hx hsl (fun b => by simp) (fun a h => by rw [List.mem_singleton.mp h]; exact hD) (by simp) ⟨D, vs, rfl, .inr rfl, rfl, hpl, hr, hf⟩ fun s' m' mv kk st' => hQ _ s' m' _ _ mv kk (fun b w => w.elim .inl fun e => .inr ⟨_, e ▸ hpl⟩) st'
  | md + 2, hmd =>
    obtain ⟨rows, e1, e2⟩ := Option.bind_eq_some_iff.mp hmd
    split at e2
    · next hnum =>
      cases e2
      obtain ⟨ds, hv, hnd, hds⟩ := hrows (by lia)
      obtain ⟨h1, h2, h3⟩ := rows_of e1 hv hr
      refine st.store xx eo hk (sv := .mgr rows) (o := D :: ds) (W' := fun b => W b ∨ b ∈ D :: ds) hx hsl (fun b => Iff.rfl) (fun a h => ?_) (List.nodup_cons.mpr ⟨fun q => h2 D q (.inr rfl), hnd⟩) ⟨D, ds, rfl, fun a h => .inr h, rfl, by rw [← hv]; exact hpl, h1.nums hnum, by rw [h3]; exact hf⟩ fun s' m' mv kk st' => hQ _ s' m' _ _ mv kk (fun b w => w.elim .inl fun e => .inr ((List.mem_cons.mp e).elim (fun e => ⟨_, e ▸ hpl⟩) fun e => h1.own b e)) st'
      rcases List.mem_cons.mp h with rfl | h
      · exact hD
      · exact hds a h
    · cases e2
end
end Mine
end

section
open PySem PySem.W PyProof.Rows
set_option Elab.async false
set_option tactic.hygienic false
set_option maxRecDepth 100000
set_option linter.unusedVariables false


namespace Mine
section
variable {G : Gl} {W : Addr → Prop} {k : Nat} {names : List Str} {sc : List (Str × NameKind)} {A : Around} {s : Shared} {E : Value → Shared → Prop} {env : Env} {sl : List Slot} {m : Str → Option Value} {os : Nat → List Addr} {va : Nat → Option Value}

noncomputable def newF (md i : Nat) (f : List Slot → Option (List AV)) : List Slot → Option (Fl × List Slot) := fun sl => (f sl).bind fun xs => if firmL xs = true then (newSlot md xs).bind fun sv => (putS sl i sv).map fun sl' => (.next, sl') else none

theorem newF_some {md i : Nat} {f : List Slot → Option (List AV)} {fl : Fl} {sl' : List Slot} (h : newF md i f sl = some (fl, sl')) : ∃ xs sv old, f sl = some xs ∧ firmL xs = true ∧ newSlot md xs = some sv ∧ sl[i]? = some old ∧ fl = .next ∧ sl' = sl.set i sv := by
  obtain ⟨xs, h1, h2⟩ := Option.bind_eq_some_iff.mp h
  split at h2
  · next hf =>
    obtain ⟨sv, h3, h4⟩ := Option.bind_eq_some_iff.mp h2
    obtain ⟨sl1, h5, h6⟩ := Option.map_eq_some_iff.mp h4
    cases h6
    obtain ⟨rfl, old, ho⟩ := putS_some h5
    exact ⟨xs, sv, old, h1, hf, h3, ho, rfl, rfl⟩
  · cases h2

noncomputable def numsOnly : AV → Option (List AV)
  | .lst xs => if (asInts xs).isSome = true then some xs else none
  | _ => none
theorem numsOnly_some {a : AV} {xs : List AV} (h : numsOnly a = some xs) : a = .lst xs ∧ (asInts xs).isSome = true := by
  cases a <;> first | (cases h; done) | skip
  simp only [numsOnly] at h
  split at h
  case isFalse => cases h
  case isTrue hn => cases h; exact ⟨rfl, hn⟩
theorem StS.assignNew {i md : Nat} {x : Str} {p q : Pos} {e : Expr} {f : List Slot → Option AV} (hmd : md < 2) (hx : names[i]? = some x) (he : ∀ W, EvB true G W k names sc e f) (hs : ∀ env, swapsWith e (some (.Name x p)) q.line env = pure false) :
    StS G k names sc (.Assign [.Name x p] e q) (newF md i (fun sl => (f sl).bind numsOnly)) := by
  intro A W env s sl m os va ro ef eo st fl sl' hf Q hQ
  obtain ⟨xs, sv, old, h1, hfi, hn, ho, rfl, rfl⟩ := newF_some hf
  obtain ⟨av, h1, h2⟩ := Option.bind_eq_some_iff.mp h1
  -- evaluated where the list's own address is thought of as written
  refine wpAny_Assign_Name (he W A env s sl ro ef st.rs st.base av h1 _ fun v s₁ x₁ r₁ fr => ?_) (hs env)
  obtain ⟨D, rfl, hD⟩ := fr rfl
  obtain ⟨rfl, hnum⟩ := numsOnly_some h2
  obtain ⟨a, vs, ea, nw, hpl, hr⟩ := r₁
  cases ea
  match md, hn with
  | 0, hn =>
    cases hn
    exact store_val st x₁ eo ef.kind hx ho (a := .lst xs) ⟨_, vs, rfl, nw, hpl, hr⟩ hfi fun s' m' os' va' mv zq st' => hQ W s' m' os' va' .next mv st' rfl
  | 1, hn =>
    exact store_new st x₁ eo ef.kind hx ho hD hpl (hr.nums hnum) hfi hn (fun q => by lia) fun W' s' m' os' va' mv zq zq st' => hQ W' s' m' os' va' .next mv st' rfl
  | md + 2, _ => lia

mutual
theorem RepV.skip {W : Addr → Prop} {h h' : Heap} (hk : ∀ b o xs n, h.get? b = some o → o.data = .seq xs n → h'.get? b = some o) : ∀ (x : AV) (v : Value), RepV W h x v → RepV W h' x v
  | .none, _, r | .bool _, _, r | .int _, _, r | .str _, _, r => r
  | .tup xs, v, ⟨a, vs, e, hw, ⟨o, ho, hc, cp, hd⟩, r⟩ => ⟨a, vs, e, hw, ⟨o, hk a o _ _ ho hd, hc, cp, hd⟩, RepL.skip hk xs vs r⟩
  | .lst xs, v, ⟨a, vs, e, hw, ⟨cp, ho⟩, r⟩ => ⟨a, vs, e, hw, ⟨cp, hk a _ _ _ ho rfl⟩, RepL.skip hk xs vs r⟩
  | .mut xs, v, ⟨a, vs, e, ⟨cp, ho⟩, r⟩ => ⟨a, vs, e, ⟨cp, hk a _ _ _ ho rfl⟩, RepL.skip hk xs vs r⟩
  | .view xs, v, ⟨a, vs, e, ⟨o, ho, hc, cp, hd⟩, r⟩ => ⟨a, vs, e, ⟨o, hk a o _ _ ho hd, hc, cp, hd⟩, RepL.skip hk xs vs r⟩
theorem RepL.skip {W : Addr → Prop} {h h' : Heap} (hk : ∀ b o xs n, h.get? b = some o → o.data = .seq xs n → h'.get? b = some o) : ∀ (xs : List AV) (vs : List Value), RepL W h xs vs → RepL W h' xs vs
  | [], _, r => r
  | x :: xs, _, ⟨v, q, e, a, b⟩ => ⟨v, q, e, RepV.skip hk x v a, RepL.skip hk xs q b⟩
end
theorem RepRows.skip {W : Addr → Prop} {h h' : Heap} (hk : ∀ b o xs n, h.get? b = some o → o.data = .seq xs n → h'.get? b = some o) : ∀ {rs : List (List AV)} {ds : List Addr}, RepRows W h rs ds → RepRows W h' rs ds
  | [], _, r => r
  | _ :: _, _, ⟨d, q, vs, e, ⟨cp, l⟩, r, rr⟩ => ⟨d, q, vs, e, ⟨cp, hk _ _ _ _ l rfl⟩, RepL.skip hk _ _ r, RepRows.skip hk rr⟩
theorem SlotOwn.skip {W : Addr → Prop} {h h' : Heap} (hk : ∀ b o xs n, h.get? b = some o → o.data = .seq xs n → h'.get? b = some o) {sv : Slot} {o : List Addr} {ov : Option Value} (r : SlotOwn W h sv o ov) : SlotOwn W h' sv o ov := by
  cases sv with
  | unset => exact r
  | val x => obtain ⟨e, v, q, rv, f⟩ := r; exact ⟨e, v, q, rv.skip hk, f⟩
  | mls xs => obtain ⟨d, vs, e, w, q, ⟨cp, l⟩, rl, f⟩ := r; exact ⟨d, vs, e, w, q, ⟨cp, hk _ _ _ _ l rfl⟩, rl.skip hk, f⟩
  | mgr rows => obtain ⟨d, ds, e, w, q, ⟨cp, l⟩, rl, f⟩ := r; exact ⟨d, ds, e, w, q, ⟨cp, hk _ _ _ _ l rfl⟩, rl.skip hk, f⟩
  | scr xs => obtain ⟨e, d, vs, q, nw, ⟨ob, ho, hc, cp, hd⟩, rl, f⟩ := r; exact ⟨e, d, vs, q, nw, ⟨ob, hk d ob _ _ ho hd, hc, cp, hd⟩, rl.skip hk, f⟩

theorem StX.skip (st : StX G W env names sl s m os va) {X : Addr → Prop} {h' : Heap} {tk : Nat} (hk : ∀ b o, ¬ X b → s.heap.get? b = some o → h'.get? b = some o) (tb : TB G.start h') (hX : ∀ b, X b → ¬ W b ∧ G.h₀.get? b = none ∧ ∀ o xs n, s.heap.get? b = some o → o.data ≠ .seq xs n) :
    StX G W env names sl { s with heap := h', toks := tk } m os va where
  base := ⟨fun b o e hs => hk b o (fun q => by rw [(hX b q).2.1] at e; cases e) (st.base.keep b o e hs), (fun b e => by
    by_cases q : X b
    · exact (hX b q).2.1
    · refine st.base.gone b ?_
      cases q' : s.heap.get? b with
      | none => rfl
      | some o => have e : h'.get? b = none := e; rw [hk b o q q'] at e; cases e), tb, fun b w => ⟨by
    obtain ⟨o, ho⟩ := Option.isSome_iff_exists.mp (st.base.above b w).1
    show (h'.get? b).isSome = true
    rw [hk b o (fun q => (hX b q).1 w) ho]; rfl, (st.base.above b w).2⟩⟩
  wl := st.wl
  wc := st.wc
  ns := let ⟨o, es, ep, e, r⟩ := st.ns; ⟨o, es, ep, hk _ _ (fun q => (hX _ q).1 st.wl) e, r⟩
  slots := fun i y sv hy hs => ⟨by
    rcases (st.slots i y sv hy hs).1 with q | ⟨a, c, b, o, e, r⟩
    · exact .inl q
    · exact .inr ⟨a, c, b, o, hk _ _ (fun q => (hX _ q).1 (st.wc _ _ b)) e, r⟩, (st.slots i y sv hy hs).2.skip fun b o xs n e d => hk b o (fun q => (hX b q).2.2 o xs n e d) e⟩
  nodup := st.nodup
  apart := st.apart
  isls := fun i a h => ⟨(st.isls i a h).1, let ⟨us, cp, l⟩ := (st.isls i a h).2; ⟨us, cp, hk _ _ (fun q => (hX _ q).1 (st.isls i a h).1) l⟩⟩

noncomputable def asg (x : Str) (p : Pos) (env : Env) : Value → Sem Unit := PySem.assign (.Name x p) env
theorem StS.assignComp {fr : Bool} {md i : Nat} {x y : Str} {p py q : Pos} {iter elt : Expr} {ifs : List Expr} {scope : Scope} {pos : Pos} (ix : List Nat) {fi : List Slot → Option (List AV)} {ft : List Slot → Option Bool} {fe : List Slot → Option AV}
    (hx : names[i]? = some x) (chk : compChk sc scope.names names y ix = true) (hsk : scope.kind = .function)
    (ci : ∀ W, EvI G W k names sc iter fi) (ct : ∀ W, TestsS G W k (cvars names y ix) (relab sc scope.names) ifs ft) (ce : ∀ W, EvB fr G W k (cvars names y ix) (relab sc scope.names) elt fe) (hfr : md < 2 ∨ fr = true)
    (hs : ∀ env x, foldedSetIterable iter env x = pure x) :
    StS G k names sc (.Assign [.Name x p] (.ListComp elt [⟨.Name y py, iter, ifs, 0⟩] scope pos) q) (newF md i (compF fi ft fe ix)) := by
  intro A W env s sl m os va ro ef eo st fl sl' hf Q hQ
  obtain ⟨xs, sv, old, h1, hfi, hn, ho, rfl, rfl⟩ := newF_some hf
  cases hsw : (env.blockKind == .function && env.kindOf x == some .local && p.line == pos.line && !(scope.names.any fun (n, k) => n == x && (k == .local || k == .cell)))
  · refine wpAny_Assign_Name (comp_plain (fr := fr) chk hsk (ci W) ct ce ro ef st.rs st.base h1 (fun D s₁ vs xx hD hpl hr hfl hrows => ?_) (hs env)) ?_
    · refine store_new st xx eo ef.kind hx ho hD hpl hr hfi hn (fun q => hrows (hfr.resolve_left (by lia))) fun W' s' m' os' va' mv zq zq st' => hQ W' s' m' os' va' .next mv st' rfl
    · show (do return _ : Sem Bool) = _
      exact congrArg pure hsw
  · have hsw' : swapsWith (.ListComp elt [⟨.Name y py, iter, ifs, 0⟩] scope pos) (some (.Name x p)) q.line env = pure true := by
      show (do return _ : Sem Bool) = _
      exact congrArg pure hsw
    rw [exec_Assign_Name_used _ _ _ _ hsw']
    refine wpAny_bind (wpAny_standAt (wpAny_bind ?_))
    show wpAny _ A (do let _ ← comprehension (.ListComp elt [⟨.Name y py, iter, ifs, 0⟩] scope pos) scope env _ (newList []) false (eval iter env) (some (Mine.asg x p env))) _ _ s
    obtain ⟨items, i1, i2⟩ := Option.bind_eq_some_iff.mp h1
    split at i2
    · next hc =>
      refine wpAny_bind (wpAny_mono (comp_core (use := some (Mine.asg x p env)) (fr := fr) (Q := fun zq s' => Q .next s') chk hsk (ci W) ct ce ro ef st.rs st.base i1 hc.1 hc.2 i2 (fun D C s₁ vs xx hD hC hDC hns hpl hrl hfl hrows => ?_) (hs env)) (fun zq s' hq => wpAny_pure (wpAny_pure hq)) fun zq zq f => f.elim)
      obtain ⟨mm, hns⟩ := hns
      have nWC : ¬ W C := st.base.new hC
      refine wpAny_assign_Name (store_new st xx eo ef.kind hx ho hD hpl (hrl.weaken (fun b w => by rcases w with w | w; exact .inl w; exact .inr (.inl w))) hfl hn (fun q => hrows (hfr.resolve_left (by lia))) fun W' s' m' os' va' mv kk hls st' => ?_)
      have hns' : s'.heap.Ns C mm := let ⟨o, es, ep, e, r⟩ := hns; ⟨o, es, ep, kk _ _ nWC e (solid_dict r.1), r⟩
      refine ⟨mm, hns', fun h' sb => ?_⟩
      have nW'C : ¬ W' C := fun w => by
        rcases hls C w with w | ⟨us, l⟩
        · exact nWC w
        · exact Ns.ne_list hns l rfl
      have hMC : C ≠ mainGlobals := fun q => by
        obtain ⟨mg, o', _, _, e', _⟩ := st.base.tb.main
        rw [← q, hC] at e'; cases e'
      have tb' : TB G.start h' := by obtain ⟨oc, e, c⟩ := codey_ns hns'; exact st'.base.tb.change (fun b o hb e => sb.extBut b o hb e) hMC e c
      refine hQ W' _ m' os' va' .next ⟨?_, fun b o w e hs => ?_, fun b e => ?_, mv.more, mv.new⟩ (st'.skip (X := fun b => b = C) (fun b o nb e => sb.extBut b o nb e) tb' fun b q => ⟨q ▸ nW'C, q ▸ st.base.gone _ hC, fun o xs n e d => by obtain ⟨o', es, ep, e1, e2, _⟩ := hns'; rw [q, e1] at e; cases e; rw [e2] at d; cases d⟩) rfl
      · obtain ⟨hh, tt, e⟩ := mv.same
        exact ⟨h', tt, by rw [e]⟩
      · exact sb.extBut b o (fun q => by rw [q, hC] at e; cases e) (mv.kept b o w e hs)
      · by_cases q : b = C
        · rw [q]; exact hC
        · exact mv.gone b (by rw [← sb.2 b q]; exact e)
    · cases i2
end
end Mine
end

section
open PySem PySem.W PyProof.Rows
set_option Elab.async false
set_option tactic.hygienic false
set_option maxRecDepth 100000
set_option linter.unusedVariables false


namespace Mine
section
variable {G : Gl} {W : Addr → Prop} {k : Nat} {names : List Str} {sc : List (Str × NameKind)} {A : Around} {s : Shared} {E : Value → Shared → Prop} {env : Env} {sl : List Slot} {m : Str → Option Value} {os : Nat → List Addr} {va : Nat → Option Value}

noncomputable def augInt (op : Operator) (x y : Int) : Option Int := match op with
  | .Add => some (x + y)
  | .Sub => some (x - y)
  | .Mult => if small x && small y then some (x * y) else none
  | _ => none
theorem aug_sound {op : Operator} {x y r : Int} {t u : Tok} (e : augInt op x y = some r) {Q : Value → Shared → Prop} (h : Q (.int r s.toks) { s with toks := s.toks + 1 }) : wpAny G.M A (inplaceOp op (.int x t) (.int y u)) Q E s := by
  cases op <;> simp only [augInt] at e <;> try (cases e; done)
  case Add => cases e; exact wpAny_iadd_int h
  case Sub => cases e; exact PyProof.Rows.isub_int h
  case Mult => split at e
               · next q => cases e; rw [Bool.and_eq_true] at q; exact PyProof.Rows.imul_int h (small_mul q.1 q.2)
               · cases e
noncomputable def augV (op : Operator) (a b : AV) : Option AV := match a, b with
  | .int x, .int y => (augInt op x y).map .int
  | _, _ => none
theorem augV_sound {op : Operator} {a b r : AV} {v u : Value} (ra : RepV W s.heap a v) (rb : RepV W s.heap b u) (e : augV op a b = some r) {Q : Value → Shared → Prop} (h : ∀ v' s', Ext s s' → RepV W s'.heap r v' → r.firm = true → Q v' s') : wpAny G.M A (inplaceOp op v u) Q E s := by
  unfold augV at e
  split at e
  · obtain ⟨t, rfl⟩ := ra
    obtain ⟨t', rfl⟩ := rb
    obtain ⟨i, e1, rfl⟩ := Option.map_eq_some_iff.mp e
    exact aug_sound e1 (h _ _ .tok ⟨_, rfl⟩ rfl)
  · cases e

noncomputable def augF (i : Nat) (op : Operator) (f : List Slot → Option AV) : List Slot → Option (Fl × List Slot) := fun sl => match sl[i]? with
  | some (.val a) => (f sl).bind fun b => (augV op a b).bind fun r => some (.next, sl.set i (.val r))
  | _ => none
set_option tactic.hygienic true in
theorem StS.aug {i : Nat} {x : Str} {p q : Pos} {op : Operator} {e : Expr} {f : List Slot → Option AV} (hx : names[i]? = some x) (he : ∀ W, EvS G W k names sc e f) :
    StS G k names sc (.AugAssign (.Name x p) op e q) (augF i op f) := by
  intro A W env s sl m os va ro ef eo st fl sl' hf Q hQ
  unfold augF at hf
  split at hf
  · next a hsl =>
    obtain ⟨b, h1, hf⟩ := Option.bind_eq_some_iff.mp hf
    obtain ⟨r, h2, hf⟩ := Option.bind_eq_some_iff.mp hf
    cases hf
    obtain ⟨ld, _, v, hv, rv, _⟩ := st.slots i x _ hx hsl
    rw [hv] at ld
    refine wpAny_AugAssign_Name ?_
    have go : wpAny G.M A (eval e env) (fun v_1 s₂ => wpAny G.M A (inplaceOp op v v_1) (fun r s₃ => wpAny G.M A (storeName env x r) (fun zq => Q .next) (fun zq zq => False) s₃) (fun zq zq => False) s₂) (fun zq zq => False) s := by
      refine he W A env s sl ro ef st.rs st.base b h1 _ fun u s₁ x₁ r₁ => ?_
      refine augV_sound (rv.grow x₁.kept) r₁ h2 fun v' s₂ x₂ r₂ hfi => ?_
      exact store_val st (x₁.trans x₂) eo ef.kind hx hsl r₂ hfi fun s' m' os' va' mv zq st' => hQ W s' m' os' va' .next mv st' rfl
    rcases ld with ⟨a, e⟩ | ⟨a, c, b, e⟩
    · exact wpAny_loadName_local ef.kind a st.ns e go
    · exact wpAny_loadName_cell ef.kind a b e go
  · cases hf

noncomputable def ifF (c : List Slot → Option AV) (f g : List Slot → Option (Fl × List Slot)) : List Slot → Option (Fl × List Slot) := fun sl => (c sl).bind fun a => (truth a).bind fun b => if b = true then f sl else g sl
theorem StS.ite {test : Expr} {body orelse : List Stmt} {q : Pos} {c : List Slot → Option AV} {f g : List Slot → Option (Fl × List Slot)} (hc : ∀ W, TsS G W k names sc test c) (hb : SsS G k names sc body f) (ho : SsS G k names sc orelse g) :
    StS G k names sc (.If test body orelse q) (ifF c f g) := by
  intro A W env s sl m os va ro ef eo st fl sl' hf Q hQ
  obtain ⟨a, h1, hf⟩ := Option.bind_eq_some_iff.mp hf
  obtain ⟨b, h2, hf⟩ := Option.bind_eq_some_iff.mp hf
  refine wpAny_If (hc W A env s sl ro ef st.rs st.base a b h1 h2 _ fun s₁ x₁ => ?_)
  have st₁ := st.ext x₁
  cases b with
  | true =>
    rw [if_pos rfl] at hf ⊢
    exact hb A W env s₁ sl m os va ro ef eo st₁ fl sl' hf Q fun W' s' m' os' va' flow mv st' fr => hQ W' s' m' os' va' flow ((Mov.ext x₁).trans mv) st' fr
  | false =>
    rw [if_neg (by decide)] at hf ⊢
    exact ho A W env s₁ sl m os va ro ef eo st₁ fl sl' hf Q fun W' s' m' os' va' flow mv st' fr => hQ W' s' m' os' va' flow ((Mov.ext x₁).trans mv) st' fr

noncomputable def AV.flat : AV → Bool
  | .none | .bool _ | .int _ | .str _ => true
  | _ => false
noncomputable def flatV (a : AV) : Option AV := if a.flat = true then some a else none
noncomputable def flatLV : AV → Option AV
  | .lst xs => if xs.all AV.flat = true then some (.lst xs) else none
  | .tup xs => if xs.all AV.flat = true then some (.tup xs) else none
  | _ => none
theorem RepV.any {W W' : Addr → Prop} {h : Heap} {a : AV} {v : Value} (f : a.flat = true) (r : RepV W h a v) : RepV W' h a v := by
  cases a <;> first | exact r | cases f
theorem RepL.any {W W' : Addr → Prop} {h : Heap} : ∀ {xs : List AV} {vs : List Value}, xs.all AV.flat = true → RepL W h xs vs → RepL W' h xs vs
  | [], _, _, r => r
  | x :: xs, _, f, ⟨v, q, e, a, b⟩ => by
    simp only [List.all_cons, Bool.and_eq_true] at f
    exact ⟨v, q, e, a.any f.1, RepL.any f.2 b⟩
noncomputable def retF (f : List Slot → Option AV) : List Slot → Option (Fl × List Slot) := fun sl => (f sl).map fun a => (.ret a, sl)
theorem StS.ret {e : Expr} {q : Pos} {f : List Slot → Option AV} (he : ∀ W, EvS G W k names sc e f) : StS G k names sc (.Return (some e) q) (retF fun sl => (f sl).bind flatV) := by
  intro A W env s sl m os va ro ef eo st fl sl' hf Q hQ
  obtain ⟨a, h0, h2⟩ := Option.map_eq_some_iff.mp hf
  obtain ⟨a', h1, h3⟩ := Option.bind_eq_some_iff.mp h0
  cases h2
  unfold flatV at h3
  split at h3
  · next hfl =>
    cases h3
    exact wpAny_Return_some (he W A env s sl ro ef st.rs st.base a h1 _ fun v s₁ x₁ r₁ => hQ W s₁ m os va _ (.ext x₁) (st.ext x₁) ⟨v, rfl, r₁.any hfl⟩)
  · cases h3
theorem StS.retNew {e : Expr} {q : Pos} {f : List Slot → Option AV} (he : ∀ W, EvB true G W k names sc e f) : StS G k names sc (.Return (some e) q) (retF fun sl => (f sl).bind flatLV) := by
  intro A W env s sl m os va ro ef eo st fl sl' hf Q hQ
  obtain ⟨a, h0, h2⟩ := Option.map_eq_some_iff.mp hf
  obtain ⟨a', h1, h3⟩ := Option.bind_eq_some_iff.mp h0
  cases h2
  refine wpAny_Return_some (he W A env s sl ro ef st.rs st.base a' h1 _ fun v s₁ x₁ r₁ fr => hQ W s₁ m os va _ (.ext x₁) (st.ext x₁) ⟨v, rfl, ?_⟩)
  obtain ⟨d, rfl, hd⟩ := fr rfl
  have nd : ¬ (G.h₀.get? d).isSome = true := by rw [st.base.gone d hd]; decide
  unfold flatLV at h3
  split at h3
  · split at h3
    · next hfl =>
      cases h3
      obtain ⟨a, vs, e, _, l, r⟩ := r₁
      cases e
      exact ⟨d, vs, rfl, nd, l, r.any hfl⟩
    · cases h3
  · split at h3
    · next hfl =>
      cases h3
      obtain ⟨a, vs, e, _, l, r⟩ := r₁
      cases e
      exact ⟨d, vs, rfl, nd, l, r.any hfl⟩
    · cases h3
  · cases h3

noncomputable def whileF (c : List Slot → Option AV) (f : List Slot → Option (Fl × List Slot)) : Nat → List Slot → Option (Fl × List Slot)
  | 0, _ => none
  | n + 1, sl => (c sl).bind fun a => (truth a).bind fun b => if b = true then (f sl).bind fun r => match r.1 with
      | .next | .cont => whileF c f n r.2
      | .brk => some (.next, r.2)
      | .ret v => some (.ret v, r.2)
    else some (.next, sl)

theorem noE' {α : Type} {t : Sem α} {Q : α → Shared → Prop} (h : wpAny G.M A t Q (fun zq zq => False) s) : wpAny G.M A t Q E s := wpAny_mono h (fun zq zq q => q) fun zq zq f => f.elim

noncomputable def PFl (J : Shared → Prop) (Q : Flow → Shared → Prop) : Flow → Shared → Prop
  | .next, s => J s
  | .cont, s => J s
  | .brk, s => Q .next s
  | .ret v, s => Q (.ret v) s
noncomputable def PWh (M : Model) (A : Around) (body : List Stmt) (env : Env) (J : Shared → Prop) (Q : Flow → Shared → Prop) (b : Bool) (s : Shared) : Prop := if b = true then wpAny M A (execs body env) (PFl J Q) (fun zq zq => False) s else Q .next s
theorem while_loop {prog : Program} {w : World} {R : Result → Shared → Prop} {test : Expr} {body : List Stmt} {env : Env} {Q : Flow → Shared → Prop} (I : Nat → Shared → Prop)
    (turn : ∀ n s (J : Shared → Prop), (∀ m s', m < n → I m s' → J s') → I n s → wpAny (model prog w) A (isTrue test env (eval test env)) (PWh (model prog w) A body env J Q) (fun zq zq => False) s)
    (hR : ∀ f s', Q f s' → R (.ok f) s') (n : Nat) (h : I n s) : codeAny (model prog w) A (.whileLoop test body [] env) R s := by
  refine codeAny_whileLoop I (fun n s' h => wpAny_mono (turn n s' (fun s₅ => ∃ m, m < n ∧ I m s₅) (fun m s' a b => ⟨m, a, b⟩) h) (fun b s₁ h₁ => ?_) fun zq zq f => f.elim) n h
  cases b with
  | false => exact wpAny_execs_nil (hR _ _ h₁)
  | true =>
    refine wpAny_mono (show wpAny _ _ _ _ _ _ from h₁) (fun f s₂ h₂ => ?_) fun zq zq f => f.elim
    cases f with
    | next => exact h₂
    | cont => exact h₂
    | brk => exact hR _ _ h₂
    | ret v => exact hR _ _ h₂
inductive WInv (G : Gl) (W : Addr → Prop) (env : Env) (names : List Str) (s : Shared) (F : Nat → List Slot → Option (Fl × List Slot)) (r : Fl × List Slot) : Nat → Shared → Prop
  | mk (n : Nat) (s₁ : Shared) (W₁ : Addr → Prop) (sl₁ : List Slot) (m₁ : Str → Option Value) (os₁ : Nat → List Addr) (va₁ : Nat → Option Value) (mv : Mov W W₁ s s₁) (st : StX G W₁ env names sl₁ s₁ m₁ os₁ va₁) (hf : F n sl₁ = some r) : WInv G W env names s F r n s₁
theorem StS.while {test : Expr} {body : List Stmt} {q : Pos} {c : List Slot → Option AV} {f : List Slot → Option (Fl × List Slot)} (n : Nat) (hc : ∀ W, TsS G W k names sc test c) (hb : SsS G k names sc body f) :
    StS G k names sc (.While test body [] q) (whileF c f n) := by
  intro A W env s sl m os va ro ef eo st fl sl' hf Q hQ
  refine wpAny_While (while_loop (Q := Q) (WInv G W env names s (whileF c f) (fl, sl')) ?_ (fun zq zq h => h) n (.mk n s W sl m os va (.refl W s) st hf))
  rintro n s₁ J hJ ⟨W₁, sl₁, m₁, os₁, va₁, mv₁, st₁, hf₁⟩
  cases n with
  | zero => cases hf₁
  | succ n =>
    obtain ⟨a, h1, hf₁⟩ := Option.bind_eq_some_iff.mp hf₁
    obtain ⟨b, h2, hf₁⟩ := Option.bind_eq_some_iff.mp hf₁
    refine hc W₁ A env s₁ sl₁ ro ef st₁.rs st₁.base a b h1 h2 _ fun s₂ x₂ => ?_
    have mv₂ := mv₁.trans (Mov.ext x₂)
    have st₂ := st₁.ext x₂
    cases b with
    | false =>
      cases hf₁
      exact hQ W₁ s₂ m₁ os₁ va₁ .next mv₂ st₂ rfl
    | true =>
      rw [if_pos rfl] at hf₁
      obtain ⟨⟨fl1, sl1⟩, h3, hf₁⟩ := Option.bind_eq_some_iff.mp hf₁
      refine hb A W₁ env s₂ sl₁ m₁ os₁ va₁ ro ef eo st₂ fl1 sl1 h3 _ fun W₃ s₃ m₃ os₃ va₃ flow mv₃ st₃ fr => ?_
      have mv := mv₂.trans mv₃
      cases fl1 with
      | next => cases (show flow = .next from fr); exact hJ n _ (Nat.lt_succ_self n) (.mk n s₃ W₃ sl1 m₃ os₃ va₃ mv st₃ hf₁)
      | cont => cases (show flow = .cont from fr); exact hJ n _ (Nat.lt_succ_self n) (.mk n s₃ W₃ sl1 m₃ os₃ va₃ mv st₃ hf₁)
      | brk => cases (show flow = .brk from fr); cases hf₁; exact hQ W₃ s₃ m₃ os₃ va₃ .next mv st₃ rfl
      | ret v => obtain ⟨u, e, r⟩ := fr; cases e; cases hf₁; exact hQ W₃ s₃ m₃ os₃ va₃ _ mv st₃ ⟨u, rfl, r⟩

noncomputable def forF (i : Nat) (f : List Slot → Option (Fl × List Slot)) : List AV → List Slot → Option (Fl × List Slot)
  | [], sl => some (.next, sl)
  | x :: r, sl => if x.firm = true then (putS sl i (.val x)).bind fun sl1 => (f sl1).bind fun q => match q.1 with
      | .next | .cont => forF i f r q.2
      | .brk => some (.next, q.2)
      | .ret v => some (.ret v, q.2)
    else none

noncomputable def PBd (M : Model) (A : Around) (body : List Stmt) (env : Env) (J : Shared → Prop) (Q : Flow → Shared → Prop) (_ : Unit) (s : Shared) : Prop := wpAny M A (execs body env) (PFl J Q) (fun zq zq => False) s
noncomputable def PFn (M : Model) (A : Around) (target : Expr) (body : List Stmt) (env : Env) (J : Shared → Prop) (Q : Flow → Shared → Prop) (r : Option Value) (s : Shared) : Prop :=
  match r with
  | Option.none => Q .next s
  | some v => wpAny M A (assign target env v) (PBd M A body env J Q) (fun zq zq => False) s
theorem for_loop {prog : Program} {w : World} {R : Result → Shared → Prop} {x : Str} {p : Pos} {it : Value} {body : List Stmt} {env : Env} {Q : Flow → Shared → Prop} (I : Nat → Shared → Prop)
    (turn : ∀ n s (J : Shared → Prop), (∀ m s', m < n → I m s' → J s') → I n s → wpAny (model prog w) A (pyNext it) (PFn (model prog w) A (.Name x p) body env J Q) (fun zq zq => False) s)
    (hR : ∀ f s', Q f s' → R (.ok f) s') (n : Nat) (h : I n s) : codeAny (model prog w) A (.forLoop (.Name x p) it body [] env) R s := by
  refine codeAny_forLoop_any I (fun n s' h => wpAny_mono (turn n s' (fun s₅ => ∃ m, m < n ∧ I m s₅) (fun m s' a b => ⟨m, a, b⟩) h) (fun r s₁ h₁ => ?_) fun zq zq f => f.elim) n h
  cases r with
  | none => exact wpAny_execs_nil (hR _ _ h₁)
  | some v =>
    refine wpAny_pure (M := model prog w) (wpAny_mono (show wpAny _ _ _ _ _ _ from h₁) (fun zq s₂ h₂ => wpAny_mono (show wpAny _ _ _ _ _ _ from h₂) (fun f s₃ h₃ => ?_) fun zq zq f => f.elim) fun zq zq f => f.elim)
    cases f with
    | next => exact h₃
    | cont => exact h₃
    | brk => exact hR _ _ h₃
    | ret v => exact hR _ _ h₃
structure ForK (W W₁ : Addr → Prop) (wr : List Addr) (s₁ s' : Shared) : Prop where
  same : ∃ h tk, s' = { s₁ with heap := h, toks := tk }
  kept : ∀ b o, ¬ W b → b ∉ wr → s₁.heap.get? b = some o → tabby o = false → s'.heap.get? b = some o
  gone : ∀ b, s'.heap.get? b = Option.none → s₁.heap.get? b = Option.none
  more : ∀ b, W b → W₁ b
  new : ∀ b, W₁ b → (s₁.heap.get? b).isSome = true → W b
theorem ForK.mov {W W₁ : Addr → Prop} {wr : List Addr} {s s₁ s' : Shared} (x : Ext s s₁) (hwr : ∀ b ∈ wr, s.heap.get? b = Option.none) (K : ForK W W₁ wr s₁ s') : Mov W W₁ s s' := by
  refine ⟨?_, fun b o w e hs => K.kept b o w (fun q => by rw [hwr b q] at e; cases e) (x.kept b o e hs) hs, fun b e => x.gone (K.gone b e), K.more, fun b w e => K.new b w (x.some e)⟩
  obtain ⟨hh, tt, rfl, _⟩ := x; obtain ⟨h, tk, rfl⟩ := K.same; exact ⟨h, tk, rfl⟩
theorem ForK.wr {W W₁ : Addr → Prop} {wr : List Addr} {s₁ s' : Shared} {h : Heap} {tk : Nat} (K : ForK W W₁ wr s₁ s') (kk : ∀ b o, b ∉ wr → s'.heap.get? b = some o → h.get? b = some o) (e : ∀ b, h.get? b = Option.none → s₁.heap.get? b = Option.none) : ForK W W₁ wr s₁ { s' with heap := h, toks := tk } :=
  ⟨by obtain ⟨h', tk', rfl⟩ := K.same; exact ⟨h, tk, rfl⟩, fun b o w nb e hs => kk b o nb (K.kept b o w nb e hs), e, K.more, K.new⟩
theorem ForK.trans {W W₁ W₂ : Addr → Prop} {wr : List Addr} {s₁ s' s'' : Shared} (K : ForK W W₁ wr s₁ s') (mv : Mov W₁ W₂ s' s'') : ForK W W₂ wr s₁ s'' where
  same := by obtain ⟨h, tk, rfl⟩ := K.same; obtain ⟨h', tk', rfl⟩ := mv.same; exact ⟨h', tk', rfl⟩
  kept := fun b o w nb e hs => mv.kept b o (fun q => w (K.new b q (by rw [e]; rfl))) (K.kept b o w nb e hs) hs
  gone := fun b e => K.gone b (mv.gone b e)
  more := fun b w => mv.more b (K.more b w)
  new := fun b w e => K.new b (mv.new b w (by
    cases q : s'.heap.get? b with
    | none => rw [K.gone b q] at e; cases e
    | some o => rfl)) e
inductive FInv (G : Gl) (W : Addr → Prop) (env : Env) (names : List Str) (wr : List Addr) (s₁ : Shared) (St : Nat → Heap → Prop) (F : List AV → List Slot → Option (Fl × List Slot)) (r : Fl × List Slot) (xs : List AV) : Nat → Shared → Prop
  | mk (j : Nat) (s' : Shared) (W₁ : Addr → Prop) (sl₁ : List Slot) (m₁ : Str → Option Value) (os₁ : Nat → List Addr) (va₁ : Nat → Option Value) (hj : j ≤ xs.length) (st : StX G W₁ env names sl₁ s' m₁ os₁ va₁) (sti : St j s'.heap) (hf : F (xs.drop j) sl₁ = some r)
      (K : ForK W W₁ wr s₁ s') : FInv G W env names wr s₁ St F r xs (xs.length + 1 - j) s'
theorem forF_turn {i : Nat} {f : List Slot → Option (Fl × List Slot)} {xs : List AV} {j : Nat} {sl : List Slot} {r : Fl × List Slot} (hlt : j < xs.length) (h : forF i f (xs.drop j) sl = some r) :
    (xs[j]).firm = true ∧ (∃ old, sl[i]? = some old) ∧ ∃ fl1 sl2, f (sl.set i (.val xs[j])) = some (fl1, sl2) ∧ (match fl1 with
      | .next | .cont => forF i f (xs.drop (j + 1)) sl2
      | .brk => some (.next, sl2)
      | .ret v => some (.ret v, sl2)) = some r := by
  rw [List.drop_eq_getElem_cons hlt] at h
  unfold forF at h
  split at h
  · next hxf =>
    obtain ⟨sl1, h2, h⟩ := Option.bind_eq_some_iff.mp h
    obtain ⟨rfl, old, hold⟩ := putS_some h2
    obtain ⟨⟨fl1, sl2⟩, h3, h⟩ := Option.bind_eq_some_iff.mp h
    exact ⟨hxf, ⟨old, hold⟩, fl1, sl2, h3, h⟩
  · cases h
theorem StS.for {i : Nat} {x : Str} {p q : Pos} {iter : Expr} {body : List Stmt} {fi : List Slot → Option (List AV)} {f : List Slot → Option (Fl × List Slot)} (hx : names[i]? = some x) (ci : ∀ W, EvI G W k names sc iter fi) (hb : SsS G k names sc body f)
    (hs : ∀ env x, foldedSetIterable iter env x = pure x) : StS G k names sc (.For (.Name x p) iter body [] q) (fun sl => (fi sl).bind fun xs => forF i f xs sl) := by
  intro A W env s sl m os va ro ef eo st fl sl' hf Q hQ
  obtain ⟨xs, h1, hf⟩ := Option.bind_eq_some_iff.mp hf
  refine wpAny_For (ci W A env s sl ro ef st.rs st.base xs h1 _ fun I s₁ fp wr P St x₁ Wk st0 hfp hwr hfw hws hP => ?_) (hs env)
  have st₁ := st.ext x₁
  have nwr : ∀ b ∈ wr, ¬ W b ∧ G.h₀.get? b = none := fun b hb => ⟨st.base.new (hwr b hb), st.base.gone b (hwr b hb)⟩
  refine for_loop (Q := Q) (FInv G W env names wr s₁ St (forF i f) (fl, sl') xs) ?_ (fun zq zq h => h) (xs.length + 1)
    (.mk 0 s₁ W sl m os va (Nat.zero_le _) st₁ st0 hf ⟨⟨s₁.heap, s₁.toks, rfl⟩, fun zq zq zq zq e zq => e, fun zq e => e, fun zq w => w, fun zq w zq => w⟩)
  rintro _ s' J hJ ⟨j, _, W₁, sl₁, m₁, os₁, va₁, hj, stj, stI, hfj, K⟩
  have wr1 : ∀ b ∈ wr, ¬ W₁ b := fun b hb w => by
    obtain ⟨o, ho, _⟩ := (hws 0 _ st0).1 b hb
    exact (nwr b hb).1 (K.new b w (by rw [ho]; rfl))
  have skip : ∀ (h₁ : Heap) (tk₁ : Nat), (∀ b o, b ∉ wr → s'.heap.get? b = some o → h₁.get? b = some o) → StX G W₁ env names sl₁ { s' with heap := h₁, toks := tk₁ } m₁ os₁ va₁ := fun h₁ tk₁ kk₁ =>
    stj.skip (X := fun b => b ∈ wr) kk₁ (stj.base.tb.wr kk₁ (hws j _ stI).1) fun b hb => ⟨wr1 b hb, (nwr b hb).2, fun o xs n e d => by
      obtain ⟨o', ho', nd⟩ := (hws j _ stI).1 b hb
      rw [ho'] at e; cases e; exact (iterO_spec nd).2.2.1 _ _ d⟩
  by_cases hlt : j < xs.length
  · refine Wk.item j _ _ _ hlt stI fun v h₁ tk₁ hPv stI₁ kk₁ => ?_
    have stj₁ := skip h₁ tk₁ kk₁
    have gn₁ : ∀ b, h₁.get? b = none → s'.heap.get? b = none := none_wr kk₁ fun b hb => by obtain ⟨o, ho, _⟩ := (hws _ _ stI₁).1 b hb; rw [ho]; rfl
    have K₁ : ForK W W₁ wr s₁ { s' with heap := h₁, toks := tk₁ } := K.wr kk₁ fun b e => K.gone b (gn₁ b e)
    obtain ⟨t₁, ht₁⟩ : ∃ t : Shared, { s' with heap := h₁, toks := tk₁ } = t := ⟨_, rfl⟩
    have hh₁ : t₁.heap = h₁ := by rw [← ht₁]
    rw [ht₁] at stj₁ K₁ ⊢
    rw [← hh₁] at stI₁
    clear ht₁ kk₁ gn₁
    obtain ⟨hxf, ⟨old, hold⟩, fl1, sl2, h3, hfj⟩ := forF_turn hlt hfj
    have rx : RepV W₁ t₁.heap xs[j] v := RepV.firm (fun b o hb e hs => K₁.kept b o (fun q => hb (.inl q)) (fun q => hb (.inr q)) e hs) (fun b e w => .inl (K.new b w e)) _ _ hxf (hP j v xs[j] hPv (List.getElem?_eq_getElem hlt))
    refine wpAny_assign_Name (store_val stj₁ (.refl _) eo ef.kind hx hold rx hxf fun s₂ m₂ os₂ va₂ mv₂ zq st₂ => ?_)
    refine hb A W₁ env s₂ _ m₂ os₂ va₂ ro ef eo st₂ fl1 sl2 h3 _ fun W₃ s₃ m₃ os₃ va₃ flow mv₃ st₃ fr => ?_
    have mv := mv₂.trans mv₃
    have K₃ := K₁.trans mv
    have mvF := K₃.mov x₁ hwr
    have stI₃ : St (j + 1) s₃.heap := Wk.frame _ _ _ stI₁ fun b hb o e => mv.kept b o (fun q => by
      by_cases hbw : b ∈ wr
      · exact wr1 b hbw q
      · exact (hfw b hb hbw).1 (K.new b q (hfw b hb hbw).2)) e ((hws _ _ stI₁).2 b hb o e)
    cases fl1 with
    | next => cases (show flow = .next from fr); exact hJ (xs.length + 1 - (j + 1)) _ (by lia) (.mk (j + 1) s₃ W₃ sl2 m₃ os₃ va₃ hlt st₃ stI₃ hfj K₃)
    | cont => cases (show flow = .cont from fr); exact hJ (xs.length + 1 - (j + 1)) _ (by lia) (.mk (j + 1) s₃ W₃ sl2 m₃ os₃ va₃ hlt st₃ stI₃ hfj K₃)
    | brk => cases (show flow = .brk from fr); cases hfj; exact hQ W₃ _ m₃ os₃ va₃ .next mvF st₃ rfl
    | ret v => obtain ⟨u, e, r⟩ := fr; cases e; cases hfj; exact hQ W₃ _ m₃ os₃ va₃ _ mvF st₃ ⟨u, rfl, r⟩
  · obtain rfl : j = xs.length := Nat.le_antisymm hj (Nat.le_of_not_lt hlt)
    refine Wk.done _ _ _ stI fun h₁ tk₁ kk₁ => ?_
    rw [List.drop_length] at hfj
    cases hfj
    refine hQ W₁ _ m₁ os₁ va₁ .next ?_ (skip h₁ tk₁ kk₁) rfl
    refine ⟨?_, fun b o w e hs => kk₁ b o (fun q => by rw [hwr b q] at e; cases e) ((K.mov x₁ hwr).kept b o w e hs), fun b e => ?_, K.more, (K.mov x₁ hwr).new⟩
    · obtain ⟨h, t, e⟩ := (K.mov x₁ hwr).same; exact ⟨h₁, tk₁, by rw [e]⟩
    · by_cases m : b ∈ wr
      · exact hwr b m
      · refine x₁.gone (K.gone b ?_)
        cases q : s'.heap.get? b with
        | none => rfl
        | some o => rw [kk₁ b o m q] at e; cases e
end
end Mine
end

section
open PySem PySem.W PyProof.Rows
set_option Elab.async false
set_option tactic.hygienic false
set_option maxRecDepth 100000
set_option linter.unusedVariables false


namespace Mine
section
variable {G : Gl} {W : Addr → Prop} {k : Nat} {names : List Str} {sc : List (Str × NameKind)} {A : Around} {s : Shared} {E : Value → Shared → Prop} {env : Env} {sl : List Slot} {m : Str → Option Value} {os : Nat → List Addr} {va : Nat → Option Value}

theorem update_plain {h : Heap} {l : Addr} {items : Array Value} (f : Array Value → Array Value) (hl : h.PlainList l items) : (h.update l (Obj.mapSeq f)).PlainList l (f items) := by
  obtain ⟨n, ho⟩ := hl
  exact ⟨_, Heap.get?_update_self _ ho rfl⟩

theorem setItem_plain {l : Addr} {items : Array Value} {j : Int} {t : Tok} {v : Value} {Q : Unit → Shared → Prop} (hl : s.heap.PlainList l items)
    (h0 : 0 ≤ j) (hfit : j < 2 ^ 63) (hn : j < items.size)
    (hQ : ∀ h', h'.PlainList l (items.setIfInBounds j.toNat v) → Heap.SameBut l s.heap h' → Q () { s with heap := h' }) :
    wpAny G.M A (setItem (.ref l) (.int j t) v) Q E s := by
  have hp := hl
  obtain ⟨ne, ho⟩ := hl
  have hil : s.heap.IsList l items := ⟨_, ho, rfl, ne, rfl⟩
  unfold setItem
  try with_reducible refine wpAny_holding ?_
  first | refine wpAny_bind (wpAny_pure ?_) | skip
  refine wpAny_bind (wpAny_sequenceKey hil.typeIs (by decide) ?_)
  refine wpAny_bind (wpAny_callSpecial?_slot (name := Str.ofString "__setitem__") hil.typeIs slot_list_setitem
    (wpAny_call_entry slot_list_setitem hil.typeIs entry_list_setitem ?_ (args_list_setitem _ _ _)))
  show wpAny _ _ (Builtin.List.listSubscript? (.int j t) >>= _) _ _ s
  refine wpAny_bind (wpAny_listSubscript_int (fitsIndex_of h0 hfit) ?_)
  clear hfit
  obtain ⟨j, rfl⟩ := Int.eq_ofNat_of_zero_le h0
  have hj : j < items.size := by lia
  have hx' : items[j]? = some items[j] := Array.getElem?_eq_getElem hj
  show wpAny _ _ ((seqItemAt l j >>= fun r => pure (r.map (j, ·))) >>= _) _ _ s
  refine wpAny_bind (wpAny_bind (wpAny_seqItemAt ho rfl (wpAny_pure ?_)))
  rw [hx']
  show wpAny _ _ (setSeqItemAt l j v >>= _) _ _ s
  have hfin : (s.heap.update l (Obj.mapSeq (·.setIfInBounds j v))).PlainList l (items.setIfInBounds j v) := update_plain _ hp
  refine wpAny_bind (wpAny_setSeqItemAt ho rfl ?_)
  first
    | exact wpAny_bind (wpAny_pure (wpAny_pure ⟨.none, rfl, wpAny_pure (hQ _ hfin (Heap.SameBut.update ..))⟩))
    | exact wpAny_pure ⟨.none, rfl, wpAny_pure (hQ _ hfin (Heap.SameBut.update ..))⟩

theorem RepL.set {h : Heap} : ∀ {xs : List AV} {vs : List Value} (j : Nat) {x : AV} {v : Value}, RepL W h xs vs → RepV W h x v → RepL W h (xs.set j x) (vs.set j v)
  | [], _, j, _, _, r, _ => by rw [show _ = [] from r]; rfl
  | y :: xs, _, 0, x, v, ⟨u, q, e, a, b⟩, rx => by rw [e]; exact ⟨v, q, rfl, rx, b⟩
  | y :: xs, _, j + 1, x, v, ⟨u, q, e, a, b⟩, rx => by rw [e]; exact ⟨u, q.set j v, rfl, a, RepL.set j b rx⟩
theorem firmL_set {xs : List AV} {j : Nat} {x : AV} (h : firmL xs = true) (hx : x.firm = true) : firmL (xs.set j x) = true := by
  rw [firmL_iff] at *
  intro y hy
  rcases List.mem_or_eq_of_mem_set hy with q | q
  · exact h y q
  · rw [q]; exact hx

noncomputable def mls? : Slot → Option (List AV)
  | .mls xs => some xs
  | _ => none

theorem StX.list (st : StX G W env names sl s m os va) {i : Nat} {x : Str} {xs : List AV} (hx : names[i]? = some x) (hsl : sl[i]? = some (.mls xs)) :
    ∃ d vs, va i = some (.ref d) ∧ s.heap.PlainList d (List.toArray vs) ∧ RepL W s.heap xs vs ∧ firmL xs = true := by
  obtain ⟨_, d, vs, _, _, a, b, c, e⟩ := st.slots i x _ hx hsl
  exact ⟨d, vs, a, b, c, e⟩

noncomputable def setItemF (i : Nat) (fi fe : List Slot → Option AV) : List Slot → Option (Fl × List Slot) := fun sl => (fe sl).bind fun v => (fi sl).bind fun j => match sl[i]?.bind mls?, j with
  | some xs, .int j => if v.firm = true ∧ 0 ≤ j ∧ j < xs.length ∧ xs.length < 1000000 then some (.next, sl.set i (.mls (xs.set j.toNat v))) else none
  | _, _ => none
theorem mls_some {i : Nat} {xs : List AV} (h : sl[i]?.bind mls? = some xs) : sl[i]? = some (.mls xs) := by
  obtain ⟨sv, h1, h2⟩ := Option.bind_eq_some_iff.mp h
  cases sv <;> cases h2
  exact h1
set_option tactic.hygienic true in
theorem StS.setItem {i : Nat} {x : Str} {p sp q : Pos} {ie e : Expr} {fi fe : List Slot → Option AV} (hx : names[i]? = some x) (hd : (x == ("__debug__" : Str)) = false) (hi : ∀ W, EvS G W k names sc ie fi) (he : ∀ W, EvS G W k names sc e fe)
    (hs : ∀ env, swapsWith e (some (.Subscript (.Name x p) ie sp)) q.line env = pure false) :
    StS G k names sc (.Assign [.Subscript (.Name x p) ie sp] e q) (setItemF i fi fe) := by
  intro A W env s sl m os va ro ef eo st fl sl' hf Q hQ
  obtain ⟨v, h1, hf⟩ := Option.bind_eq_some_iff.mp hf
  obtain ⟨jv, h2, hf⟩ := Option.bind_eq_some_iff.mp hf
  split at hf
  · next xs j hxs =>
    split at hf
    · next hc =>
      cases hf
      have hsl := mls_some hxs
      refine wpAny_Assign_Subscript (he W A env s sl ro ef st.rs st.base v h1 _ fun u s₁ x₁ r₁ => ?_) (hs env)
      have st₁ := st.ext x₁
      obtain ⟨d, vs, hva, _⟩ := st₁.list hx hsl
      refine st₁.load ef hx hsl hva hd (hi W A env s₁ sl ro ef st₁.rs st₁.base _ h2 _ fun w s₂ x₂ r₂ => ?_)
      have st₂ := st₁.ext x₂
      obtain ⟨t, rfl⟩ := r₂
      obtain ⟨d', vs, hva', hpl, hrl, hfl⟩ := st₂.list hx hsl
      rw [hva] at hva'; cases hva'
      have hlen := hrl.length
      refine setItem_plain hpl hc.2.1 (by lia) (by rw [List.size_toArray, hlen]; exact hc.2.2.1) fun h' hpl' sb => ?_
      have hsv := st₂.setList (tk := s₂.toks) (xs' := xs.set j.toNat v) (vs' := vs.set j.toNat u) hx hsl hva sb (by simpa using hpl') (hrl.set _ (r₁.grow x₂.kept)) (firmL_set hfl hc.1)
      exact hQ W _ m os va .next (((Mov.ext x₁).trans (Mov.ext x₂)).trans hsv.1) hsv.2 rfl
    · cases hf
  · cases hf

theorem augItem_rule {M : Model} {o i : Expr} {pos' pos : Pos} {op : Operator} {value : Expr} {Q : Flow → Shared → Prop} (hn : notSlice i = true)
    (h : wpAny M A (eval o env) (fun ov s₁ => wpAny M A (eval i env) (fun iv s₂ => wpAny M A (getItem ov iv) (fun old s₃ =>
      wpAny M A (eval value env) (fun v s₄ => wpAny M A (inplaceOp op old v) (fun new s₅ =>
        wpAny M A (PySem.setItem ov iv new) (fun zq => Q .next) E s₅) E s₄) E s₃) E s₂) E s₁) E s) :
    wpAny M A (exec (.AugAssign (.Subscript o i pos') op value pos) env) Q E s := fun Γ p hΓ => by
  have e : exec (.AugAssign (.Subscript o i pos') op value pos) env = (do
    standAt pos
    let ov ← eval o env
    let iv ← holding [ov] (eval i env)
    let new ← holding [ov, iv] do
      standAt pos'
      let old ← getItem ov iv
      let v ← holding [old] (eval value env)
      standAt pos
      operate [old, v] (inplaceOp op old v)
    standAt pos'
    holding [new, ov, iv] (PySem.setItem ov iv new)
    release [new, ov, iv] []
    pure .next) := by cases i <;> first | rfl | cases hn
  simp only [e, Sem.wp_bind', Sem.wp_holding, Sem.wp_cmd_standAt, Sem.wp_operate, Sem.wp_release, Sem.wp_pure']
  exact Sem.wp_mono M Γ _ (fun ov p₁ s₁ h₁ => Sem.wp_mono M Γ _ (fun iv p₂ s₂ h₂ => Sem.wp_mono M Γ _ (fun old p₃ s₃ h₃ =>
    Sem.wp_mono M Γ _ (fun v zq s₄ h₄ => Sem.wp_mono M Γ _ (fun new p₅ s₅ h₅ => h₅ Γ _ hΓ) (fun zq zq zq h' => h') _ _ (h₄ Γ _ hΓ))
      (fun zq zq zq h' => h') _ _ (h₃ Γ p₃ hΓ)) (fun zq zq zq h' => h') _ _ (h₂ Γ _ hΓ)) (fun zq zq zq h' => h') _ _ (h₁ Γ p₁ hΓ))
    (fun zq zq zq h' => h') _ _ (h Γ _ hΓ)

noncomputable def augItemF (i : Nat) (op : Operator) (fi fe : List Slot → Option AV) : List Slot → Option (Fl × List Slot) := fun sl => (fi sl).bind fun j => (fe sl).bind fun v => match sl[i]?.bind mls?, j with
  | some xs, .int j => if 0 ≤ j ∧ j < xs.length ∧ xs.length < 1000000 then (xs[j.toNat]?).bind fun old => (augV op old v).bind fun r => if r.firm = true then some (.next, sl.set i (.mls (xs.set j.toNat r))) else none else none
  | _, _ => none
set_option tactic.hygienic true in
theorem StS.augItem {i : Nat} {x : Str} {p sp q : Pos} {op : Operator} {ie e : Expr} {fi fe : List Slot → Option AV} (hx : names[i]? = some x) (hd : (x == ("__debug__" : Str)) = false) (hi : ∀ W, EvS G W k names sc ie fi) (he : ∀ W, EvS G W k names sc e fe) (hn : notSlice ie = true) :
    StS G k names sc (.AugAssign (.Subscript (.Name x p) ie sp) op e q) (augItemF i op fi fe) := by
  intro A W env s sl m os va ro ef eo st fl sl' hf Q hQ
  obtain ⟨jv, h2, hf2⟩ := Option.bind_eq_some_iff.mp hf
  clear hf
  obtain ⟨v, h1, hf⟩ := Option.bind_eq_some_iff.mp hf2
  clear hf2
  split at hf
  · next xs j hxs =>
    split at hf
    · next hc =>
      obtain ⟨old, h3, hf⟩ := Option.bind_eq_some_iff.mp hf
      obtain ⟨r, h4, hf⟩ := Option.bind_eq_some_iff.mp hf
      split at hf
      · next hrf =>
        cases hf
        have hsl := mls_some hxs
        obtain ⟨d, vs, hva, _⟩ := st.list hx hsl
        refine augItem_rule hn (st.load ef hx hsl hva hd (hi W A env s sl ro ef st.rs st.base _ h2 _ fun w s₁ x₁ r₁ => ?_))
        have st₁ := st.ext x₁
        obtain ⟨t, rfl⟩ := r₁
        obtain ⟨d', vs1, hva', hpl, hrl, hfl⟩ := st₁.list hx hsl
        rw [hva] at hva'; cases hva'
        obtain ⟨o, ho, ro1⟩ := hrl.get h3
        have hil : s₁.heap.IsList d (List.toArray vs1) := let ⟨n, e⟩ := hpl; ⟨_, e, rfl, n, rfl⟩
        refine wpAny_getItem_list hil hc.1 (by lia) (by simpa using ho) ?_
        refine he W A env s₁ sl ro ef st₁.rs st₁.base v h1 _ fun u s₂ x₂ r₂ => ?_
        refine augV_sound (ro1.grow x₂.kept) r₂ h4 fun v' s₃ x₃ r₃ zq => ?_
        have st₃ := (st₁.ext x₂).ext x₃
        obtain ⟨d', vs', hva', hpl', hrl', hfl'⟩ := st₃.list hx hsl
        rw [hva] at hva'; cases hva'
        have hlen := hrl'.length
        refine setItem_plain hpl' hc.1 (by lia) (by rw [List.size_toArray, hlen]; exact hc.2.1) fun h' hpl2 sb => ?_
        have hsv := st₃.setList (tk := s₃.toks) (xs' := xs.set j.toNat r) (vs' := vs'.set j.toNat v') hx hsl hva sb (by simpa using hpl2) (hrl'.set _ r₃) (firmL_set hfl' hrf)
        exact hQ W _ m os va .next ((((Mov.ext x₁).trans (Mov.ext x₂)).trans (Mov.ext x₃)).trans hsv.1) hsv.2 rfl
      · cases hf
    · cases hf
  · cases hf

noncomputable def appendF (i : Nat) (fe : List Slot → Option AV) : List Slot → Option (Fl × List Slot) := fun sl => (fe sl).bind fun v => match sl[i]?.bind mls? with
  | some xs => if v.firm = true ∧ xs.length < 1000000 then some (.next, sl.set i (.mls (xs ++ [v]))) else none
  | none => none
set_option tactic.hygienic true in
theorem StS.append {i : Nat} {x : Str} {p apos cp q : Pos} {e : Expr} {fe : List Slot → Option AV} (hx : names[i]? = some x) (hd : (x == ("__debug__" : Str)) = false) (he : ∀ W, EvS G W k names sc e fe) (hn : notStar e = true) (hl : (apos.endLine == cp.line) = true)
    (hint : ∀ env, EnvF env sc → interactive env = false) :
    StS G k names sc (.Expr (.Call (.Attribute (.Name x p) ("append" : Str) apos) [e] [] cp) q) (appendF i fe) := by
  intro A W env s sl m os va ro ef eo st fl sl' hf Q hQ
  obtain ⟨v, h1, hf⟩ := Option.bind_eq_some_iff.mp hf
  split at hf
  · next xs hxs =>
    split at hf
    · next hc =>
      cases hf
      have hsl := mls_some hxs
      obtain ⟨d, vs, hva, hpl0, _⟩ := st.list hx hsl
      refine wpAny_Expr ?_ (hint env ef) rfl
      refine Call_method1 (by rfl) (starEach_cons hn) hl (st.load ef hx hsl hva hd ?_)
      obtain ⟨n0, ho0⟩ := hpl0
      refine ⟨"list", "list.append", F.plainAttrs_list, F.slot_list_append, type_list_append, ⟨_, ho0, rfl⟩, (fun c e => by cases e; exact ⟨_, ho0, rfl⟩), ?_⟩
      refine P.append_list (he W A env s sl ro ef st.rs st.base v h1 _ fun u s₁ x₁ r₁ => ?_)
      have st₁ := st.ext x₁
      obtain ⟨d', vs1, hva', hpl, hrl, hfl⟩ := st₁.list hx hsl
      rw [hva] at hva'; cases hva'
      obtain ⟨n, ho⟩ := hpl
      have hlen := hrl.length
      refine ⟨_, n, by rw [List.size_toArray, hlen, sizeLine_eq]; lia, ho, ?_⟩
      have hpl2 := update_plain (·.push u) ⟨n, ho⟩
      have hsv := st₁.setList (tk := s₁.toks) (xs' := xs ++ [v]) (vs' := vs1 ++ [u]) hx hsl hva (Heap.SameBut.update ..) (by simpa using hpl2) (hrl.append (RepL.one r₁)) (firmL_append hfl (by simp [firmL, hc.1]))
      exact hQ W _ m os va .next ((Mov.ext x₁).trans hsv.1) hsv.2 rfl
    · cases hf
  · cases hf
noncomputable def retOwnF (i : Nat) : List Slot → Option (Fl × List Slot) := fun sl => (sl[i]?.bind mls?).bind fun xs => if xs.all AV.flat = true then some (.ret (.lst xs), sl) else none
theorem StS.retOwn {i : Nat} {x : Str} {p q : Pos} (hx : names[i]? = some x) (hd : (x == ("__debug__" : Str)) = false) : StS G k names sc (.Return (some (.Name x p)) q) (retOwnF i) := by
  intro A W env s sl m os va ro ef eo st fl sl' hf Q hQ
  obtain ⟨xs, hxs, hf⟩ := Option.bind_eq_some_iff.mp hf
  split at hf
  · next hfl =>
    cases hf
    have hsl := mls_some hxs
    obtain ⟨_, d, vs, _, wd, hva, hpl, hrl, _⟩ := st.slots i x _ hx hsl
    refine wpAny_Return_some (st.load ef hx hsl hva hd (hQ W s m os va _ (.refl W s) st ⟨_, rfl, d, vs, rfl, ?_, hpl, hrl.any hfl⟩))
    show ¬ (G.h₀.get? d).isSome = true
    rw [(st.base.above d wd).2]; decide
  · cases hf
noncomputable def reverseF (i : Nat) : List Slot → Option (Fl × List Slot) := fun sl => match sl[i]?.bind mls? with
  | some xs => if xs.length < 1000000 then some (.next, sl.set i (.mls xs.reverse)) else none
  | none => none
set_option tactic.hygienic true in
theorem StS.reverse {i : Nat} {x : Str} {p apos cp q : Pos} (hx : names[i]? = some x) (hd : (x == ("__debug__" : Str)) = false) (hl : (apos.endLine == cp.line) = true)
    (hint : ∀ env, EnvF env sc → interactive env = false) :
    StS G k names sc (.Expr (.Call (.Attribute (.Name x p) ("reverse" : Str) apos) [] [] cp) q) (reverseF i) := by
  intro A W env s sl m os va ro ef eo st fl sl' hf Q hQ
  unfold reverseF at hf
  split at hf
  · next xs hxs =>
    split at hf
    · next hc =>
      cases hf
      have hsl := mls_some hxs
      obtain ⟨d, vs, hva, ⟨n, ho⟩, hrl, hfl⟩ := st.list hx hsl
      have hlen := hrl.length
      refine wpAny_Expr ?_ (hint env ef) rfl
      refine Call_method0 (by rfl) hl (st.load ef hx hsl hva hd ?_)
      refine ⟨"list", "list.reverse", F.plainAttrs_list, F.slot_list_reverse, F.type_list_reverse, ⟨_, ho, rfl⟩, (fun c e => by cases e; exact ⟨_, ho, rfl⟩), ?_⟩
      refine P.reverse_list ho ?_ (by rw [List.size_toArray, hlen, sizeLine_eq]; lia)
      have hpl2 := update_plain (·.reverse) ⟨n, ho⟩
      have hsv := st.setList (tk := s.toks) (xs' := xs.reverse) (vs' := vs.reverse) hx hsl hva (Heap.SameBut.update ..) (by simpa using hpl2) hrl.reverse (by rw [firmL_iff] at *; intro y hy; exact hfl y (List.mem_reverse.mp hy))
      exact hQ W _ m os va .next hsv.1 hsv.2 rfl
    · cases hf
  · cases hf
end
end Mine
end

section
open PySem PySem.W PyProof.Rows
set_option Elab.async false
set_option tactic.hygienic false
set_option maxRecDepth 100000
set_option linter.unusedVariables false


namespace Mine

noncomputable def Gl.at (G : Gl) (h : Heap) (hk : Kept G.h₀ h) : Gl :=
  { G with h₀ := h, start := h, top := G.top.keeps hk, b3 := let ⟨d, o, es, ep, a, b, c⟩ := G.b3; ⟨d, o, es, ep, a, hk _ _ b (solid_dict c.2.2.1), c⟩ }

noncomputable def callV (f : List Slot → Option (Fl × List Slot)) (n np : Nat) (avs : List AV) : Option AV :=
  if avs.length = np ∧ firmL avs = true then (f (avs.map .val ++ List.replicate (n - np) .unset)).bind fun r => match r.1 with
    | .ret a => if a.firm = true then some a else none
    | .next => some .none
    | _ => none
  else none

theorem bindL_off {kindOf : Str → Option NameKind} {x : Str} : ∀ {ps : List Str} {vs : List Value} {m : Str → Option Value}, x ∉ ps → bindL kindOf (ps.zip vs) m x = m x
  | [], _, _, _ => by simp [bindL]
  | _ :: _, [], _, _ => by simp [bindL]
  | p :: ps, v :: vs, m, h => by
    rw [List.zip_cons_cons]
    unfold bindL
    rw [bindL_off (fun q => h (List.mem_cons_of_mem _ q))]
    split
    · show (if x = p then _ else _) = _
      rw [if_neg (fun e => h (by rw [e]; exact List.mem_cons_self))]
    · rfl
theorem bindL_at {kindOf : Str → Option NameKind} {x : Str} {v : Value} : ∀ {ps : List Str} {vs : List Value} {m : Str → Option Value} {i : Nat}, ps.Nodup → ps[i]? = some x → vs[i]? = some v → kindOf x = some .local → bindL kindOf (ps.zip vs) m x = some v
  | [], _, _, _, _, h, _, _ => by simp at h
  | _ :: _, [], _, _, _, _, h, _ => by simp at h
  | p :: ps, u :: vs, m, 0, n, h, h', hk => by
    simp at h h'
    subst h; subst h'
    rw [List.zip_cons_cons]
    unfold bindL
    rw [bindL_off (List.nodup_cons.mp n).1, if_pos hk]
    simp
  | p :: ps, u :: vs, m, i + 1, n, h, h', hk => by
    rw [List.zip_cons_cons]
    unfold bindL
    exact bindL_at (List.nodup_cons.mp n).2 (by simpa using h) (by simpa using h') hk
theorem bindC_off {kindOf : Str → Option NameKind} {x : Str} : ∀ {ps : List Str} {vs : List Value} {m : Str → Option Value}, x ∉ ps → bindC kindOf (ps.zip vs) m x = m x
  | [], _, _, _ => by simp [bindC]
  | _ :: _, [], _, _ => by simp [bindC]
  | p :: ps, v :: vs, m, h => by
    rw [List.zip_cons_cons]
    unfold bindC
    rw [bindC_off (fun q => h (List.mem_cons_of_mem _ q))]
    split
    · rfl
    · show (if x = p then _ else _) = _
      rw [if_neg (fun e => h (by rw [e]; exact List.mem_cons_self))]
theorem bindC_at {kindOf : Str → Option NameKind} {x : Str} {v : Value} : ∀ {ps : List Str} {vs : List Value} {m : Str → Option Value} {i : Nat}, ps.Nodup → ps[i]? = some x → vs[i]? = some v → kindOf x ≠ some .local → bindC kindOf (ps.zip vs) m x = some v
  | [], _, _, _, _, h, _, _ => by simp at h
  | _ :: _, [], _, _, _, _, h, _ => by simp at h
  | p :: ps, u :: vs, m, 0, n, h, h', hk => by
    simp at h h'
    subst h; subst h'
    rw [List.zip_cons_cons]
    unfold bindC
    rw [bindC_off (List.nodup_cons.mp n).1, if_neg hk]
    simp
  | p :: ps, u :: vs, m, i + 1, n, h, h', hk => by
    rw [List.zip_cons_cons]
    unfold bindC
    exact bindC_at (List.nodup_cons.mp n).2 (by simpa using h) (by simpa using h') hk

structure DefOk (d : DefRec) (ps names : List Str) : Prop where
  bind : ∀ (pm code : Value) (doc : Value) (vals : List Value), vals.length = ps.length → bindArgs (Calls.docDef d.name d.params d.body d.scope pm code doc) ⟨vals, []⟩ = pure (ps.zip vals)
  pre : names.take ps.length = ps
  nodup : names.Nodup
  kinds : ∀ x ∈ names, d.scope.names.lookup x = some .local ∨ d.scope.names.lookup x = some .cell
  free : ∀ y ∈ d.scope.names, y.2 ≠ .free
  co : d.scope.isCoroutine = false
  gen : d.scope.isGenerator = false
  fn : d.scope.kind = .function

theorem vlen1 {α : Type} : ∀ {l : List α}, l.length = 1 → ∃ a, l = [a]
  | [a], _ => ⟨a, rfl⟩
theorem vlen2 {α : Type} {l : List α} (h : l.length = 2) : ∃ a b, l = [a, b] := by
  cases l with
  | nil => cases h
  | cons a r => obtain ⟨b, rfl⟩ := vlen1 (Nat.succ.inj h); exact ⟨a, b, rfl⟩
theorem vlen3 {α : Type} {l : List α} (h : l.length = 3) : ∃ a b c, l = [a, b, c] := by
  cases l with
  | nil => cases h
  | cons a r => obtain ⟨b, c, rfl⟩ := vlen2 (Nat.succ.inj h); exact ⟨a, b, c, rfl⟩
noncomputable def SsE (env : Env) (G : Gl) (k : Nat) (names : List Str) (sc : List (Str × NameKind)) (st : List Stmt) (f : List Slot → Option (Fl × List Slot)) : Prop :=
  ∀ (A : Around) (W : Addr → Prop) (s : Shared) (sl : List Slot) (m : Str → Option Value) (os : Nat → List Addr) (va : Nat → Option Value), Room A k → EnvF env sc → EnvOk env names → StX G W env names sl s m os va →
    ∀ fl sl', f sl = some (fl, sl') → ∀ Q : Flow → Shared → Prop, (∀ W' s' m' os' va' flow, Mov W W' s s' → StX G W' env names sl' s' m' os' va' → FlRep G s'.heap fl flow → Q flow s') →
      wpAny G.M A (execs st env) Q (fun zq zq => False) s
noncomputable def CallEnvOf (G : Gl) (d : DefRec) (env : Env) : Prop :=
  env.qual = d.name ++ ".<locals>." ∧ ∃ c a o fd, env.code = .ref c ∧ G.mg d.name = some (.ref a) ∧ G.h₀.get? a = some o ∧ o.data = .func fd ∧ fd.code = .ref c ∧ fd.body = .stmts d.body
noncomputable def retOf : Flow → Value
  | .ret v => v
  | _ => .none
noncomputable def Begin (h : Heap) (vs : List Value) (n : Nat) (sl : List Slot) : Prop := ∀ (W : Addr → Prop) (h' : Heap), (∀ b, W b → h.get? b = none) → FKept h h' → ∀ i sv, sl[i]? = some sv → (i < n → ∃ v, vs[i]? = some v ∧ SlotOwn W h' sv [] (some v)) ∧ (n ≤ i → sv = .unset)
noncomputable def vaOf (env : Env) (names : List Str) (bs : List (Str × Value)) (i : Nat) : Option Value := (names[i]?).bind fun x => if env.kindOf x = some .local then bindL env.kindOf bs (fun zq => none) x else bindC env.kindOf bs (fun zq => none) x
theorem call_open {G : Gl} {lvl : Nat} {d : DefRec} {ps names : List Str} {f : List Slot → Option (Fl × List Slot)} (hd : d ∈ recsOf G.q) (D : DefOk d ps names)
    (hbody : ∀ h hk env, CallEnvOf (G.at h hk) d env → SsE env (G.at h hk) lvl names d.scope.names d.body f) {a : Addr} (hm : G.mg d.name = some (.ref a)) {A : Around} {s : Shared} {vs : List Value} (ro : Room A (lvl + 1)) (kk : Kept G.h₀ s.heap) {H0 : Heap} (tb0 : TB H0 s.heap)
    (hvl : vs.length = ps.length) {sl0 sl' : List Slot} {fl : Fl} (h0 : Begin s.heap vs ps.length sl0) (h1 : f sl0 = some (fl, sl')) {Q : Value → Shared → Prop} (hQ : ∀ s' flow, Ext s s' → FlRep (G.at s.heap kk) s'.heap fl flow → Q (retOf flow) s') :
    wpAny G.M A (call (.ref a) vs) Q (fun zq zq => False) s := by
  have tb := tb0.self
  obtain ⟨a', o, pm, cc, oc, doc, hm', ho, hdat, hcr, hoc, hocc⟩ := G.top.fn d hd
  have hcr' := CodeRec.keepsK hcr hoc hocc kk
  rw [hm] at hm'; cases hm'
  have hcellk : ∀ x ∈ names, d.scope.names.lookup x = some .cell → ∀ n, ∃ c, (cellsFrom n d.scope.names []).lookup x = some c := fun x zq hx n => by
    obtain ⟨c, hc⟩ := mem_own (n := n) (mem_of_lookup hx)
    exact lookup_of_mem hc
  have hps : ∀ x ∈ ps, x ∈ names := fun x hx => by rw [← D.pre] at hx; exact List.mem_of_mem_take hx
  refine wpAny_call (codeAny_call_cells (fd := Calls.docDef d.name d.params d.body d.scope pm (.ref cc) doc) (binds := ps.zip vs) ro.limit (kk _ _ ho (solid_func hdat)) hdat (NoLimit.keepsK G.top.nolimit kk) hcr' rfl (D.bind _ _ _ _ hvl) rfl ?_ (fun s₁ ic => ?_) D.co D.gen D.fn)
  · rintro ⟨x, v⟩ hx
    have hxp := (List.of_mem_zip hx).1
    rcases D.kinds x (hps x hxp) with h | h
    · exact .inl h
    · obtain ⟨c, hc⟩ := hcellk x (hps x hxp) h (s.heap.objs.size + 1)
      exact .inr ⟨h, by show (List.lookup x (cellsFrom (s.heap.objs.size + 1) d.scope.names [])).isSome = true; rw [hc]; rfl⟩
  have ce : CallEnvOf (G.at s.heap kk) d (callEnvC (Calls.docDef d.name d.params d.body d.scope pm (.ref cc) doc) s.heap.objs.size a) := ⟨rfl, cc, a, o, _, rfl, hm, kk _ _ ho (solid_func hdat), hdat, rfl, rfl⟩
  obtain ⟨env, hE⟩ : ∃ env, callEnvC (Calls.docDef d.name d.params d.body d.scope pm (.ref cc) doc) s.heap.objs.size a = env := ⟨_, rfl⟩
  have e1 : env.locals = s.heap.objs.size := by rw [← hE]; rfl
  have e2 : env.scope = d.scope := by rw [← hE]; rfl
  have e3 : env.cells = cellsFrom (s.heap.objs.size + 1) d.scope.names [] := by rw [← hE]; rfl
  have e4 : env.globals = mainGlobals := by rw [← hE]; rfl
  have e5 : env.builtins = builtinsNs := by rw [← hE]; rfl
  rw [hE] at ic ce
  suffices go : ∀ P : Flow → Shared → Prop, (∀ s' flow, Q (retOf flow) s' → P flow s') → wpAny G.M (A.deeper env) (execs d.body env) P (fun zq zq => False) s₁ by
    refine noE' (wpAny_mono (hE ▸ go (fun flow s' => Q (retOf flow) s') fun zq zq h => h) (fun flow s' h => ?_) fun zq zq h => h)
    cases flow <;> exact h
  clear hE hdat hcr hcr' hoc ho
  as_aux_lemma =>
  intro P hP
  have ge : ∀ b, s.heap.objs.size ≤ b → s.heap.get? b = none := fun b h => by
    cases q : s.heap.get? b with
    | none => rfl
    | some o => exact absurd (Heap.lt_size q) (Nat.not_lt.mpr h)
  have hko : ∀ x, env.kindOf x = d.scope.names.lookup x := fun x => by unfold Env.kindOf; rw [e2]
  have ef : EnvF env d.scope.names := ⟨by rw [e2]; exact D.fn, e4, e5, by rw [e2], fun x kd hx hkd => by
    rcases hkd with rfl | rfl
    · obtain ⟨c, hc⟩ := mem_own (n := s.heap.objs.size + 1) (mem_of_lookup hx)
      rw [e3]; exact lookup_of_mem hc
    · exact absurd rfl (D.free _ (mem_of_lookup hx))⟩
  have eo : EnvOk env names := ⟨D.nodup, fun x y c hx hy => name_of_addr ic.apart (mem_of_lookup hx) (mem_of_lookup hy)⟩
  have hkept : FKept s.heap s₁.heap := ic.toInCall.keep
  have hpsn : ps.Nodup := by rw [← D.pre]; exact D.nodup.sublist (List.take_sublist _ _)
  obtain ⟨W, hW⟩ : ∃ W : Addr → Prop, W = fun b => b = env.locals ∨ ∃ x, env.cells.lookup x = some b := ⟨_, rfl⟩
  have hln : ∀ b, W b → s.heap.get? b = none := fun b w => by
    rw [hW] at w
    rcases w with rfl | ⟨x, h⟩
    · rw [e1]; exact get_size _
    · refine ge b ?_
      have := ic.above x b (mem_of_lookup h)
      rw [e1] at this
      exact Nat.le_of_lt this
  have st : StX (G.at s.heap kk) W env names sl0 s₁ (bindL env.kindOf (ps.zip vs) fun zq => none) (fun zq => []) (vaOf env names (ps.zip vs)) := by
    refine ⟨⟨hkept.kept, none_full hkept, tb.keeps hkept, fun b w => ⟨?_, hln b w⟩⟩, by rw [hW]; exact .inl rfl, fun x c h => by rw [hW]; exact .inr ⟨x, h⟩, ic.toInCall.ns, fun i x sv hx hs => ?_, fun zq => List.nodup_nil, (fun zq zq zq h => by cases h), (fun zq zq h => by cases h)⟩
    · rw [hW] at w
      rcases w with rfl | ⟨x, h⟩
      · obtain ⟨o', _, _, e, _⟩ := ic.toInCall.ns
        rw [e]; rfl
      · obtain ⟨o', e, _⟩ := ic.cell x b h
        rw [e]; rfl
    · have hva : vaOf env names (ps.zip vs) i = if env.kindOf x = some .local then bindL env.kindOf (ps.zip vs) (fun zq => none) x else bindC env.kindOf (ps.zip vs) (fun zq => none) x := by unfold vaOf; rw [hx]; rfl
      rw [hva]
      refine ⟨?_, ?_⟩
      · rcases D.kinds x (List.mem_of_getElem? hx) with h | h
        · rw [← hko] at h
          rw [if_pos h]
          exact .inl ⟨h, rfl⟩
        · obtain ⟨c, hc⟩ := hcellk x (List.mem_of_getElem? hx) h (s.heap.objs.size + 1)
          rw [← hko] at h
          rw [if_neg (by rw [h]; decide)]
          rw [← e3] at hc
          exact .inr ⟨h, c, hc, ic.cell x c hc⟩
      · have b0 := h0 W s₁.heap hln hkept i sv hs
        rcases Nat.lt_or_ge i ps.length with hi | hi
        · obtain ⟨v, hv, so⟩ := b0.1 hi
          have hpx : ps[i]? = some x := by rw [← D.pre, List.getElem?_take_of_lt hi]; exact hx
          have hb : (if env.kindOf x = some .local then bindL env.kindOf (ps.zip vs) (fun zq => none) x else bindC env.kindOf (ps.zip vs) (fun zq => none) x) = some v := by
            split
            · next h => exact bindL_at hpsn hpx hv h
            · next h => exact bindC_at hpsn hpx hv h
          rw [hb]; exact so
        · rw [b0.2 hi]; rfl
  refine hbody s.heap kk env ce (A.deeper env) _ s₁ _ _ _ _ ro.deeper ef eo st fl sl' h1 _ fun W' s' m' os' va' flow mv st' fr => hP _ _ (hQ s' flow ?_ fr)
  obtain ⟨h₁, t₁, e, _⟩ := ic.done
  obtain ⟨h₂, t₂, e'⟩ := mv.same
  have et : s'.heap = h₂ := by rw [e']
  refine ⟨h₂, t₂, by rw [e', e], fun b o eb hs => et ▸ mv.kept b o (fun w => by rw [hln b w] at eb; cases eb) (hkept b o eb) hs, fun b e2 => none_full hkept b (mv.gone b (by rw [et]; exact e2)), fun H tbH => tbH.trans (et ▸ st'.base.tb)⟩
theorem begin_vals {h : Heap} {vs : List Value} {avs : List AV} {n : Nat} (rl : RepL (fun zq => False) h avs vs) (hf : firmL avs = true) : Begin h vs avs.length (avs.map Slot.val ++ List.replicate n .unset) := by
  intro W h' hW kk i sv hs
  refine ⟨fun hi => ?_, fun hi => ?_⟩
  · rw [List.getElem?_append_left (by rw [List.length_map]; exact hi), List.getElem?_map] at hs
    obtain ⟨av, ha, rfl⟩ := Option.map_eq_some_iff.mp hs
    obtain ⟨v, hv, rv⟩ := rl.get ha
    exact ⟨v, hv, rfl, v, rfl, RepV.mono (fun b o zq e zq => kk b o e) (fun b o zq e zq => kk b o e) (fun b hb w => by rw [hW b w] at hb; cases hb) _ _ rv, RepL.firmL_of_mem hf av (List.mem_of_getElem? ha)⟩
  · rw [List.getElem?_append_right (by rw [List.length_map]; exact hi)] at hs
    exact List.eq_of_mem_replicate (List.mem_of_getElem? hs)
theorem Fn.of' {G : Gl} {lvl : Nat} {d : DefRec} {ps names : List Str} {f : List Slot → Option (Fl × List Slot)} (hd : d ∈ recsOf G.q) (D : DefOk d ps names)
    (hbody : ∀ h hk env, CallEnvOf (G.at h hk) d env → SsE env (G.at h hk) lvl names d.scope.names d.body f) : Fn G d.name (lvl + 1) (callV f names.length ps.length) where
  place := by
    obtain ⟨a, o, pm, c, oc, doc, hm, ho, hdat, _⟩ := G.top.fn d hd
    exact ⟨a, o, _, hm, ho, hdat⟩
  runs := by
    intro a hm A s vs avs r ro kk H0 tb0 rl hf Q hQ
    unfold callV at hf
    split at hf
    · next hc =>
      obtain ⟨⟨fl, sl'⟩, h1, h2⟩ := Option.bind_eq_some_iff.mp hf
      refine call_open hd D hbody hm ro kk tb0 (by rw [rl.length, hc.1]) (by rw [← hc.1]; exact begin_vals rl hc.2) h1 fun s' flow xx fr => ?_
      cases fl with
      | ret b =>
        obtain ⟨v, rfl, rv⟩ := fr
        dsimp only at h2
        split at h2
        · next hfi => cases h2; exact hQ v s' xx rv hfi
        · cases h2
      | next =>
        cases (show flow = .next from fr)
        cases h2
        exact hQ .none s' xx rfl rfl
      | brk => cases h2
      | cont => cases h2
    · cases hf
theorem Fn.of {G : Gl} {lvl : Nat} {d : DefRec} {ps names : List Str} {f : List Slot → Option (Fl × List Slot)} (hd : d ∈ recsOf G.q) (D : DefOk d ps names)
    (hbody : ∀ h hk, SsS (G.at h hk) lvl names d.scope.names d.body f) : Fn G d.name (lvl + 1) (callV f names.length ps.length) :=
  Fn.of' hd D fun h hk env zq A W s sl m os va ro ef eo st fl sl' hf Q hQ => hbody h hk A W env s sl m os va ro ef eo st fl sl' hf Q hQ
end Mine
end

section
open PySem PySem.W PyProof.Rows
set_option Elab.async false
set_option tactic.hygienic false
set_option maxRecDepth 100000
set_option linter.unusedVariables false


namespace Mine
section
variable {G : Gl} {W : Addr → Prop} {k : Nat} {names : List Str} {sc : List (Str × NameKind)} {A : Around} {s : Shared} {E : Value → Shared → Prop} {env : Env} {sl : List Slot} {m : Str → Option Value} {os : Nat → List Addr} {va : Nat → Option Value}

noncomputable def putMany (sl : List Slot) : List Nat → List AV → Option (List Slot)
  | [], [] => some sl
  | i :: is, a :: as => if a.firm = true then (putS sl i (.val a)).bind fun sl' => putMany sl' is as else none
  | _, _ => none

theorem store_many (eo : EnvOk env names) (hk : env.scope.kind = .function) : ∀ (xs : List (Str × Pos)) (is : List Nat) (as : List AV) (vs : List Value) (sl sl' : List Slot) (s : Shared) (m : Str → Option Value) (os : Nat → List Addr) (va : Nat → Option Value) (Q : Unit → Shared → Prop),
    is.map (names[·]?) = xs.map (fun x => some x.1) → putMany sl is as = some sl' → RepL W s.heap as vs → StX G W env names sl s m os va →
    (∀ s' m' os' va', Mov W W s s' → StX G W env names sl' s' m' os' va' → Q () s') → wpAny G.M A (assignInOrder (xs.map fun x => PySem.assign (.Name x.1 x.2) env) vs) Q E s
  | [], is, as, vs, sl, sl', s, m, os, va, Q, hx, hp, hr, st, hQ => by
    have : is = [] := by simpa using hx
    subst this
    cases as with
    | nil =>
      cases hp
      rw [show vs = [] from hr]
      exact wpAny_pure (hQ s m os va (.refl W s) st)
    | cons a as => cases hp
  | (x, p) :: xs, is, as, vs, sl, sl', s, m, os, va, Q, hx, hp, hr, st, hQ => by
    cases is with
    | nil => cases hx
    | cons i is =>
      simp only [List.map_cons, List.cons.injEq] at hx
      cases as with
      | nil => cases hp
      | cons a as =>
        unfold putMany at hp
        split at hp
        · next hf =>
          obtain ⟨sl1, h1, h2⟩ := Option.bind_eq_some_iff.mp hp
          obtain ⟨rfl, old, hold⟩ := putS_some h1
          obtain ⟨v, q, rfl, ra, rq⟩ := hr
          show wpAny _ _ (do holding q (PySem.assign (.Name x p) env v); assignInOrder (xs.map fun x => PySem.assign (.Name x.1 x.2) env) q) Q E s
          refine wpAny_bind (wpAny_holding (wpAny_assign_Name (store_val st (.refl _) eo hk hx.1 hold ra hf fun s₁ m₁ os₁ va₁ mv kk st₁ => ?_)))
          refine store_many eo hk xs is as q _ sl' s₁ m₁ os₁ va₁ Q hx.2 h2 ?_ st₁ fun s' m' os' va' mv' st' => hQ s' m' os' va' (mv.trans mv') st'
          have hfl : firmL as = true := by
            clear hx rq st₁ kk mv ra hold h1 hf st hQ
            revert h2
            generalize sl.set i (.val a) = sl0
            intro h2
            have key : ∀ (is : List Nat) (as : List AV) (sl0 sl' : List Slot), putMany sl0 is as = some sl' → firmL as = true := by
              intro is as
              induction as generalizing is with
              | nil => intro _ _ _; rfl
              | cons b bs ih =>
                intro sl0 sl' h
                cases is with
                | nil => cases h
                | cons j js =>
                  unfold putMany at h
                  split at h
                  · next hb =>
                    obtain ⟨sl2, _, h4⟩ := Option.bind_eq_some_iff.mp h
                    simp only [firmL, hb, ih js sl2 sl' h4, Bool.and_self]
                  · cases h
            exact key is as sl0 sl' h2
          exact RepL.firm mv.kept (fun b e w => mv.new b w e) _ _ hfl rq
        · cases hp

noncomputable def tupOf : AV → Option (List AV)
  | .tup xs => some xs
  | _ => none
theorem tupOf_some {a : AV} {xs : List AV} (h : tupOf a = some xs) : a = .tup xs := by cases a <;> cases h; rfl
noncomputable def unpackF (is : List Nat) (f : List Slot → Option (List AV)) : List Slot → Option (Fl × List Slot) := fun sl => (f sl).bind fun xs => (putMany sl is xs).map fun sl' => (.next, sl')

theorem putMany_len : ∀ {is : List Nat} {as : List AV} {sl sl' : List Slot}, putMany sl is as = some sl' → is.length = as.length
  | [], [], _, _, _ => rfl
  | [], _ :: _, _, _, h => by cases h
  | _ :: _, [], _, _, h => by cases h
  | i :: is, a :: as, sl, sl', h => by
    unfold putMany at h
    split at h
    · obtain ⟨sl1, _, h2⟩ := Option.bind_eq_some_iff.mp h
      simp [putMany_len h2]
    · cases h

theorem StS.unpack {xs : List (Str × Pos)} {is : List Nat} {elts : List Expr} {kd : Nat} {tp q : Pos} {e : Expr} {f : List Slot → Option AV} (hx : is.map (names[·]?) = xs.map (fun x => some x.1)) (hel : elts = xs.map fun x => .Name x.1 x.2) (he : ∀ W, EvS G W k names sc e f)
    (hs : ∀ env, swapsWithSole [.Tuple elts kd tp] e q.line env = pure false) (hw : ∀ env, swappedStores [.Tuple elts kd tp] e env = pure none) :
    StS G k names sc (.Assign [.Tuple elts kd tp] e q) (unpackF is (fun sl => (f sl).bind tupOf)) := by
  intro A W env s sl m os va ro ef eo st fl sl' hf Q hQ
  obtain ⟨ys, h0, hf⟩ := Option.bind_eq_some_iff.mp hf
  obtain ⟨sl1, h1, h2⟩ := Option.map_eq_some_iff.mp hf
  cases h2
  obtain ⟨a, h3, h4⟩ := Option.bind_eq_some_iff.mp h0
  have hea : ∀ xs : List (Str × Pos), assignEach (xs.map fun x => Expr.Name x.1 x.2) env = xs.map fun x => (false, PySem.assign (.Name x.1 x.2) env) := by
    intro xs
    induction xs with
    | nil => rfl
    | cons x xs ih => rw [List.map_cons, List.map_cons, ← ih]; rfl
  refine PyProof.Rows.Assign_Tuple (he W A env s sl ro ef st.rs st.base a h3 _ fun v s₁ x₁ r₁ => ?_) (hs env) (hw env)
  obtain rfl := tupOf_some h4
  obtain ⟨l, vs, rfl, _, ht, rl⟩ := r₁
  subst hel
  have hlen : xs.length = vs.length := by
    have e1 := putMany_len h1
    have e2 := congrArg List.length hx
    simp only [List.length_map] at e2
    rw [rl.length, ← e1, e2]
  refine wpAny_assign_Tuple ro.handled ht (by rw [hea]; simp [hlen]) (by rw [hea]; clear hea hx h1 hlen hs hw; induction xs with | nil => rfl | cons x xs ih => simp [List.findIdx?_cons]) fun h' ext => ?_
  rw [hea, List.map_map]
  have kp : FKept s₁.heap h' := fun b o e => ext b o (Nat.ne_of_lt (Heap.lt_size e)) e
  have x₂ : Ext s₁ { s₁ with heap := h' } := Ext.of kp
  exact store_many eo ef.kind xs is ys vs sl sl' _ m os va _ hx h1 (rl.grow kp.kept) ((st.ext x₁).ext x₂) fun s' m' os' va' mv st' => hQ W s' m' os' va' .next (((Mov.ext x₁).trans (Mov.ext x₂)).trans mv) st' rfl

theorem StS.assign2 {i j : Nat} {x y : Str} {p p' q : Pos} {e : Expr} {f : List Slot → Option AV} (hx : names[i]? = some x) (hy : names[j]? = some y) (he : ∀ W, EvS G W k names sc e f) (hw : ∀ env, swappedStores [.Name x p, .Name y p'] e env = pure none) :
    StS G k names sc (.Assign [.Name x p, .Name y p'] e q) (fun sl => (f sl).bind fun a => (putMany sl [i, j] [a, a]).map fun sl' => (.next, sl')) := by
  intro A W env s sl m os va ro ef eo st fl sl' hf Q hQ
  obtain ⟨a, h0, hf⟩ := Option.bind_eq_some_iff.mp hf
  obtain ⟨sl1, h1, h2⟩ := Option.map_eq_some_iff.mp hf
  cases h2
  rw [PyProof.Rows.exec_Assign]
  refine wpAny_bind (wpAny_standAt ?_)
  refine wpAny_bind (wpAny_pure ?_)
  rw [if_neg (by decide)]
  refine wpAny_bind (he W A env s sl ro ef st.rs st.base a h0 _ fun v s₁ x₁ r₁ => ?_)
  rw [hw env]
  refine wpAny_bind (wpAny_pure ?_)
  show wpAny _ _ (do assignAll v [PySem.assign (.Name x p) env, PySem.assign (.Name y p') env]; pure Flow.next) _ _ _
  unfold putMany at h1
  split at h1
  · next hfi =>
    obtain ⟨sl2, h2, h3⟩ := Option.bind_eq_some_iff.mp h1
    unfold putMany at h3
    rw [if_pos hfi] at h3
    obtain ⟨sl3, h4, h5⟩ := Option.bind_eq_some_iff.mp h3
    cases h5
    obtain ⟨rfl, old, hold⟩ := putS_some h2
    obtain ⟨rfl, old', hold'⟩ := putS_some h4
    refine wpAny_bind ?_
    show wpAny _ _ (do holding [v] (PySem.assign (.Name x p) env v); PySem.assign (.Name y p') env v) _ _ _
    refine wpAny_bind (wpAny_holding (wpAny_assign_Name (store_val st x₁ eo ef.kind hx hold r₁ hfi fun s₂ m₂ os₂ va₂ mv₂ kk₂ st₂ => ?_)))
    refine wpAny_assign_Name (store_val st₂ (.refl _) eo ef.kind hy hold' (RepV.firm kk₂ (fun b e w => w) _ _ hfi r₁) hfi fun s₃ m₃ os₃ va₃ mv₃ zq st₃ => ?_)
    exact wpAny_pure (hQ W s₃ m₃ os₃ va₃ .next (mv₂.trans mv₃) st₃ rfl)
  · cases h1
end
end Mine
end

section
open PySem PySem.W PyProof.Rows
set_option Elab.async false
set_option tactic.hygienic false
set_option maxRecDepth 100000
set_option linter.unusedVariables false


namespace Mine
section
variable {G : Gl} {W : Addr → Prop} {k : Nat} {names : List Str} {sc : List (Str × NameKind)} {A : Around} {s : Shared} {E : Value → Shared → Prop}
theorem StS.never {st : Stmt} : StS G k names sc st (fun zq => none) := fun A W env s sl m os va zq zq zq zq fl sl' hf => by cases hf
theorem SsS.never {st : List Stmt} : SsS G k names sc st (fun zq => none) := fun A W env s sl m os va zq zq zq zq fl sl' hf => by cases hf

theorem EvS.len {p q : Pos} {e : Expr} {f : List Slot → Option (List AV)} (hg : sc.lookup ("len" : Str) = some .globalImplicit) (hm : G.mg ("len" : Str) = Option.none) (ha : EvL G W k names sc [e] f) (hn : notStar e = true) :
    EvS G W k names sc (.Call (.Name ("len" : Str) p) [e] [] q) (fun sl => (f sl).bind lenV) :=
  EvS.builtin (v := .builtin "len") hg (by decide +kernel) (by decide +kernel) hm (by kernel_rfl) (.inl ⟨_, rfl⟩) ha hn (fun zq zq => rfl) fun A s vs avs av ro ba r e Q hQ => len_sound r e hQ
theorem EvS.abs {p q : Pos} {e : Expr} {f : List Slot → Option (List AV)} (hg : sc.lookup ("abs" : Str) = some .globalImplicit) (hm : G.mg ("abs" : Str) = Option.none) (ha : EvL G W k names sc [e] f) (hn : notStar e = true) :
    EvS G W k names sc (.Call (.Name ("abs" : Str) p) [e] [] q) (fun sl => (f sl).bind absV) :=
  EvS.builtin (v := .builtin "abs") hg (by decide +kernel) (by decide +kernel) hm (by kernel_rfl) (.inl ⟨_, rfl⟩) ha hn (fun zq zq => rfl) fun A s vs avs av ro ba r e Q hQ => abs_sound r e hQ
theorem EvS.chr {p q : Pos} {e : Expr} {f : List Slot → Option (List AV)} (hg : sc.lookup ("chr" : Str) = some .globalImplicit) (hm : G.mg ("chr" : Str) = Option.none) (ha : EvL G W k names sc [e] f) (hn : notStar e = true) :
    EvS G W k names sc (.Call (.Name ("chr" : Str) p) [e] [] q) (fun sl => (f sl).bind chrV) :=
  EvS.builtin (v := .builtin "chr") hg (by decide +kernel) (by decide +kernel) hm (by kernel_rfl) (.inl ⟨_, rfl⟩) ha hn (fun zq zq => rfl) fun A s vs avs av ro ba r e Q hQ => chr_sound r e hQ
theorem EvS.ord {p q : Pos} {e : Expr} {f : List Slot → Option (List AV)} (hg : sc.lookup ("ord" : Str) = some .globalImplicit) (hm : G.mg ("ord" : Str) = Option.none) (ha : EvL G W k names sc [e] f) (hn : notStar e = true) :
    EvS G W k names sc (.Call (.Name ("ord" : Str) p) [e] [] q) (fun sl => (f sl).bind ordV) :=
  EvS.builtin (v := .builtin "ord") hg (by decide +kernel) (by decide +kernel) hm (by kernel_rfl) (.inl ⟨_, rfl⟩) ha hn (fun zq zq => rfl) fun A s vs avs av ro ba r e Q hQ => ord_sound r e hQ
theorem EvS.sum {p q : Pos} {e : Expr} {f : List Slot → Option (List AV)} (hg : sc.lookup ("sum" : Str) = some .globalImplicit) (hm : G.mg ("sum" : Str) = Option.none) (ha : EvL G W k names sc [e] f) (hn : notStar e = true) :
    EvS G W k names sc (.Call (.Name ("sum" : Str) p) [e] [] q) (fun sl => (f sl).bind sumV) :=
  EvS.builtin (v := .builtin "sum") hg (by decide +kernel) (by decide +kernel) hm (by kernel_rfl) (.inl ⟨_, rfl⟩) ha hn (fun zq zq => rfl) fun A s vs avs av ro ba r e Q hQ => sum_sound ro r e hQ
theorem EvS.min {p q : Pos} {e e' : Expr} {f : List Slot → Option (List AV)} (hg : sc.lookup ("min" : Str) = some .globalImplicit) (hm : G.mg ("min" : Str) = Option.none) (ha : EvL G W k names sc [e, e'] f) (hn : notStar e = true) (hr : ∀ env pos, ((backTo pos (starEach [e'] env)).any (·.1)) = false) :
    EvS G W k names sc (.Call (.Name ("min" : Str) p) [e, e'] [] q) (fun sl => (f sl).bind minV) :=
  EvS.builtin (v := .builtin "min") hg (by decide +kernel) (by decide +kernel) hm (by kernel_rfl) (.inl ⟨_, rfl⟩) ha hn hr fun A s vs avs av ro ba r e Q hQ => min_sound ro r e hQ

theorem EvB.divmod {p q : Pos} {e e' : Expr} {f : List Slot → Option (List AV)} (hg : sc.lookup ("divmod" : Str) = some .globalImplicit) (hm : G.mg ("divmod" : Str) = Option.none) (ha : EvL G W k names sc [e, e'] f) (hn : notStar e = true) (hr : ∀ env pos, ((backTo pos (starEach [e'] env)).any (·.1)) = false) :
    EvB true G W k names sc (.Call (.Name ("divmod" : Str) p) [e, e'] [] q) (fun sl => (f sl).bind divmodV) := by
  intro A env s sl ro ef rs ba av hf Q hQ
  obtain ⟨avs, h1, h2⟩ := Option.bind_eq_some_iff.mp hf
  refine builtin_call (v := .builtin "divmod") hg (by decide +kernel) (by decide +kernel) hm (by kernel_rfl) (.inl ⟨_, rfl⟩) ha hn hr ro ef rs ba h1 fun vs s₁ x₁ r => ?_
  unfold divmodV at h2
  split at h2
  · split at h2
    · next h =>
      obtain ⟨v, q, rfl, ⟨t, rfl⟩, ⟨v', q', rfl, ⟨t', rfl⟩, rfl⟩⟩ := r
      cases h2
      refine PyProof.Rows.divmod_int h.1 (hQ _ _ (x₁.trans (.of fun zq zq e => Heap.get?_push_of_some _ e)) ⟨_, [_, _], rfl, (ba.ext x₁).fresh (Nat.le_refl _), ⟨_, Heap.get?_push_size _ rfl, rfl, 0, rfl⟩, ⟨_, _, rfl, ⟨_, rfl⟩, ⟨_, _, rfl, ⟨_, rfl⟩, rfl⟩⟩⟩ fun zq => ⟨_, rfl, x₁.gone (get_size _)⟩) (Or.inl (small_pylong h.2))
    · cases h2
  · cases h2

theorem EvB.tuple {es : List Expr} {kd : Nat} {p : Pos} {g : List Slot → Option (List AV)} (hr : EvL G W k names sc es g) :
    EvB true G W k names sc (.Tuple es kd p) (fun sl => (g sl).bind fun xs => if xs.length < 1000000 then some (.tup xs) else Option.none) := by
  intro A env s sl ro ef rs ba av hf Q hQ
  obtain ⟨xs, h1, hf⟩ := Option.bind_eq_some_iff.mp hf
  split at hf
  · next q =>
    cases hf
    refine Tuple_ (hr.2 A env s sl p ro ef rs ba xs h1 _ fun vs s₁ x₁ r₁ => ?_)
    refine wpAny_newObj_type (hQ _ _ (x₁.trans .push) ⟨_, vs, rfl, (ba.ext x₁).fresh (Nat.le_refl _), ⟨_, Heap.get?_push_size _ rfl, rfl, 0, rfl⟩, r₁.grow (Ext.push (s := s₁)).kept⟩ fun zq => ⟨_, rfl, x₁.gone (get_size _)⟩) ?_
    show vs.toArray.size ≤ sizeLine
    rw [List.size_toArray, r₁.length, sizeLine_eq]; lia
  · cases hf

noncomputable def newOnly : AV → Option AV
  | .lst xs => some (.lst xs)
  | .tup xs => some (.tup xs)
  | _ => none
theorem newOnly_some {a b : AV} (h : newOnly a = some b) : a = b ∧ ((∃ xs, a = .lst xs) ∨ ∃ xs, a = .tup xs) := by
  cases a <;> cases h
  · exact ⟨rfl, .inr ⟨_, rfl⟩⟩
  · exact ⟨rfl, .inl ⟨_, rfl⟩⟩
theorem EvB.call {g : Str} {lvl : Nat} {fn : List AV → Option AV} {p q : Pos} {e : Expr} {es : List Expr} {f : List Slot → Option (List AV)} (F : Fn G g lvl fn) (hk : lvl ≤ k) (hg : sc.lookup g = some .globalImplicit)
    (hd : (g == ("__debug__" : Str)) = false) (ha : EvL G W k names sc (e :: es) f) (hn : notStar e = true) :
    EvB true G W k names sc (.Call (.Name g p) (e :: es) [] q) (fun sl => ((f sl).bind fun avs => fn (freezeL avs)).bind newOnly) := by
  intro A env s sl ro ef rs ba av hf Q hQ
  obtain ⟨av', h0, h3⟩ := Option.bind_eq_some_iff.mp hf
  obtain ⟨avs, h1, h2⟩ := Option.bind_eq_some_iff.mp h0
  obtain ⟨a, o, fd, hm, ho, hfd⟩ := F.place
  refine Call_ (wpAny_Name (load_global ef ba hg hm ?_) hd)
  refine callWith_def hfd (ha.2 A env s sl q ro ef rs ba avs h1 _ fun vs s₁ x₁ r₁ => ⟨(ba.ext x₁).keep _ _ ho (solid_func hfd), ?_⟩) (starEach_cons hn)
  refine F.runs a hm A s₁ vs (freezeL avs) av' (ro.le hk) (ba.ext x₁).keep _ (ba.ext x₁).tb (r₁.freeze) h2 Q fun v s' x r fi => ?_
  have old : ∀ d, ¬ (s₁.heap.get? d).isSome = true → s.heap.get? d = Option.none := fun d h => x₁.gone (by simpa using h)
  obtain ⟨rfl, hsh⟩ := newOnly_some h3
  have hr := r.weaken (W' := W) fun b w => ((ba.ext x₁).above b w).1
  obtain ⟨d, rfl, nw⟩ : ∃ d, v = .ref d ∧ ¬ (s₁.heap.get? d).isSome = true := by
    rcases hsh with ⟨xs, rfl⟩ | ⟨xs, rfl⟩ <;> (obtain ⟨d, us, e, nw, _⟩ := r; exact ⟨d, e, nw⟩)
  exact hQ _ s' (x₁.trans x) hr fun zq => ⟨d, rfl, old d nw⟩
end
end Mine
end

section
open PySem PySem.W PyProof.Rows
set_option Elab.async false
set_option tactic.hygienic false
set_option maxRecDepth 100000
set_option linter.unusedVariables false
namespace Mine
section
variable {G : Gl} {W : Addr → Prop} {k : Nat} {names : List Str} {sc : List (Str × NameKind)} {A : Around} {s : Shared} {E : Value → Shared → Prop} {env : Env} {sl : List Slot} {m : Str → Option Value} {os : Nat → List Addr} {va : Nat → Option Value}

noncomputable def sliceLV (a l h : AV) : Option AV := (a.any?).bind fun xs => (partOf l).bind fun lo => (partOf h).bind fun hi => if xs.length < 1000000 then some (.lst (sliceL xs lo hi)) else none
theorem sliceLV_some {a l h r : AV} (e : sliceLV a l h = some r) : ∃ xs lo hi, a.any? = some xs ∧ partOf l = some lo ∧ partOf h = some hi ∧ xs.length < 1000000 ∧ r = .lst (sliceL xs lo hi) := by
  obtain ⟨xs, hx, e⟩ := Option.bind_eq_some_iff.mp e
  obtain ⟨lo, p1, e⟩ := Option.bind_eq_some_iff.mp e
  obtain ⟨hi, p2, e⟩ := Option.bind_eq_some_iff.mp e
  split at e
  case isFalse => cases e
  case isTrue q => cases e; exact ⟨xs, lo, hi, hx, p1, p2, q, rfl⟩
theorem EvS.sliceAny {value : Expr} {lower upper : Option Expr} {q p : Pos} {f g h : List Slot → Option AV} (hv : EvS G W k names sc value f) (hl : EvP G W k names sc lower g) (hu : EvP G W k names sc upper h) :
    EvS G W k names sc (.Subscript value (.Slice lower upper Option.none q) p) (fun sl => (f sl).bind fun a => (g sl).bind fun b => (h sl).bind fun c => sliceLV a b c) := by
  intro A env s sl ro ef rs ba av hf Q hQ
  obtain ⟨a, h1, hf⟩ := Option.bind_eq_some_iff.mp hf
  obtain ⟨b, h2, hf⟩ := Option.bind_eq_some_iff.mp hf
  obtain ⟨c, h3, hf⟩ := Option.bind_eq_some_iff.mp hf
  obtain ⟨xs, lo, hi, hx, p1, p2, hsz, rfl⟩ := sliceLV_some hf
  refine Subscript_ (hv A env s sl ro ef rs ba _ h1 _ fun va s₁ x₁ r₁ => ?_)
  refine wpAny_Slice (hl A env s₁ sl ro ef (rs.grow x₁.kept) (ba.ext x₁) b h2 _ fun vl s₂ x₂ r₂ => ?_)
  refine hu A env s₂ sl ro ef (rs.grow (x₁.trans x₂).kept) (ba.ext (x₁.trans x₂)) c h3 _ fun vu s₃ x₃ r₃ => ?_
  obtain ⟨l, vs, rfl, hl, rl⟩ := (r₁.grow (x₂.trans x₃).kept).anyList hx
  have hlen := rl.length
  have x₃ := (x₁.trans x₂).trans x₃
  refine wpAny_of_eq (evalPart_none env) ?_
  have key : wpAny G.M A (getItem (.ref l) (.ref s₃.heap.objs.size)) Q (fun zq zq => False) { s₃ with heap := s₃.heap.push { cls := .type "slice", data := .fields #[vl, vu, .none] } } := ?_
  · exact tail_any (value := value) (slice := .Slice lower upper Option.none q) (ops := [.ref s₃.heap.objs.size, .ref l]) (hl.push _).typeIs slot_list_getitem.lookup key rfl
  refine wpAny_getItem_list_slice (hl.push _) (Heap.IsSliceOf.new s₃.heap vl vu .none) (part_is r₂ p1) (part_is r₃ p2) .none (by simp) ?_ (by rw [List.size_toArray, hlen, sizeLine_eq]; lia)
  rw [Heap.size_push]
  clear r₁ r₂ r₃ hl h1 h2 h3 p1 p2
  have x₄ : Ext s₃ { s₃ with heap := (s₃.heap.push { cls := .type "slice", data := .fields #[vl, vu, .none] }).push { cls := .type "list", data := .seq (slicePick vs.toArray lo hi Option.none) } } :=
    (Ext.push (s := s₃)).trans Ext.push
  refine hQ _ _ (x₃.trans x₄) ⟨_, (vs.drop (lo.elim 0 (clipAt xs.length))).take (hi.elim xs.length (clipAt xs.length) - lo.elim 0 (clipAt xs.length)), rfl, ?_, ⟨0, ?_⟩, ?_⟩
  · exact (ba.ext x₃).fresh (Nat.le_succ _)
  · have := Heap.get?_push_size (s₃.heap.push { cls := .type "slice", data := .fields #[vl, vu, .none] }) (o := { cls := .type "list", data := .seq (slicePick vs.toArray lo hi Option.none) }) rfl
    rw [Heap.size_push] at this
    rw [this, slicePick_plain, List.size_toArray, hlen]
  · exact ((rl.grow x₄.kept).drop _).take _

noncomputable def avInt? : AV → Option Int
  | .int i => some i
  | _ => none
noncomputable def revV (a c : AV) : Option AV := (a.any?).bind fun xs => (avInt? c).bind fun i => if i = -1 ∧ xs.length < 1000000 then some (.lst xs.reverse) else none
theorem EvS.sliceRev {x₀ : Str} {q₀ : Pos} {st : Expr} {q p : Pos} {f h : List Slot → Option AV} (hv : EvS G W k names sc (.Name x₀ q₀) f) (hst : EvS G W k names sc st h) :
    EvS G W k names sc (.Subscript (.Name x₀ q₀) (.Slice Option.none Option.none (some st) q) p) (fun sl => (f sl).bind fun a => (h sl).bind fun c => revV a c) := by
  intro A env s sl ro ef rs ba av hf Q hQ
  obtain ⟨a, h1, hf⟩ := Option.bind_eq_some_iff.mp hf
  obtain ⟨c, h3, hf⟩ := Option.bind_eq_some_iff.mp hf
  obtain ⟨xs, hx, hf⟩ := Option.bind_eq_some_iff.mp hf
  obtain ⟨i, hi, hf⟩ := Option.bind_eq_some_iff.mp hf
  split at hf
  case isFalse => cases hf
  case isTrue hc =>
  cases hf
  obtain ⟨rfl, hsz⟩ := hc
  have hci : c = .int (-1) := by cases c <;> cases hi; rfl
  subst hci
  refine wpAny_Subscript_Slice_step (T := "list") slot_list_getitem.lookup (hv A env s sl ro ef rs ba _ h1 _ fun va s₁ x₁ r₁ => ?_) fun zq zq => rfl
  refine wpAny_Slice ?_
  refine wpAny_of_eq (evalPart_none env) ?_
  refine wpAny_of_eq (evalPart_none env) ?_
  show wpAny _ _ (evalPart (some st) env) _ _ _
  refine hst A env s₁ sl ro ef (rs.grow x₁.kept) (ba.ext x₁) _ h3 _ fun vu s₃ x₃ r₃ => ?_
  obtain ⟨t, rfl⟩ := r₃
  obtain ⟨l, vs, rfl, hl, rl⟩ := (r₁.grow x₃.kept).anyList hx
  have hlen := rl.length
  refine ⟨(hl.push _).typeIs, wpAny_getItem_list_slice (hl.push _) (Heap.IsSliceOf.new ..) .none .none (.int (-1) t) (by simp) ?_ (by rw [List.size_toArray, hlen, sizeLine_eq]; lia)⟩
  rw [Heap.size_push, krv_pick]
  have x₃ := x₁.trans x₃
  clear r₁ hl h1 h3
  have x₄ : Ext s₃ { s₃ with heap := (s₃.heap.push { cls := .type "slice", data := .fields #[.none, .none, .int (-1) t] }).push { cls := .type "list", data := .seq vs.toArray.toList.reverse.toArray } } :=
    (Ext.push (s := s₃)).trans Ext.push
  refine hQ _ _ (x₃.trans x₄) ⟨_, vs.reverse, rfl, ?_, ⟨0, ?_⟩, ?_⟩
  · exact (ba.ext x₃).fresh (Nat.le_succ _)
  · have := Heap.get?_push_size (s₃.heap.push { cls := .type "slice", data := .fields #[.none, .none, .int (-1) t] }) (o := { cls := .type "list", data := .seq vs.toArray.toList.reverse.toArray }) rfl
    rw [Heap.size_push] at this
    rw [this]
  · exact (rl.grow x₄.kept).reverse

noncomputable def mgr? : Slot → Option (List (List AV))
  | .mgr rows => some rows
  | _ => none
theorem mgr_some {i : Nat} {rows : List (List AV)} (h : sl[i]?.bind mgr? = some rows) : sl[i]? = some (.mgr rows) := by
  obtain ⟨sv, h1, h2⟩ := Option.bind_eq_some_iff.mp h
  cases sv <;> cases h2
  exact h1
set_option tactic.hygienic true in
theorem RepRows.get {h : Heap} {rows : List (List AV)} {ds : List Addr} {a : Nat} {r : List AV} (hr : RepRows W h rows ds) (e : rows[a]? = some r) : ∃ d vs, ds[a]? = some d ∧ h.PlainList d (List.toArray vs) ∧ RepL W h r vs := by
  induction rows generalizing ds a with
  | nil => cases e
  | cons y ys ih =>
    obtain ⟨d, q, vs, rfl, l, x, t⟩ := hr
    cases a with
    | zero => cases e; exact ⟨d, vs, rfl, l, x⟩
    | succ a => exact ih (ds := q) t e
set_option tactic.hygienic true in
theorem RepRows.set {h h' : Heap} {d : Addr} {row : List AV} {vs' : List Value} (hk : ∀ b o, b ≠ d → h.get? b = some o → h'.get? b = some o) (wd : W d) (hl : h'.PlainList d (List.toArray vs')) (hr : RepL W h' row vs')
    {rows : List (List AV)} {ds : List Addr} {a : Nat} (nd : ds.Nodup) (e' : ds[a]? = some d) (hf : rows.all firmL = true) (r : RepRows W h rows ds) : RepRows W h' (rows.set a row) ds := by
  induction rows generalizing ds a with
  | nil => rw [show ds = [] from r] at e'; cases e'
  | cons y ys ih =>
    obtain ⟨d', q, vs, rfl, ⟨n, l⟩, x, t⟩ := r
    rw [List.all_cons, Bool.and_eq_true] at hf
    cases a with
    | zero =>
      cases e'
      exact ⟨d, q, vs', rfl, hl, hr, t.move (fun b o hb e zq => hk b o hb e) (fun zq zq w => w) wd (List.nodup_cons.mp nd).1 hf.2⟩
    | succ a =>
      have hm : q[a]? = some d := e'
      exact ⟨d', q, vs, rfl, ⟨n, hk _ _ (fun e => (List.nodup_cons.mp nd).1 (e ▸ List.mem_of_getElem? hm)) l⟩, RepL.firm (fun b o w e s => hk b o (fun q => w (q ▸ wd)) e) (fun zq zq w => w) _ _ hf.1 x, ih (List.nodup_cons.mp nd).2 hm hf.2 t⟩
theorem all_set {rows : List (List AV)} {a : Nat} {row : List AV} (h : rows.all firmL = true) (hr : firmL row = true) : (rows.set a row).all firmL = true := by
  rw [List.all_eq_true] at *
  intro y hy
  rcases List.mem_or_eq_of_mem_set hy with q | q
  · exact h y q
  · rw [q]; exact hr
theorem StX.setRow (st : StX G W env names sl s m os va) {i a : Nat} {x : Str} {rows : List (List AV)} {row : List AV} {vs' : List Value} {d0 d : Addr} {ds : List Addr} {h' : Heap} {tk : Nat} (hx : names[i]? = some x) (hsl : sl[i]? = some (.mgr rows))
    (ho : os i = d0 :: ds) (hd : va i = some (.ref d0)) (hpl : s.heap.PlainList d0 (List.toArray (ds.map Value.ref))) (hrr : RepRows W s.heap rows ds) (hfl : rows.all firmL = true) (ha : ds[a]? = some d)
    (sb : Heap.SameBut d s.heap h') (hl : h'.PlainList d (List.toArray vs')) (hr : RepL W s.heap row vs') (hf : firmL row = true) :
    Mov W W s { s with heap := h', toks := tk } ∧ StX G W env names (sl.set i (.mgr (rows.set a row))) { s with heap := h', toks := tk } m os va := by
  have hdm : d ∈ os i := by rw [ho]; exact List.mem_cons_of_mem _ (List.mem_of_getElem? ha)
  obtain ⟨wd, us, ld⟩ := st.isls i d hdm
  have nd := st.nodup i
  rw [ho] at nd
  have hne0 : d0 ≠ d := fun e => (List.nodup_cons.mp nd).1 (e ▸ List.mem_of_getElem? ha)
  have k0 : ∀ b ob, b ≠ d → s.heap.get? b = some ob → h'.get? b = some ob := fun b ob hb e => sb.extBut b ob hb e
  have h0a : G.h₀.get? d = none := (st.base.above d wd).2
  have nn : ∀ b, h'.get? b = none → s.heap.get? b = none := none_but k0 (by obtain ⟨n, l⟩ := hl; rw [l]; rfl)
  have hr' : RepL W h' row vs' := RepL.firm (fun b ob w e zq => k0 b ob (fun q => w (q ▸ wd)) e) (fun zq zq w => w) _ _ hf hr
  refine ⟨⟨⟨h', tk, rfl⟩, fun b ob w e zq => k0 b ob (fun q => w (q ▸ wd)) e, nn, fun zq w => w, fun zq w zq => w⟩, ⟨⟨fun b ob e hs => ?_, fun b e => st.base.gone b (nn b e), ?_, fun b w => ?_⟩, st.wl, st.wc, ?_, ?_, st.nodup, st.apart, ?_⟩⟩
  · exact k0 b ob (fun q => by rw [q, h0a] at e; cases e) (st.base.keep b ob e hs)
  · obtain ⟨oa, e, c⟩ := codey_list ld
    exact st.base.tb.change k0 (st.base.notMain wd) e c
  · show (h'.get? b).isSome = true ∧ _
    by_cases hba : b = d
    · subst hba; obtain ⟨n, l⟩ := hl; exact ⟨by rw [l]; rfl, h0a⟩
    · obtain ⟨ob, e⟩ := Option.isSome_iff_exists.mp (st.base.above b w).1
      exact ⟨by rw [k0 b ob hba e]; rfl, (st.base.above b w).2⟩
  · exact st.ns.sameBut sb (Ns.ne_list st.ns ld)
  · intro j y sv hy hs
    have hLd : ∀ ov, Ld env s.heap m y ov → Ld env h' m y ov := fun ov l => by
      rcases l with q | ⟨a, c, b, e⟩
      · exact .inl q
      · exact .inr ⟨a, c, b, e.sameBut sb (IsCell.ne_list e ld)⟩
    rcases set_get hs with ⟨rfl, rfl⟩ | ⟨hne, hs⟩
    · rw [hx] at hy; cases hy
      refine ⟨hLd _ (st.slots i x _ hx hsl).1, d0, ds, ho, fun b hb => (st.isls i b (ho ▸ hb)).1, hd, ?_, RepRows.set k0 wd hl hr' (List.nodup_cons.mp nd).2 ha hfl hrr, all_set hfl hf⟩
      obtain ⟨n, l⟩ := hpl; exact ⟨n, k0 _ _ hne0 l⟩
    · refine ⟨hLd _ (st.slots j y sv hy hs).1, (st.slots j y sv hy hs).2.move (fun b o hb e zq => k0 b o hb e) (fun zq zq w => w) (fun zq w => w) wd fun q => ?_⟩
      exact hne (st.apart i j d hdm q)
  · intro j b h1
    obtain ⟨w, us, n, l⟩ := st.isls j b h1
    by_cases hba : b = d
    · subst hba; exact ⟨w, _, hl⟩
    · exact ⟨w, us, n, k0 b _ hba l⟩
inductive SI2 (sl : List Slot) (i : Nat) (fa fb fe : List Slot → Option AV) (fl : Fl) (sl' : List Slot) : Prop
  | mk (v : AV) (a b : Int) (rows : List (List AV)) (row : List AV) (h1 : fe sl = some v) (h2 : fa sl = some (.int a)) (h3 : fb sl = some (.int b)) (h4 : sl[i]? = some (.mgr rows)) (h5 : rows[a.toNat]? = some row) (hv : v.firm = true) (a0 : 0 ≤ a) (a1 : a < 1000000) (b0 : 0 ≤ b) (b1 : b < row.length) (b2 : b < 1000000)
    (ef : fl = .next) (es : sl' = sl.set i (.mgr (rows.set a.toNat (row.set b.toNat v)))) : SI2 sl i fa fb fe fl sl'
noncomputable def setItem2F (i : Nat) (fa fb fe : List Slot → Option AV) : List Slot → Option (Fl × List Slot) := fun sl => (fe sl).bind fun v => ((fa sl).bind avInt?).bind fun a => ((fb sl).bind avInt?).bind fun b => (sl[i]?.bind mgr?).bind fun rows => (rows[a.toNat]?).bind fun row =>
  if v.firm = true ∧ 0 ≤ a ∧ a < 1000000 ∧ 0 ≤ b ∧ b < row.length ∧ row.length < 1000000 then some (.next, sl.set i (.mgr (rows.set a.toNat (row.set b.toNat v)))) else none
theorem avInt?_some {o : Option AV} {i : Int} (h : o.bind avInt? = some i) : o = some (.int i) := by
  obtain ⟨v, rfl, h⟩ := Option.bind_eq_some_iff.mp h
  cases v <;> cases h
  rfl
theorem setItem2F_some {i : Nat} {fa fb fe : List Slot → Option AV} {fl : Fl} {sl' : List Slot} (hf : setItem2F i fa fb fe sl = some (fl, sl')) : SI2 sl i fa fb fe fl sl' := by
  obtain ⟨v, h1, hf⟩ := Option.bind_eq_some_iff.mp hf
  obtain ⟨a, h2, hf⟩ := Option.bind_eq_some_iff.mp hf
  obtain ⟨b, h3, hf⟩ := Option.bind_eq_some_iff.mp hf
  obtain ⟨rows, h4, hf⟩ := Option.bind_eq_some_iff.mp hf
  obtain ⟨row, h5, hf⟩ := Option.bind_eq_some_iff.mp hf
  split at hf
  case isFalse => cases hf
  case isTrue hc => cases hf; exact ⟨v, a, b, rows, row, h1, avInt?_some h2, avInt?_some h3, mgr_some h4, h5, hc.1, hc.2.1, hc.2.2.1, hc.2.2.2.1, hc.2.2.2.2.1, by lia, rfl, rfl⟩
theorem StS.setItem2 {i : Nat} {x : Str} {p sp1 sp2 q : Pos} {ae be e : Expr} {fa fb fe : List Slot → Option AV} (hx : names[i]? = some x) (hd : (x == ("__debug__" : Str)) = false) (ha : ∀ W, EvS G W k names sc ae fa) (hb : ∀ W, EvS G W k names sc be fb) (he : ∀ W, EvS G W k names sc e fe)
    (hs : ∀ env, swapsWith e (some (.Subscript (.Subscript (.Name x p) ae sp1) be sp2)) q.line env = pure false) (hn : notSlice ae = true) :
    StS G k names sc (.Assign [.Subscript (.Subscript (.Name x p) ae sp1) be sp2] e q) (setItem2F i fa fb fe) := by
  intro A W env s sl m os va ro ef eo st fl sl' hf Q hQ
  obtain ⟨v, a, b, rows, row, h1, h2, h3, hsl, h5, hv, a0, a1, b0, b1, b2, rfl, rfl⟩ := setItem2F_some hf
  clear hf
  refine wpAny_Assign_Subscript (he W A env s sl ro ef st.rs st.base v h1 _ fun u s₁ x₁ r₁ => ?_) (hs env)
  have st₁ := st.ext x₁
  refine byG fun X hX => ?_
  obtain ⟨_, d0, ds, ho, _, hva, _⟩ := st₁.slots i x _ hx hsl
  refine hX (Subscript_ (st₁.load ef hx hsl hva hd (ha W A env s₁ sl ro ef st₁.rs st₁.base _ h2 _ fun w s₂ x₂ r₂ => ?_)))
  clear hX X
  have st₂ := st₁.ext x₂
  refine byG fun X hX => ?_
  obtain ⟨t, rfl⟩ := r₂
  obtain ⟨_, d0', ds', ho', _, hva', hpl, hrr, hfl⟩ := st₂.slots i x _ hx hsl
  obtain ⟨rfl, rfl⟩ := List.cons.inj (ho.symm.trans ho')
  obtain ⟨d, vs, e1, _, _⟩ := hrr.get h5
  have hil : s₂.heap.IsList d0 (List.toArray (ds.map Value.ref)) := let ⟨n, e⟩ := hpl; ⟨_, e, rfl, n, rfl⟩
  refine hX (tail_any hil.typeIs slot_list_getitem.lookup (wpAny_getItem_list hil a0 (Int.lt_trans a1 (by decide)) (x := .ref d) (by simp [e1]) ?_) (subscripted_plain hn _ _))
  clear hX X hpl hrr hfl hil ho' hva'
  refine hb W A env s₂ sl ro ef st₂.rs st₂.base _ h3 _ fun w s₃ x₃ r₃ => ?_
  have st₃ := st₂.ext x₃
  refine byG fun X hX => ?_
  obtain ⟨t', rfl⟩ := r₃
  obtain ⟨_, d0', ds', ho', _, hva', hpl, hrr, hfl⟩ := st₃.slots i x _ hx hsl
  obtain ⟨rfl, rfl⟩ := List.cons.inj (ho.symm.trans ho')
  obtain ⟨d', vs, e1', hl, hr⟩ := hrr.get h5
  obtain rfl := Option.some.inj (e1.symm.trans e1')
  have hlen := hr.length
  refine hX (setItem_plain hl b0 (Int.lt_trans b2 (by decide)) (by rw [List.size_toArray, hlen]; exact b1) fun h' hpl' sb => ?_)
  clear hX X
  have hfr : firmL row = true := List.all_eq_true.mp hfl row (List.mem_of_getElem? h5)
  have hsv := st₃.setRow (tk := s₃.toks) (row := row.set b.toNat v) (vs' := vs.set b.toNat u) hx hsl ho hva hpl hrr hfl e1 sb (by rw [List.setIfInBounds_toArray] at hpl'; exact hpl') (hr.set _ ((r₁.grow x₂.kept).grow x₃.kept)) (firmL_set hfr hv)
  exact hQ W _ m os va .next ((((Mov.ext x₁).trans (Mov.ext x₂)).trans (Mov.ext x₃)).trans hsv.1) hsv.2 rfl

noncomputable def flatO (xs : List AV) : Option AV := if xs.all AV.flat = true then some (.lst xs) else none
noncomputable def retTupF (i j : Nat) : List Slot → Option (Fl × List Slot) := fun sl => ((sl[i]?.bind mls?).bind flatO).bind fun a => ((sl[j]?.bind mls?).bind flatO).bind fun b => some (.ret (.tup [a, b]), sl)
theorem StX.gives (st : StX G W env names sl s m os va) {i : Nat} {x : Str} {a : AV} (hx : names[i]? = some x) (h : (sl[i]?.bind mls?).bind flatO = some a) : ∃ sv v, sl[i]? = some sv ∧ va i = some v ∧ RepV (fun b => (G.h₀.get? b).isSome = true) s.heap a v := by
  obtain ⟨xs, h1, h2⟩ := Option.bind_eq_some_iff.mp h
  have hsl := mls_some h1
  unfold flatO at h2
  split at h2
  case isFalse => cases h2
  case isTrue hfl =>
  cases h2
  obtain ⟨_, d, vs, _, wd, hva, hpl, hrl, _⟩ := st.slots i x _ hx hsl
  exact ⟨_, _, hsl, hva, d, vs, rfl, by show ¬ (G.h₀.get? d).isSome = true; rw [(st.base.above d wd).2]; decide, hpl, hrl.any hfl⟩
theorem StS.retTup {i j : Nat} {x y : Str} {p p' pt q : Pos} {kd : Nat} (hx : names[i]? = some x) (hy : names[j]? = some y) (hd : (x == ("__debug__" : Str)) = false) (hd' : (y == ("__debug__" : Str)) = false) :
    StS G k names sc (.Return (some (.Tuple [.Name x p, .Name y p'] kd pt)) q) (retTupF i j) := by
  intro A W env s sl m os va ro ef eo st fl sl' hf Q hQ
  obtain ⟨a, h1, hf⟩ := Option.bind_eq_some_iff.mp hf
  obtain ⟨b, h2, hf⟩ := Option.bind_eq_some_iff.mp hf
  cases hf
  obtain ⟨sv, v, e1, e2, r1⟩ := st.gives hx h1
  obtain ⟨sv', v', e1', e2', r1'⟩ := st.gives hy h2
  refine wpAny_Return_some (Tuple_ ?_)
  show wpAny _ _ (spliced ((false, eval (.Name x p) env) :: backTo pt (starEach [.Name y p'] env))) _ _ _
  refine Calls.spliced_cons (st.load ef hx e1 e2 hd ?_)
  show wpAny _ _ (spliced ((false, eval (.Name y p') env) :: backTo pt (starEach [] env))) _ _ _
  refine Calls.spliced_cons (st.load ef hy e1' e2' hd' ?_)
  refine Calls.spliced_nil (wpAny_newObj_type ?_ (by show 2 ≤ sizeLine; rw [sizeLine_eq]; decide))
  have xx : Ext s _ := Ext.push (s := s) (o := { cls := .type "tuple", data := .seq #[v, v'] })
  refine hQ W _ m os va _ (.ext xx) (st.ext xx) ⟨_, rfl, _, [v, v'], rfl, ?_, ⟨_, Heap.get?_push_size _ rfl, rfl, 0, rfl⟩, v, [v'], rfl, r1.grow xx.kept, v', [], rfl, r1'.grow xx.kept, rfl⟩
  show ¬ (G.h₀.get? s.heap.objs.size).isSome = true
  rw [st.base.gone _ (get_size _)]; decide
end
end Mine
end

section
open PySem PySem.W PyProof.Rows
set_option Elab.async false
set_option tactic.hygienic false
set_option maxRecDepth 100000
set_option linter.unusedVariables false
namespace Mine
theorem EvS.joinC {G : Gl} {W : Addr → Prop} {k : Nat} {names : List Str} {sc : List (Str × NameKind)} {x : Str} {kd : Nat} {p apos q : Pos} {e : Expr} {g : List Slot → Option AV} (he : EvS G W k names sc e g) (hn : notStar e = true) (hl : (apos.endLine == q.line) = true) :
    EvS G W k names sc (.Call (.Attribute (.Constant (.str x) kd p) ("join" : Str) apos) [e] [] q) (fun sl => (some (AV.str x)).bind fun a => (g sl).bind fun b => joinV a b) := EvS.join EvS.str he hn (fun zq => rfl) hl
end Mine
end

section
open PySem
set_option Elab.async false
set_option tactic.hygienic false
namespace Mine
theorem bitXor_low (x s : Nat) : Builtin.bitXor (x : Int) (((x / 2 ^ s * 2 ^ s : Nat)) : Int) = ((x % 2 ^ s : Nat) : Int) := by
  have key : x / 2 ^ s * 2 ^ s = (x >>> s) <<< s := by rw [Nat.shiftLeft_eq, Nat.shiftRight_eq_div_pow]
  have hb : ∀ i, ((x >>> s) <<< s).testBit i = (decide (s ≤ i) && x.testBit i) := by
    intro i
    rw [Nat.testBit_shiftLeft]
    by_cases h : s ≤ i
    · rw [Nat.testBit_shiftRight]; simp [h, Nat.add_sub_cancel' h]
    · simp [h]
  have e1 : x ||| (x / 2 ^ s * 2 ^ s) = x := by
    rw [key]
    refine Nat.eq_of_testBit_eq fun i => ?_
    rw [Nat.testBit_or, hb]
    cases x.testBit i <;> simp
  have e2 : x &&& (x / 2 ^ s * 2 ^ s) = x / 2 ^ s * 2 ^ s := by
    rw [key]
    refine Nat.eq_of_testBit_eq fun i => ?_
    rw [Nat.testBit_and, hb]
    cases x.testBit i <;> simp
  have hn : ∀ a : Nat, Builtin.bitNot (Builtin.bitNot (a : Int)) = a := fun a => by unfold Builtin.bitNot; lia
  have hor : ∀ a b : Nat, Builtin.bitOr (a : Int) (b : Int) = ((a ||| b : Nat) : Int) := fun a b => by
    have h1 : decide (0 ≤ Builtin.bitNot (a : Int)) = false := decide_eq_false (by unfold Builtin.bitNot; lia)
    have h2 : decide (0 ≤ Builtin.bitNot (b : Int)) = false := decide_eq_false (by unfold Builtin.bitNot; lia)
    unfold Builtin.bitOr Builtin.bitAnd
    rw [h1, h2]
    simp only [hn, Int.toNat_natCast]
  have hand : ∀ a b : Nat, Builtin.bitAnd (a : Int) (b : Int) = ((a &&& b : Nat) : Int) := fun a b => by
    have h1 : decide (0 ≤ (a : Int)) = true := decide_eq_true (by lia)
    have h2 : decide (0 ≤ (b : Int)) = true := decide_eq_true (by lia)
    unfold Builtin.bitAnd
    rw [h1, h2]
    simp only [Int.toNat_natCast]
  unfold Builtin.bitXor
  rw [hor, hand, e1, e2]
  have := Nat.div_add_mod x (2 ^ s)
  rw [Nat.mul_comm] at this
  lia

noncomputable def dgs (n : Nat) : Nat → Nat → List Nat
  | 0, _ => []
  | m + 1, x => x % 2 ^ n :: dgs n m (x / 2 ^ n)
theorem dgs_len (n : Nat) : ∀ m x, (dgs n m x).length = m
  | 0, _ => rfl
  | m + 1, x => by simp [dgs, dgs_len n m]
theorem dgs_split (n : Nat) : ∀ a b x, dgs n (a + b) x = dgs n a (x % 2 ^ (n * a)) ++ dgs n b (x / 2 ^ (n * a))
  | 0, b, x => by simp [dgs]
  | a + 1, b, x => by
    have e : a + 1 + b = a + b + 1 := by lia
    have p : 2 ^ (n * (a + 1)) = 2 ^ n * 2 ^ (n * a) := by rw [Nat.mul_succ, Nat.pow_add, Nat.mul_comm]
    rw [e]
    simp only [dgs, List.cons_append]
    rw [dgs_split n a b (x / 2 ^ n), p, Nat.mod_mul_right_div_self, Nat.mod_mul_right_mod, Nat.div_div_eq_div_mul]
theorem dgs_one (n x : Nat) (h : x < 2 ^ n) : dgs n 1 x = [x] := by simp [dgs, Nat.mod_eq_of_lt h]
noncomputable def undgs (n : Nat) : List Nat → Nat
  | [] => 0
  | d :: ds => d + 2 ^ n * undgs n ds
theorem undgs_dgs (n : Nat) : ∀ m x, x < 2 ^ (n * m) → undgs n (dgs n m x) = x
  | 0, x, h => by simp at h; subst h; rfl
  | m + 1, x, h => by
    have : x / 2 ^ n < 2 ^ (n * m) := by
      refine (Nat.div_lt_iff_lt_mul (Nat.two_pow_pos n)).mpr ?_
      rw [← Nat.pow_add]; exact h
    simp only [dgs, undgs, undgs_dgs n m _ this]
    exact Nat.mod_add_div x (2 ^ n)
theorem undgs_append (n : Nat) : ∀ (a b : List Nat), undgs n (a ++ b) = undgs n a + 2 ^ (n * a.length) * undgs n b
  | [], b => by simp [undgs]
  | d :: a, b => by
    simp only [List.cons_append, undgs, undgs_append n a b, List.length_cons, Nat.mul_succ, Nat.pow_add, Nat.mul_add]
    rw [Nat.add_assoc, Nat.mul_comm (2 ^ (n * a.length)) (2 ^ n), Nat.mul_assoc]
end Mine
namespace Mine
theorem undgs_lt (n : Nat) : ∀ ds : List Nat, (∀ d ∈ ds, d < 2 ^ n) → undgs n ds < 2 ^ (n * ds.length)
  | [], _ => by simp [undgs]
  | d :: ds, h => by
    have h1 := h d List.mem_cons_self
    have h2 := undgs_lt n ds fun e he => h e (List.mem_cons_of_mem _ he)
    have h3 : 2 ^ n * (undgs n ds + 1) ≤ 2 ^ n * 2 ^ (n * ds.length) := Nat.mul_le_mul_left _ h2
    simp only [undgs, List.length_cons, Nat.mul_succ, Nat.pow_add]
    rw [Nat.mul_comm (2 ^ (n * ds.length))]
    rw [Nat.mul_succ] at h3
    lia
theorem take_split {α : Type} (l : List α) (L a b : Nat) : (l.drop L).take (a + b) = (l.drop L).take a ++ (l.drop (L + a)).take b := by
  rw [List.take_add, List.drop_drop]
end Mine
namespace Mine
noncomputable def ldiv (n b : Nat) : List Nat → Nat → List Nat → Nat × List Nat
  | [], r, qs => (r, qs)
  | d :: l, r, qs => ldiv n b l ((r * 2 ^ n + d) % b) (qs ++ [(r * 2 ^ n + d) / b])
theorem ldiv_spec (n b : Nat) (hb : 0 < b) : ∀ (l : List Nat) (r : Nat) (qs : List Nat) (A : Nat), r = A % b → undgs n qs.reverse = A / b → (∀ q ∈ qs, q < 2 ^ n) → (∀ d ∈ l, d < 2 ^ n) →
    (ldiv n b l r qs).1 = (undgs n l.reverse + 2 ^ (n * l.length) * A) % b ∧ undgs n (ldiv n b l r qs).2.reverse = (undgs n l.reverse + 2 ^ (n * l.length) * A) / b ∧ (∀ q ∈ (ldiv n b l r qs).2, q < 2 ^ n) ∧ (ldiv n b l r qs).2.length = qs.length + l.length
  | [], r, qs, A, hr, hq, hs, _ => by simp [ldiv, undgs, hr, hq]; exact hs
  | d :: l, r, qs, A, hr, hq, hs, hl => by
    have hd := hl d List.mem_cons_self
    have hdm := Nat.div_add_mod A b
    have hrb : r < b := by rw [hr]; exact Nat.mod_lt _ hb
    have e : A * 2 ^ n + d = (r * 2 ^ n + d) + b * (A / b * 2 ^ n) := by
      rw [hr, ← Nat.mul_assoc]
      have h : A * 2 ^ n = (b * (A / b) + A % b) * 2 ^ n := by rw [hdm]
      rw [h, Nat.add_mul]; lia
    have h1 : (r * 2 ^ n + d) % b = (A * 2 ^ n + d) % b := by rw [e, Nat.add_mul_mod_self_left]
    have h2 : undgs n (qs ++ [(r * 2 ^ n + d) / b]).reverse = (A * 2 ^ n + d) / b := by
      rw [List.reverse_append, e, Nat.add_mul_div_left _ _ hb]
      simp only [List.reverse_cons, List.reverse_nil, List.nil_append, List.cons_append, undgs, hq]
      rw [Nat.mul_comm (2 ^ n) (A / b)]
    have h3 : ∀ q ∈ qs ++ [(r * 2 ^ n + d) / b], q < 2 ^ n := by
      intro q h
      rcases List.mem_append.mp h with h | h
      · exact hs q h
      · rw [List.mem_singleton.mp h]
        refine (Nat.div_lt_iff_lt_mul hb).mpr ?_
        have : (r + 1) * 2 ^ n ≤ b * 2 ^ n := Nat.mul_le_mul_right _ hrb
        rw [Nat.add_mul, Nat.one_mul] at this
        rw [Nat.mul_comm (2 ^ n) b]
        lia
    have ih := ldiv_spec n b hb l _ _ (A * 2 ^ n + d) h1 h2 h3 (fun x hx => hl x (List.mem_cons_of_mem _ hx))
    have key : undgs n l.reverse + 2 ^ (n * l.length) * (A * 2 ^ n + d) = undgs n (d :: l).reverse + 2 ^ (n * (d :: l).length) * A := by
      rw [List.reverse_cons, undgs_append, List.length_reverse, List.length_cons, Nat.mul_succ, Nat.pow_add]
      simp only [undgs, Nat.mul_zero, Nat.add_zero]
      rw [Nat.mul_add, Nat.mul_comm A, ← Nat.mul_assoc]
      lia
    rw [key] at ih
    refine ⟨ih.1, ih.2.1, ih.2.2.1, ?_⟩
    have := ih.2.2.2
    simp only [ldiv, this, List.length_append, List.length_cons, List.length_nil]
    lia
end Mine
end

section
open PySem PySem.W PyProof.Rows
set_option Elab.async false
set_option tactic.hygienic false
set_option maxRecDepth 100000
set_option linter.unusedVariables false
namespace Mine
section
variable {M : Model} {A : Around} {E : Value → Shared → Prop} {s : Shared}
noncomputable abbrev innerFd (name qual : Str) (params : Arguments) (body : List Stmt) (scope : Scope) (clos : List (Str × Addr)) (pm ctv : Value) (c : Addr) : FuncData :=
  { name, qualname := qual, params, body := .stmts body, scope, globals := mainGlobals, closure := clos, defaults := .none, kwdefaults := .none, doc := .none, pyModule := pm, annotations := none, code := .ref c, closureTuple := ctv, builtins := builtinsNs }
noncomputable def TabCase (h : Heap) (pos : Pos) (q : Str) (ps : Array Value) : Prop :=
  ps = #[] ∨ ∃ c' o', ps = #[rawInt pos.line, rawInt pos.col, .ref c'] ∧ h.get? c' = some o' ∧ o'.cls = .type "code" ∧ h.CodeRec (.ref c') q
theorem TabCase.keeps {h h' : Heap} {pos : Pos} {q : Str} {ps : Array Value} (x : TabCase h pos q ps) (k : FKept h h') : TabCase h' pos q ps := by
  rcases x with x | ⟨c', o', e, a, b, c⟩
  · exact .inl x
  · exact .inr ⟨c', o', e, k _ _ a, b, c.keeps k⟩
theorem inner_code {env : Env} {c P : Addr} {ps : Array Value} {pos : Pos} {firstLine : Nat} {name qual : Str} {params : Arguments} {scope : Scope} {body : FuncBody} {Q : Value → Shared → Prop}
    (hcode : env.code = .ref c) (C : CodeHd s.heap c P) (hP : s.heap.get? P = some (tabObj ps)) (hps : TabCase s.heap pos qual ps)
    (h : ∀ (c' : Addr) (oc : Obj) (h' : Heap) (tk : Nat) (more : Array Value), #[rawInt pos.line, rawInt pos.col, .ref c'] = ps ++ more → (∀ b o, b ≠ P → s.heap.get? b = some o → h'.get? b = some o) → h'.get? P = some (tabObj #[rawInt pos.line, rawInt pos.col, .ref c']) → h'.get? c' = some oc → oc.cls = .type "code" → h'.CodeRec (.ref c') qual →
      Q (.ref c') { s with heap := h', toks := tk }) :
    wpAny M A (functionCode env pos firstLine name qual params scope body) Q E s := by
  rcases hps with rfl | ⟨c', o', rfl, a, b, d⟩
  · refine wpAny_functionCodeX hcode (C.code hP trivial) (C.tab hP) rfl fun c' h' tk hx hge hlt zq hrec htb hin => ?_
    obtain ⟨P', _, _, ⟨⟨oc, vs, e1, e2, _⟩, _⟩⟩ := hin
    exact h c' oc h' tk _ (by simp; rfl) hx htb.2 e1 e2 hrec
  · exact wpAny_functionCode_hit hcode (C.code hP trivial) (by simp [codeAmong, rawInt]) (h c' o' s.heap s.toks #[] (by simp) (fun zq zq zq e => e) hP a b d)

theorem tup_cases {c : Bool} {l : List Value} {jp : Value → Sem Value} {Q : Value → Shared → Prop} (h : ∀ (cv : Value) (H : Heap), FKept s.heap H → wpAny M A (jp cv) Q E { s with heap := H }) :
    wpAny M A (if c = true then (pure .none >>= fun v => jp v) else (newTextTuple l >>= fun v => jp v)) Q E s := by
  cases c with
  | true => exact wpAny_bind (wpAny_pure (h .none s.heap fun zq zq e => e))
  | false => exact wpAny_bind (wpAny_newTextTuple (h _ _ fun zq zq e => Heap.get?_push_of_some _ e))
theorem make_inner {name qual : Str} {params : Arguments} {body : List Stmt} {scope : Scope} {env : Env} {mg : Str → Option Value} {c P : Addr} {ps : Array Value} {pos : Pos} {firstLine : Nat} {clos : List (Str × Addr)} {Q : Value → Shared → Prop}
    (hcl : closureFor scope env = pure clos) (hge0 : env.globals = mainGlobals) (hg : s.heap.Ns mainGlobals mg) (hcode : env.code = .ref c) (C : CodeHd s.heap c P) (hP : s.heap.get? P = some (tabObj ps)) (hps : TabCase s.heap pos qual ps)
    (hdoc : docOf body = none) (hb : ∃ bm ob, mg "__builtins__" = some (.ref bm) ∧ bm ≠ builtinsNs ∧ s.heap.get? bm = some ob ∧ ob.cls = .type "module" ∧ ob.dict = some builtinsNs ∧ ob.data = .plain)
    (h : ∀ (c' : Addr) (oc : Obj) (ctv : Value) (h' : Heap) (tk : Nat) (more : Array Value), #[rawInt pos.line, rawInt pos.col, .ref c'] = ps ++ more → (∀ b o, b ≠ P → s.heap.get? b = some o → h'.get? b = some o) → h'.get? P = some (tabObj #[rawInt pos.line, rawInt pos.col, .ref c']) → h'.get? c' = some oc → oc.cls = .type "code" → h'.CodeRec (.ref c') qual →
      Q (.ref h'.objs.size) { s with heap := h'.push { cls := .type "function", data := .func (innerFd name qual params body scope clos ((mg "__name__").getD .none) ctv c') }, toks := tk }) :
    wpAny M A (makeFunction name qual params (.stmts body) scope env [] [] [] pos firstLine) Q E s := by
  have hne : mainGlobals ≠ P := fun q => by
    obtain ⟨o, es, ep, e, d, _⟩ := hg
    rw [q, hP] at e; cases e; cases d
  obtain ⟨bm, ob, b1, b2, b3, b4, b5, b6⟩ := hb
  have hbP : bm ≠ P := fun q => by rw [q, hP] at b3; cases b3; cases b4
  rw [makeFunction_eq]
  simp only [List.zip_nil_right, List.filterMap_nil, List.isEmpty_nil, if_true, pure_bind]
  unfold makeTail
  rw [hcl]
  refine wpAny_bind (wpAny_pure ?_)
  refine tup_cases fun cv H k => ?_
  · dsimp only
    have C₁ := C.keeps k
    refine wpAny_bind (inner_code hcode C₁ (k _ _ hP) (hps.keeps k) fun c' oc h' tk more em kk e1 e2 e3 e4 => ?_)
    dsimp only at kk
    rw [hge0]
    have kk' : ∀ b o, b ≠ P → s.heap.get? b = some o → h'.get? b = some o := fun b o q e => kk b o q (k b o e)
    have hg' : h'.Ns mainGlobals mg := let ⟨o, es, ep, e, r⟩ := hg; ⟨o, es, ep, kk' _ _ hne e, r⟩
    refine wpAny_bind (wpAny_builtinsFor hg' b1 b2 (kk' _ _ hbP b3) b4 b5 b6 ?_)
    refine wpAny_bind (wpAny_nsGet hg' ?_)
    simp only [hdoc]
    exact wpAny_bind (wpAny_pure (wpAny_newObj_type (h c' oc _ h' tk more em kk' e1 e2 e3 e4) (by size_fits)))
end
end Mine
end

section
open PySem PySem.W PyProof.Rows
set_option Elab.async false
set_option tactic.hygienic false
set_option maxRecDepth 100000
set_option linter.unusedVariables false
namespace Mine

theorem TBf.but2 {name q : Str} {P P2 : Addr} {ps2 : Array Value} {h h' : Heap} (x : TBf name q P h) (hne : P ≠ P2) (h2 : h.get? P2 = some (tabObj ps2)) (hk : ∀ b o, b ≠ P2 → h.get? b = some o → h'.get? b = some o) : TBf name q P h' := by
  have hh : ∀ b o, h.get? b = some o → (∀ vs, o.data ≠ .fields vs) ∨ o.cls ≠ .none → h'.get? b = some o := fun b o e s => hk b o (fun q => by
    rw [q, h2] at e; cases e
    rcases s with s | s
    · exact s _ rfl
    · exact s rfl) e
  obtain ⟨mg, a, o, fd, c, ps, pos, ⟨om, es, ep, n1, n2, n3⟩, h1, h3, h4, h5, h6, ⟨oc, vs, file, tf, flags, tg, inF, text, tt, e1, e2, e3⟩, h7, h8⟩ := x
  refine ⟨mg, a, o, fd, c, ps, pos, ⟨om, es, ep, hh _ _ n1 (.inl fun zq e => by rw [n2] at e; cases e), n2, n3⟩, h1, hh _ _ h3 (.inl fun zq e => by rw [h4] at e; cases e), h4, h5, h6, ⟨oc, vs, file, tf, flags, tg, inF, text, tt, hh _ _ e1 (.inr fun e => by rw [e2] at e; cases e), e2, e3⟩, hk _ _ hne h7, ?_⟩
  refine h8.imp id fun z => ?_
  obtain ⟨c', o', k1, k2, k3, c₂, o₂, vs₂, t₂, k4, k5, k6, k7⟩ := z
  obtain rfl := Value.ref.inj k4
  obtain rfl := Option.some.inj (k2.symm.trans k5)
  have := hh _ _ k2 (.inr fun e => by rw [k3] at e; cases e)
  exact ⟨c', o', k1, this, k3, c', o', vs₂, t₂, rfl, this, k6, k7⟩

noncomputable def Which (name q : Str) : Prop := (name = "_int2digits" ∧ q = qDig) ∨ (name = "_digits2int" ∧ q = qInt)
theorem OldT.one {H h h' : Heap} {P Q Q' : Addr} {ps more : Array Value} (x : OldT Q Q' H h) (m : P = Q ∨ P = Q') (e0 : h.get? P = some (tabObj ps)) (e1 : h'.get? P = some (tabObj (ps ++ more))) (k : ∀ b o, b ≠ P → h.get? b = some o → h'.get? b = some o) : OldT Q Q' H h' := fun b o e t => by
  by_cases hb : b = P
  · subst hb
    rcases x b o e t with z | ⟨z, vs, m1, w, u⟩
    · rw [e0] at z; cases z
      exact .inr ⟨m, ps, more, rfl, e1⟩
    · rw [e0] at u
      have e3 : ps = vs ++ m1 := by simp only [tabObj, Option.some.injEq] at u; injection u with _ _ h3; injection h3
      subst e3
      exact .inr ⟨m, vs, m1 ++ more, w, by rw [e1, Array.append_assoc]⟩
  · rcases x b o e t with z | ⟨z, vs, m1, w, u⟩
    · exact .inl (k _ _ hb z)
    · exact .inr ⟨z, vs, m1, w, k _ _ hb u⟩
theorem TB.one {H h : Heap} {name q : Str} (x : TB H h) (w : Which name q) : ∃ P, TBf name q P h ∧ ∀ h' ps more, h.get? P = some (tabObj ps) → h'.get? P = some (tabObj (ps ++ more)) → (∀ b o, b ≠ P → h.get? b = some o → h'.get? b = some o) → TBf name q P h' → TB H h' := by
  obtain ⟨P, P', hne, a, b, c, d, t⟩ := x
  rcases w with ⟨rfl, rfl⟩ | ⟨rfl, rfl⟩
  · exact ⟨P, a, fun h' ps more e e1 k y => ⟨P, P', hne, y, b.but2 (Ne.symm hne) e k, c, d, t.one (.inl rfl) e e1 k⟩⟩
  · exact ⟨P', b, fun h' ps more e e1 k y => ⟨P, P', hne, a.but2 hne e k, y, c, d, t.one (.inr rfl) e e1 k⟩⟩

structure DefEnv (G : Gl) (name q : Str) (pos : Pos) (env : Env) : Prop where
  qual : qualnameIn env "inner" "inner" = q
  code : ∃ c a o fd, env.code = .ref c ∧ G.mg name = some (.ref a) ∧ G.h₀.get? a = some o ∧ o.data = .func fd ∧ fd.code = .ref c ∧ innerPos fd.body = some pos

section
variable {G : Gl} {W : Addr → Prop} {k : Nat} {names : List Str} {sc : List (Str × NameKind)} {A : Around} {s : Shared} {E : Value → Shared → Prop} {env : Env}

theorem def_inner {name q : Str} {params : Arguments} {ibody : List Stmt} {iscope : Scope} {pos : Pos} {cI : Addr} {ov : Option Value} (wh : Which name q) (de : DefEnv G name q pos env) (ef : EnvF env sc) (ba : Base G W s)
    (hexec : PlainDefTree "inner" params ibody iscope pos) (hdoc : docOf ibody = none) (hfree : ∀ y ∈ iscope.names, y.2 = .free → ∃ c, env.cells.lookup y.1 = some c)
    (hk : env.kindOf ("inner" : Str) = some .cell) (hc : env.cells.lookup ("inner" : Str) = some cI) (hi : s.heap.IsCell cI ov) (hw : W cI) {Q : Flow → Shared → Prop}
    (hQ : ∀ f of cl pm ctv c' oc h' tk, (∀ n c, cl.lookup n = some c → env.cells.lookup n = some c) → (∀ n, (n, NameKind.free) ∈ iscope.names → ∃ c, cl.lookup n = some c) →
      h'.get? f = some of → of.data = .func (innerFd "inner" q params ibody iscope cl pm ctv c') → s.heap.get? f = none → h'.IsCell cI (some (.ref f)) → h'.get? c' = some oc → oc.cls = .type "code" → h'.CodeRec (.ref c') q → TB G.start h' →
      (∀ b o, b ≠ cI → s.heap.get? b = some o → tabby o = false → h'.get? b = some o) → (∀ b, h'.get? b = none → s.heap.get? b = none) → Q .next { s with heap := h', toks := tk }) :
    wpAny G.M A (exec (.FunctionDef "inner" params ibody [] none [] iscope none "inner" pos) env) Q E s := by
  refine byG fun X hX => ?_
  obtain ⟨cl, hcl, hcl1, hcl2⟩ := closure_is hfree
  obtain ⟨P, tbf, back⟩ := ba.tb.one wh
  obtain ⟨c, a, o, fd, d1, d2, d3, d4, d5, d6⟩ := de.code
  have hg : s.heap.Ns mainGlobals G.mg := Ns.keepsK G.top.g ba.keep
  obtain ⟨mg', a', o', fd', c2, ps, pos', t1, t2, t3, t4, t5, t6, t7, t8, t9⟩ := tbf
  obtain rfl := Value.ref.inj (Option.some.inj (t2.symm.trans ((Ns.unique t1 hg name).trans d2)))
  obtain rfl := Option.some.inj (t3.symm.trans (ba.keep _ _ d3 (solid_func d4)))
  obtain rfl := Data.func.inj (t4.symm.trans d4)
  obtain rfl := Value.ref.inj (t5.symm.trans d5)
  obtain rfl := Option.some.inj (t6.symm.trans d6)
  obtain ⟨bm, ob, b1, b2, b3, b4, b5⟩ := G.top.bmain
  refine hX ?_
  clear hX
  rw [hexec, de.qual]
  refine wpAny_bind (wpAny_standAt (wpAny_bind (wpAny_holding (make_inner (mg := G.mg) hcl ef.globals hg d1 t7 t8 (t9.imp id fun ⟨c', o', k1, k2, k3, k4⟩ => ⟨c', o', k1, k2, k3, k4⟩) hdoc ⟨bm, ob, b1, b2, ba.keep _ _ b3 (solid_cls b4), b4, b5⟩ fun c' oc ctv h₁ tk more em kk e1 e2 e3 e4 => ?_))))
  have hcP : cI ≠ P := fun e => by obtain ⟨o, e5, e6⟩ := hi; rw [e, t8] at e5; cases e5; cases e6
  have k1 : ∀ b o, b ≠ P → s.heap.get? b = some o → (h₁.push { cls := .type "function", data := .func (innerFd "inner" q params ibody iscope cl ((G.mg "__name__").getD .none) ctv c') }).get? b = some o := fun b o q e => Heap.get?_push_of_some _ (kk b o q e)
  obtain ⟨H, hH⟩ : ∃ H, h₁.push { cls := .type "function", data := .func (innerFd "inner" q params ibody iscope cl ((G.mg "__name__").getD .none) ctv c') } = H := ⟨_, rfl⟩
  rw [hH] at k1 ⊢
  have hf : H.get? h₁.objs.size = some { cls := .type "function", data := .func (innerFd "inner" q params ibody iscope cl ((G.mg "__name__").getD .none) ctv c') } := by rw [← hH]; exact Heap.get?_push_size _ rfl
  have up : FKept h₁ H := fun b o e => by rw [← hH]; exact Heap.get?_push_of_some _ e
  have hns : s.heap.get? h₁.objs.size = none := by
    cases q : s.heap.get? h₁.objs.size with
    | none => rfl
    | some o =>
      by_cases hp : h₁.objs.size = P
      · have := Heap.lt_size e1; rw [← hp] at this; exact absurd this (Nat.lt_irrefl _)
      · exact absurd (Heap.lt_size (kk _ _ hp q)) (Nat.lt_irrefl _)
  have isI : H.IsCell cI ov := let ⟨o, a, b⟩ := hi; ⟨o, k1 _ _ hcP a, b⟩
  refine wpAny_bind (wpAny_standAt (wpAny_bind (wpAny_bindName (wpAny_storeName_cell ef.kind hk hc isI fun h' isc sb => wpAny_pure ?_))))
  dsimp only at sb
  have kI : ∀ b o, b ≠ cI → H.get? b = some o → h'.get? b = some o := fun b o q e => sb.extBut b o q e
  have k2 : ∀ b o, b ≠ cI → b ≠ P → s.heap.get? b = some o → h'.get? b = some o := fun b o q q' e => kI b o q (k1 b o q' e)
  have hfI : h₁.objs.size ≠ cI := fun e => by obtain ⟨o, e5, _⟩ := hi; rw [e, e5] at hns; cases hns
  have hcI' : c' ≠ cI := fun e => by
    obtain ⟨o, e5, e6⟩ := hi
    have := kk _ _ hcP e5
    rw [← e, e2] at this; cases this
    obtain ⟨_, _, vs, _, q1, q2, q3, _⟩ := e4
    cases q1; rw [e2] at q2; cases q2; rw [e6] at q3; cases q3
  have rec' : h'.CodeRec (.ref c') q := by
    obtain ⟨c2, o2, vs, t, q1, q2, q3⟩ := e4
    cases q1
    exact ⟨c', o2, vs, t, rfl, kI _ _ hcI' (up _ _ q2), q3⟩
  -- the tables
  have tbH : TB G.start H := by
    refine back H ps more t8 (by rw [← em]; exact up _ _ e1) k1 ⟨G.mg, _, _, _, _, _, _, ?_, d2, k1 _ _ (fun e => by rw [e, t8] at t3; cases t3; cases t4) t3, t4, t5, t6, ?_, up _ _ e1, .inr ⟨c', oc, rfl, up _ _ e2, e3, ?_⟩⟩
    · obtain ⟨om, es, ep, n1, n2, n3⟩ := hg
      exact ⟨om, es, ep, k1 _ _ (fun e => by rw [e, t8] at n1; cases n1; cases n2) n1, n2, n3⟩
    · obtain ⟨oc, vs, file, tf, flags, tg, inF, text, tt, q1, q2, q3⟩ := t7
      exact ⟨oc, vs, file, tf, flags, tg, inF, text, tt, k1 _ _ (fun e => by rw [e, t8] at q1; cases q1; cases q2) q1, q2, q3⟩
    · exact e4.keeps up
  obtain ⟨oI, eI, cI'⟩ := codey_cell isI
  have tb' : TB G.start h' := tbH.change kI (ba.notMain hw) eI cI'
  refine hQ h₁.objs.size _ cl _ ctv c' oc h' _ hcl1 hcl2 (kI _ _ hfI hf) rfl hns isc (kI _ _ hcI' (up _ _ e2)) e3 rec' tb' (fun b ob hb e hs => k2 b ob hb (fun q => by rw [q, t8] at e; cases e; cases hs) e) fun b e => ?_
  have g1 : H.get? b = none := none_but kI (by obtain ⟨o, e, _⟩ := isc; rw [e]; rfl) b e
  cases q : s.heap.get? b with
  | none => rfl
  | some o =>
    by_cases hp : b = P
    · rw [hp, up _ _ e1] at g1; cases g1
    · rw [k1 b o hp q] at g1; cases g1
end
end Mine
end

section
open PySem PySem.W PyProof.Rows
set_option Elab.async false
set_option tactic.hygienic false
set_option maxRecDepth 100000
set_option linter.unusedVariables false
namespace Mine
noncomputable def Chg (X : Addr → Prop) (s s' : Shared) : Prop := ∃ h tk, s' = { s with heap := h, toks := tk } ∧ (∀ b o, ¬ X b → s.heap.get? b = some o → tabby o = false → h.get? b = some o) ∧ (∀ b, h.get? b = none → s.heap.get? b = none) ∧ (∀ H, TB H s.heap → TB H h)
noncomputable abbrev NoW : Addr → Prop := fun zq => False
section
variable {G : Gl} {k : Nat} {names : List Str} {sc : List (Str × NameKind)} {A : Around} {E : Value → Shared → Prop} {env : Env} {X Y : Addr → Prop} {a b c s s' : Shared}
theorem Chg.refl (s : Shared) : Chg X s s := ⟨s.heap, s.toks, rfl, fun zq zq zq e zq => e, fun zq e => e, fun zq x => x⟩
theorem Chg.trans (x : Chg X a b) (y : Chg X b c) : Chg X a c := by
  obtain ⟨h, t, rfl, k, g, w⟩ := x
  obtain ⟨h', t', rfl, k', g', w'⟩ := y
  exact ⟨h', t', rfl, fun b o nx e s => k' b o nx (k b o nx e s) s, fun b e => g b (g' b e), fun H x => w' H (w H x)⟩
theorem Chg.mono (x : Chg X a b) (h : ∀ d, X d → Y d ∨ a.heap.get? d = none) : Chg Y a b := by
  obtain ⟨h', t, rfl, k, g, w⟩ := x
  exact ⟨h', t, rfl, fun d o ny e s => k d o (fun q => by
    rcases h d q with h | h
    · exact ny h
    · rw [h] at e; cases e) e s, g, w⟩
theorem Ext.chg (x : Ext a b) : Chg X a b := by obtain ⟨h, t, rfl, k, g, w⟩ := x; exact ⟨h, t, rfl, fun d o zq e s => k d o e s, g, w⟩
theorem Chg.ext (x : Chg NoW a b) : Ext a b := by obtain ⟨h, t, rfl, k, g, w⟩ := x; exact ⟨h, t, rfl, fun d o e s => k d o (fun q => q) e s, g, w⟩
theorem Chg.kept (x : Chg X a b) : ∀ d o, ¬ X d → a.heap.get? d = some o → tabby o = false → b.heap.get? d = some o := by obtain ⟨h, t, rfl, k, g, w⟩ := x; exact k
theorem Chg.gone (x : Chg X a b) {d : Addr} (e : b.heap.get? d = none) : a.heap.get? d = none := by obtain ⟨h, t, rfl, k, g, w⟩ := x; exact g d e
theorem Chg.tb {H : Heap} (x : Chg X a b) (t0 : TB H a.heap) : TB H b.heap := by obtain ⟨h, t, rfl, k, g, w⟩ := x; exact w H t0
theorem Chg.some (x : Chg X a b) {d : Addr} (e : (a.heap.get? d).isSome = true) : (b.heap.get? d).isSome = true := by
  cases q : b.heap.get? d with
  | none => rw [x.gone q] at e; cases e
  | some o => rfl
theorem Base.chg (ba : Base G NoW a) (x : Chg X a b) (hX : ∀ d, X d → G.h₀.get? d = none) : Base G NoW b :=
  ⟨fun d o e s => x.kept d o (fun q => by rw [hX d q] at e; cases e) (ba.keep d o e s) s, fun d e => ba.gone d (x.gone e), x.tb ba.tb, fun d w => w.elim⟩
theorem Base.noW {W : Addr → Prop} (ba : Base G W a) : Base G NoW a := ⟨ba.keep, ba.gone, ba.tb, fun d w => w.elim⟩

structure FR (env : Env) (names : List Str) (sl : List Slot) (h : Heap) : Prop where
  ns : ∃ m, h.Ns env.locals m
  rs : RS NoW env names sl h
  flat : ∀ (i : Nat) (sv : Slot), sl[i]? = some sv → sv = Slot.unset ∨ ∃ a : AV, sv = Slot.val a ∧ a.flat = true
theorem FR.store {sl : List Slot} {h h' : Heap} {i : Nat} {x : Str} {v : Value} {a : AV} {m : Str → Option Value} (fr : FR env names sl h) (nd : names.Nodup) (hx : names[i]? = some x) (hl : env.kindOf x = some .local) (hn : h.Ns env.locals m)
    (hn' : h'.Ns env.locals (fun y => if y = x then some v else m y)) (sb : Heap.SameBut env.locals h h') (ra : RepV NoW h' a v) (fl : a.flat = true) : FR env names (sl.set i (.val a)) h' where
  ns := ⟨_, hn'⟩
  rs := by
    intro j y sv hy hs hne
    rcases set_get hs with ⟨rfl, rfl⟩ | ⟨hij, hs⟩
    · rw [hx] at hy; cases hy
      refine ⟨_, .inl ⟨hl, _, hn', by simp⟩, v, rfl, ra, ?_⟩
      cases a <;> first | rfl | cases fl
    · obtain ⟨ov, l, r⟩ := fr.rs j y sv hy hs hne
      have hyx : y ≠ x := fun q => hij (nodup_idx nd hx (q ▸ hy))
      refine ⟨ov, ?_, ?_⟩
      · rcases l with ⟨q, m', n', e⟩ | ⟨q, c, hc, o, ho, hd⟩
        · refine .inl ⟨q, _, hn', ?_⟩
          simp only [if_neg hyx]
          rw [Ns.unique hn n' y]; exact e
        · exact .inr ⟨q, c, hc, o, sb.extBut _ _ (fun q => by obtain ⟨o', es, ep, e1, e2, _⟩ := hn; rw [← q, ho] at e1; cases e1; rw [hd] at e2; cases e2) ho, hd⟩
      · rcases fr.flat j sv hs with rfl | ⟨a', rfl, fa⟩
        · exact absurd rfl hne
        · obtain ⟨u, e, ru, f⟩ := r
          exact ⟨u, e, (by cases a' <;> first | exact ru | cases fa), f⟩
  flat := by
    intro j sv hs
    rcases set_get hs with ⟨rfl, rfl⟩ | ⟨_, hs⟩
    · exact .inr ⟨a, rfl, fl⟩
    · exact fr.flat j sv hs
theorem FR.move {sl : List Slot} {h h' : Heap} (fr : FR env names sl h) (kk : ∀ b o, (∀ xs n, o.data ≠ .seq xs n) → tabby o = false → h.get? b = some o → h'.get? b = some o) : FR env names sl h' where
  ns := let ⟨m, o, es, ep, e, d, r⟩ := fr.ns; ⟨m, o, es, ep, kk _ _ (fun zq zq q => by rw [d] at q; cases q) (solid_dict d) e, d, r⟩
  rs := by
    intro j y sv hy hs hne
    obtain ⟨ov, l, r⟩ := fr.rs j y sv hy hs hne
    refine ⟨ov, ?_, ?_⟩
    · rcases l with ⟨q, m, ⟨o, es, ep, e, d, rr⟩, e'⟩ | ⟨q, c, hc, o, ho, hd⟩
      · exact .inl ⟨q, m, ⟨o, es, ep, kk _ _ (fun zq zq q => by rw [d] at q; cases q) (solid_dict d) e, d, rr⟩, e'⟩
      · exact .inr ⟨q, c, hc, o, kk _ _ (fun zq zq q => by rw [hd] at q; cases q) (solid_cell hd) ho, hd⟩
    · rcases fr.flat j sv hs with rfl | ⟨a', rfl, fa⟩
      · exact absurd rfl hne
      · obtain ⟨u, e, ru, f⟩ := r
        exact ⟨u, e, (by cases a' <;> first | exact ru | cases fa), f⟩
  flat := fr.flat
theorem FR.ext {sl : List Slot} (fr : FR env names sl a.heap) (x : Ext a b) : FR env names sl b.heap := fr.move fun d o zq s e => x.kept d o e s
theorem FR.assign {sl : List Slot} {f : List Slot → Option AV} {av : AV} {i : Nat} {x : Str} {p q : Pos} {e : Expr} {Q : Flow → Shared → Prop} (ro : Room A k) (ef : EnvF env sc) (ba : Base G NoW s) (fr : FR env names sl s.heap) (nd : names.Nodup)
    (hx : names[i]? = some x) (hl : sc.lookup x = some .local) (he : EvS G NoW k names sc e f) (hs : ∀ env, swapsWith e (some (.Name x p)) q.line env = pure false) (hL : G.h₀.get? env.locals = none) (hf : f sl = some av) (fl : av.flat = true)
    (hQ : ∀ s', Chg (· = env.locals) s s' → FR env names (sl.set i (.val av)) s'.heap → Q .next s') : wpAny G.M A (exec (.Assign [.Name x p] e q) env) Q (fun zq zq => False) s := by
  refine wpAny_Assign_Name (he A env s sl ro ef fr.rs ba av hf _ fun v s₁ x₁ r₁ => ?_) (hs env)
  have fr₁ := fr.ext x₁
  obtain ⟨m, hn⟩ := fr₁.ns
  have hl' : env.kindOf x = some .local := by unfold Env.kindOf; rw [ef.names]; exact hl
  refine wpAny_storeName_local hl' hn (fun h' hn' sb => ?_) (by rw [ef.kind]; rfl)
  have tb₁ := x₁.tb ba.tb
  obtain ⟨o, e1, c1⟩ := codey_ns hn
  have kk : ∀ b o, b ≠ env.locals → s₁.heap.get? b = some o → h'.get? b = some o := fun b o hb e => sb.extBut b o hb e
  have hM : env.locals ≠ mainGlobals := fun q => by
    obtain ⟨o, es, ep, e, _⟩ := G.top.g
    rw [← q, hL] at e; cases e
  refine hQ _ ((Ext.chg x₁).trans ⟨h', _, rfl, fun b o hb e zq => kk b o hb e, none_but kk (by obtain ⟨o, e, _⟩ := codey_ns hn'; rw [e]; rfl), fun zq t => t.change kk hM e1 c1⟩) ?_
  refine fr₁.store nd hx hl' hn hn' sb ?_ fl
  cases av <;> first | exact r₁ | cases fl
end
end Mine
end

section
open PySem PySem.W PyProof.Rows
set_option Elab.async false
set_option tactic.hygienic false
set_option maxRecDepth 100000
set_option linter.unusedVariables false
namespace Mine
noncomputable abbrev iNames : List Str := ["x", "L", "R", "mid", "shift", "upper", "lower", "n"]
noncomputable abbrev iSc : List (Str × NameKind) := [("x", .local), ("L", .local), ("R", .local), ("mid", .local), ("shift", .local), ("upper", .local), ("lower", .local), ("a_digits", .free), ("inner", .free), ("n", .free)]
set_option autoImplicit true in
inductive IsI2D : List Stmt → Prop
  | mk : IsI2D [
      .If (.Compare (.BinOp (.Name "L" p1) .Add (.Constant (.int 1) k1 p2) p3) [.Eq] [.Name "R" p4] p5) [.Assign [.Subscript (.Name "a_digits" p6) (.Name "L" p7) p8] (.Name "x" p9) p10, .Return none p11] [] p12,
      .Assign [.Name "mid" p13] (.BinOp (.BinOp (.Name "L" p14) .Add (.Name "R" p15) p16) .RShift (.Constant (.int 1) k2 p17) p18) p19,
      .Assign [.Name "shift" p20] (.BinOp (.BinOp (.Name "mid" p21) .Sub (.Name "L" p22) p23) .Mult (.Name "n" p24) p25) p26,
      .Assign [.Name "upper" p27] (.BinOp (.Name "x" p28) .RShift (.Name "shift" p29) p30) p31,
      .Assign [.Name "lower" p32] (.BinOp (.Name "x" p33) .BitXor (.BinOp (.Name "upper" p34) .LShift (.Name "shift" p35) p36) p37) p38,
      .Expr (.Call (.Name "inner" p39) [.Name "lower" p40, .Name "L" p41, .Name "mid" p42] [] p43) p44,
      .Expr (.Call (.Name "inner" p45) [.Name "upper" p46, .Name "mid" p47, .Name "R" p48] [] p49) p50]

structure InS (h : Heap) (q : Str) (params : Arguments) (ibody : List Stmt) (iscope : Scope) (f : Addr) (cl : List (Str × Addr)) (cs : List (Str × Value)) : Prop where
  fn : ∃ of pm ctv c' oc, h.get? f = some of ∧ of.data = .func (innerFd "inner" q params ibody iscope cl pm ctv c') ∧ h.get? c' = some oc ∧ oc.cls = .type "code" ∧ h.CodeRec (.ref c') q
  cells : ∀ x v, cs.lookup x = some v → ∃ c, cl.lookup x = some c ∧ h.IsCell c (some v)
theorem InS.move {h h' : Heap} {q params ibody iscope f cl cs} (x : InS h q params ibody iscope f cl cs) (kk : ∀ b o, (∀ xs n, o.data ≠ .seq xs n) → tabby o = false → h.get? b = some o → h'.get? b = some o) : InS h' q params ibody iscope f cl cs where
  fn := by
    obtain ⟨of, pm, ctv, c', oc, e1, e2, e3, e4, c2, o2, vs, t, q1, q2, q3, q4⟩ := x.fn
    cases q1
    rw [e3] at q2; cases q2
    have := kk _ _ (fun zq zq q => by rw [q3] at q; cases q) (solid_cls e4) e3
    exact ⟨of, pm, ctv, c', oc, kk _ _ (fun zq zq q => by rw [e2] at q; cases q) (solid_func e2) e1, e2, this, e4, c', oc, vs, t, rfl, this, q3, q4⟩
  cells := fun y v hv => let ⟨c, e, o, ho, hd⟩ := x.cells y v hv; ⟨c, e, o, kk _ _ (fun zq zq q => by rw [hd] at q; cases q) (solid_cell hd) ho, hd⟩
theorem chg_nonseq {D : Addr} {a b : Shared} (x : Chg (· = D) a b) {us : Array Value} (hD : a.heap.PlainList D us) : ∀ d o, (∀ xs n, o.data ≠ .seq xs n) → tabby o = false → a.heap.get? d = some o → b.heap.get? d = some o := fun d o hs s e =>
  x.kept d o (fun q => by obtain ⟨n, e'⟩ := hD; rw [q, e'] at e; cases e; exact hs _ _ rfl) e s
noncomputable abbrev intL (ds : List Int) : List AV := ds.map .int
theorem RepL.intL_any {W W' : Addr → Prop} {h h' : Heap} : ∀ {ds : List Int} {vs : List Value}, RepL W h (intL ds) vs → RepL W' h' (intL ds) vs
  | [], _, r => r
  | d :: ds, _, ⟨v, q, e, a, b⟩ => ⟨v, q, e, a, RepL.intL_any b⟩
theorem RepL.intL_set {W : Addr → Prop} {h : Heap} {ds : List Int} {vs : List Value} {j : Nat} {x : Int} {t : Tok} (r : RepL W h (intL ds) vs) : RepL W h (intL (ds.set j x)) (vs.set j (.int x t)) := by
  rw [show intL (ds.set j x) = (intL ds).set j (.int x) from List.map_set]
  exact r.set j ⟨t, rfl⟩

section
variable {G : Gl} {A : Around} {s : Shared} {E : Value → Shared → Prop} {q : Str} {params : Arguments} {ibody : List Stmt} {iscope : Scope} {f : Addr} {cl : List (Str × Addr)}

theorem i2d_mid (L R : Nat) : ((L : Int) + (R : Int)).fdiv (2 ^ (1 : Int).toNat) = (((L + R) / 2 : Nat) : Int) := by
  rw [show (2 : Int) ^ (1 : Int).toNat = ((2 : Nat) : Int) from rfl, Int.fdiv_eq_ediv_of_nonneg _ (Int.natCast_nonneg _), ← Int.natCast_add, ← Int.natCast_ediv]
theorem i2d_rsh (x s : Nat) : (x : Int).fdiv (2 ^ ((s : Nat) : Int).toNat) = ((x / 2 ^ s : Nat) : Int) := by
  rw [Int.toNat_natCast, Int.fdiv_eq_ediv_of_nonneg _ (by exact_mod_cast Nat.zero_le (2 ^ s)), Int.natCast_ediv, Int.natCast_pow]; rfl
theorem small_of_lt {a : Nat} {k : Nat} (h : a < 2 ^ k) (hk : k ≤ 4000) : small (a : Int) = true := by
  unfold small BIG
  refine decide_eq_true ?_
  show a < _
  exact Nat.lt_of_lt_of_le h (Nat.pow_le_pow_right (by decide) hk)
theorem small_nat {a : Nat} (h : a < 10000000) : small (a : Int) = true := small_of_lt (k := 24) (Nat.lt_of_lt_of_le h (by decide)) (by decide)
theorem chg_list {a : Shared} {h' : Heap} {D : Addr} {us us' : Array Value} (hD : a.heap.PlainList D us) (hD' : h'.PlainList D us') (sb : Heap.SameBut D a.heap h') (hM : D ≠ mainGlobals) {tk : Nat} : Chg (· = D) a { a with heap := h', toks := tk } := by
  obtain ⟨o, e, c⟩ := codey_list hD
  exact ⟨h', tk, rfl, fun b o hb e zq => sb.extBut b o hb e, none_but (fun b o hb e => sb.extBut b o hb e) (by obtain ⟨n, e⟩ := hD'; rw [e]; rfl), fun zq t => t.change (fun b o hb e => sb.extBut b o hb e) hM e c⟩
theorem i2d_lists {ds : List Int} {L a b : Nat} {l u : List Int} (hl : l.length = a) (hu : u.length = b) (h : L + (a + b) ≤ ds.length) :
    ((ds.take L ++ l ++ ds.drop (L + a)).take (L + a) ++ u ++ (ds.take L ++ l ++ ds.drop (L + a)).drop (L + a + b)) = ds.take L ++ (l ++ u) ++ ds.drop (L + (a + b)) := by
  have h1 : (ds.take L ++ l).length = L + a := by rw [List.length_append, List.length_take, hl]; lia
  rw [List.take_left' h1, List.drop_append, List.drop_eq_nil_of_le (by lia), h1, List.drop_drop]
  simp only [List.nil_append, List.append_assoc]
  congr 4
  lia

theorem i2d_sh (L : Nat) {n a : Nat} (ha : a < 10000000) (hn : n < 10000000) : (intBin .Mult (((L + a : Nat) : Int) - (L : Int)) (n : Int)).map AV.int = some (AV.int ((n * a : Nat) : Int)) := by
  rw [show (((L + a : Nat) : Int) - (L : Int)) = ((a : Nat) : Int) by lia]
  show (if (small (a : Int) && small (n : Int)) = true then some ((a : Int) * (n : Int)) else none).map AV.int = _
  rw [if_pos (by rw [small_nat ha, small_nat hn]; rfl)]
  show some (AV.int ((a : Int) * (n : Int))) = _
  rw [Int.mul_comm, ← Int.natCast_mul]
theorem i2d_up (x d : Nat) : (intBin .RShift (x : Int) (d : Int)).map AV.int = some (AV.int ((x / 2 ^ d : Nat) : Int)) := by
  show (if (0 : Int) ≤ (d : Int) then some ((x : Int).fdiv (2 ^ ((d : Int)).toNat)) else none).map AV.int = _
  rw [if_pos (Int.natCast_nonneg _), i2d_rsh]; rfl
theorem i2d_lo {x d K : Nat} (hx : x < 2 ^ K) (hK : K ≤ 4000) (hd : d < 10000000) : ((intBin .LShift ((x / 2 ^ d : Nat) : Int) (d : Int)).map AV.int).bind (fun b => binV .BitXor (.int x) b) = some (AV.int ((x % 2 ^ d : Nat) : Int)) := by
  show ((if (small ((x / 2 ^ d : Nat) : Int) && decide ((0 : Int) ≤ (d : Int)) && decide ((d : Int) < 10000000)) = true then some (((x / 2 ^ d : Nat) : Int) * 2 ^ ((d : Int)).toNat) else none).map AV.int).bind (fun b => binV .BitXor (.int x) b) = _
  rw [if_pos (by rw [small_of_lt (Nat.lt_of_le_of_lt (Nat.div_le_self _ _) hx) hK, decide_eq_true (Int.natCast_nonneg _), decide_eq_true (by lia)]; rfl)]
  show some (AV.int (Builtin.bitXor (x : Int) (((x / 2 ^ d : Nat) : Int) * 2 ^ ((d : Int)).toNat))) = _
  rw [Int.toNat_natCast, show ((x / 2 ^ d : Nat) : Int) * 2 ^ d = ((x / 2 ^ d * 2 ^ d : Nat) : Int) by rw [Int.natCast_mul, Int.natCast_pow]; rfl, bitXor_low]
structure ICx (G : Gl) (A : Around) (env : Env) (k : Nat) (sc : List (Str × NameKind)) (s : Shared) : Prop where
  ro : Room A k
  ef : EnvF env sc
  hL : G.h₀.get? env.locals = none
  ba : Base G NoW s
noncomputable def nI (n : Nat) : Slot := .val (.int (n : Int))
noncomputable def iS (x L R : Nat) (mid sh up lo : Slot) (n : Nat) : List Slot := [nI x, nI L, nI R, mid, sh, up, lo, nI n]
noncomputable def Nx (G : Gl) (A : Around) (env : Env) (names : List Str) (st : Stmt) (s : Shared) (sl : List Slot) : Prop := ∀ Q : Flow → Shared → Prop, (∀ s', Chg (· = env.locals) s s' → FR env names sl s'.heap → Q .next s') → wpAny G.M A (exec st env) Q (fun zq zq => False) s
theorem Nx.cons {env : Env} {names : List Str} {st : Stmt} {rest : List Stmt} {sl : List Slot} {P : Flow → Shared → Prop} (h : Nx G A env names st s sl) (hr : ∀ s', Chg (· = env.locals) s s' → FR env names sl s'.heap → wpAny G.M A (execs rest env) P (fun zq zq => False) s') : wpAny G.M A (execs (st :: rest) env) P (fun zq zq => False) s :=
  wpAny_execs_cons (h _ fun s' c r => hr s' c r)
noncomputable def CallI (G : Gl) (A : Around) (env : Env) (st : Stmt) (s : Shared) (a b c : Nat) : Prop := ∀ (cI f : Addr) (of : Obj) (fd : FuncData) (P : Flow → Shared → Prop), env.cells.lookup ("inner" : Str) = some cI → s.heap.IsCell cI (some (.ref f)) → s.heap.get? f = some of → of.data = .func fd →
  (∀ s' ta tb tc, Ext s s' → wpAny G.M A (call (.ref f) [.int a ta, .int b tb, .int c tc]) (fun v s'' => v = .none ∧ P .next s'') (fun zq zq => False) s') → wpAny G.M A (exec st env) P (fun zq zq => False) s
theorem callI {env : Env} {k : Nat} {sl : List Slot} {p p2 p3 : Pos} {e1 e2 e3 : Expr} {a b c : Nat} {f1 f2 f3 : List Slot → Option AV} (cx : ICx G A env k iSc s) (fr : FR env iNames sl s.heap) (h1 : EvS G NoW k iNames iSc e1 f1) (h2 : EvS G NoW k iNames iSc e2 f2) (h3 : EvS G NoW k iNames iSc e3 f3)
    (n1 : notStar e1 = true) (n2 : notStar e2 = true) (n3 : notStar e3 = true) (q1 : f1 sl = some (.int a)) (q2 : f2 sl = some (.int b)) (q3 : f3 sl = some (.int c)) : CallI G A env (.Expr (.Call (.Name "inner" p) [e1, e2, e3] [] p2) p3) s a b c := by
  intro cI f of fd P dI iI hf hd hP
  have hni : interactive env = false := by unfold interactive; rw [cx.ef.kind]; rfl
  have kI : env.kindOf ("inner" : Str) = some .free := by unfold Env.kindOf; rw [cx.ef.names]; rfl
  refine wpAny_Expr (Call_ (wpAny_Name (wpAny_loadName_free cx.ef.kind kI dI iI (callWith_def hd ((EvL.cons h1 (EvL.cons h2 (EvL.cons h3 EvL.nil n3) n2) n1).2 A env s _ _ cx.ro cx.ef fr.rs cx.ba [.int a, .int b, .int c] (by simp [consV, q1, q2, q3]) _ fun vs s' x' r' => ⟨x'.kept f of hf (solid_func hd), ?_⟩) (starEach_cons n1))) (by decide +kernel))) hni
  obtain ⟨v1, _, rfl, ⟨ta, rfl⟩, v2, _, rfl, ⟨tb, rfl⟩, v3, _, rfl, ⟨tc, rfl⟩, rfl⟩ := r'
  exact wpAny_mono (hP s' ta tb tc x') (fun v zq h => by obtain ⟨rfl, h⟩ := h; exact h) fun zq zq f => f
structure I2D (s0 s1 s2 s3 s4 s5 s6 : Stmt) : Prop where
  if0 : ∀ {G A env k s x L R n}, ICx G A env k iSc s → FR env iNames (iS x L R .unset .unset .unset .unset n) s.heap → ∀ (cD D : Addr) (us : List Value) (P : Flow → Shared → Prop), env.cells.lookup ("a_digits" : Str) = some cD → s.heap.IsCell cD (some (.ref D)) → s.heap.PlainList D us.toArray → L < us.length → us.length < 1000000 → D ≠ mainGlobals →
    (L + 1 = R → ∀ s' tv, Chg (· = D) s s' → s'.heap.PlainList D (us.set L (.int x tv)).toArray → P (.ret .none) s') → (L + 1 ≠ R → ∀ s', Ext s s' → P .next s') → wpAny G.M A (exec s0 env) P (fun zq zq => False) s
  mid : ∀ {G A env k s x L R n}, ICx G A env k iSc s → FR env iNames (iS x L R .unset .unset .unset .unset n) s.heap → Nx G A env iNames s1 s (iS x L R (nI ((L + R) / 2)) .unset .unset .unset n)
  sh : ∀ {G A env k s x L R n a}, ICx G A env k iSc s → FR env iNames (iS x L R (nI (L + a)) .unset .unset .unset n) s.heap → a < 10000000 → n < 10000000 → Nx G A env iNames s2 s (iS x L R (nI (L + a)) (nI (n * a)) .unset .unset n)
  up : ∀ {G A env k s x L R n mid d}, ICx G A env k iSc s → FR env iNames (iS x L R mid (nI d) .unset .unset n) s.heap → Nx G A env iNames s3 s (iS x L R mid (nI d) (nI (x / 2 ^ d)) .unset n)
  lo : ∀ {G A env k s x L R n mid d K}, ICx G A env k iSc s → FR env iNames (iS x L R mid (nI d) (nI (x / 2 ^ d)) .unset n) s.heap → x < 2 ^ K → K ≤ 4000 → d < 10000000 → Nx G A env iNames s4 s (iS x L R mid (nI d) (nI (x / 2 ^ d)) (nI (x % 2 ^ d)) n)
  c1 : ∀ {G A env k s x L R n mid sh up lo}, ICx G A env k iSc s → FR env iNames (iS x L R (nI mid) sh up (nI lo) n) s.heap → CallI G A env s5 s lo L mid
  c2 : ∀ {G A env k s x L R n mid sh up lo}, ICx G A env k iSc s → FR env iNames (iS x L R (nI mid) sh (nI up) lo n) s.heap → CallI G A env s6 s up mid R
theorem iNd : iNames.Nodup := by decide +kernel
theorem i2d_f0 {env : Env} {k x L R n : Nat} {p1 p2 p3 p4 p5 p6 p7 p8 p9 p10 p11 p12 : Pos} {k1 : Nat} (cx : ICx G A env k iSc s) (fr : FR env iNames (iS x L R .unset .unset .unset .unset n) s.heap) (cD D : Addr) (us : List Value) (P : Flow → Shared → Prop) (dD : env.cells.lookup ("a_digits" : Str) = some cD) (iD : s.heap.IsCell cD (some (.ref D))) (hpl : s.heap.PlainList D us.toArray) (hL : L < us.length) (hlen : us.length < 1000000) (hDM : D ≠ mainGlobals)
    (hb : L + 1 = R → ∀ s' tv, Chg (· = D) s s' → s'.heap.PlainList D (us.set L (.int x tv)).toArray → P (.ret .none) s') (hn : L + 1 ≠ R → ∀ s', Ext s s' → P .next s') :
    wpAny G.M A (exec (.If (.Compare (.BinOp (.Name "L" p1) .Add (.Constant (.int 1) k1 p2) p3) [.Eq] [.Name "R" p4] p5) [.Assign [.Subscript (.Name "a_digits" p6) (.Name "L" p7) p8] (.Name "x" p9) p10, .Return none p11] [] p12) env) P (fun zq zq => False) s := by
  refine wpAny_If ((TsS.cmp (EvS.bin (EvS.var (i := 1) (by rfl) (by decide +kernel) (by decide +kernel)) EvS.int) (EvS.var (i := 2) (by rfl) (by decide +kernel) (by decide +kernel)) (by rfl)) A env s _ cx.ro cx.ef fr.rs cx.ba (.bool ((L : Int) + 1 == (R : Int))) ((L : Int) + 1 == (R : Int)) rfl rfl _ fun s₂ x₂ => ?_)
  by_cases h : L + 1 = R
  · rw [if_pos (by subst h; simp)]
    have fr₂ := fr.ext x₂
    refine wpAny_execs_cons (wpAny_Assign_Subscript ((EvS.var (i := 0) (by rfl) (by decide +kernel) (by decide +kernel)) A env s₂ _ cx.ro cx.ef fr₂.rs (cx.ba.ext x₂) (.int x) rfl _ fun v s₃ x₃ r₃ => ?_) rfl)
    obtain ⟨tv, rfl⟩ := r₃
    have x₃ := x₂.trans x₃
    refine wpAny_Name (wpAny_loadName_free cx.ef.kind (by unfold Env.kindOf; rw [cx.ef.names]; rfl) dD (IsCell.keepsK iD x₃.kept) ?_) (by decide +kernel)
    refine (EvS.var (i := 1) (by rfl) (by decide +kernel) (by decide +kernel)) A env s₃ _ cx.ro cx.ef (fr.ext x₃).rs (cx.ba.ext x₃) (.int L) rfl _ fun v s₄ x₄ r₄ => ?_
    obtain ⟨tw, rfl⟩ := r₄
    have x₄ := x₃.trans x₄
    have hpl₄ := PlainList.grow x₄.kept hpl
    refine setItem_plain hpl₄ (by lia) (by lia) (by rw [List.size_toArray]; lia) fun h' hpl' sb => ?_
    refine wpAny_execs_cons ?_
    rw [exec_Return_none]
    exact wpAny_bind (wpAny_standAt (wpAny_pure (hb h _ tv ((Ext.chg x₄).trans (chg_list (tk := s₄.toks) hpl₄ hpl' sb hDM)) (by simpa using hpl'))))
  · rw [if_neg (by rw [beq_iff_eq]; lia)]
    exact wpAny_execs_nil (hn h _ x₂)
theorem i2d_facts {b : List Stmt} (hb : IsI2D b) : ∃ s0 s1 s2 s3 s4 s5 s6, b = [s0, s1, s2, s3, s4, s5, s6] ∧ I2D s0 s1 s2 s3 s4 s5 s6 := by
  cases hb
  refine ⟨_, _, _, _, _, _, _, rfl, ⟨i2d_f0, ?_, ?_, ?_, ?_, ?_, ?_⟩⟩
  · intro G A env k s x L R n cx fr Q hQ
    exact FR.assign (i := 3) (av := .int (((L + R) / 2 : Nat) : Int)) cx.ro cx.ef cx.ba fr iNd (by rfl) (by rfl) (EvS.bin (EvS.bin (EvS.var (i := 1) (by rfl) (by decide +kernel) (by decide +kernel)) (EvS.var (i := 2) (by rfl) (by decide +kernel) (by decide +kernel))) EvS.int) (fun zq => rfl) cx.hL
      (by show some (AV.int (((L : Int) + (R : Int)).fdiv (2 ^ (1 : Int).toNat))) = _
          rw [i2d_mid]) rfl hQ
  · intro G A env k s x L R n a cx fr ha hn Q hQ
    exact FR.assign (i := 4) (av := .int ((n * a : Nat) : Int)) cx.ro cx.ef cx.ba fr iNd (by rfl) (by rfl) (EvS.bin (EvS.bin (EvS.var (i := 3) (by rfl) (by decide +kernel) (by decide +kernel)) (EvS.var (i := 1) (by rfl) (by decide +kernel) (by decide +kernel))) (EvS.var (i := 7) (by rfl) (by decide +kernel) (by decide +kernel))) (fun zq => rfl) cx.hL (i2d_sh L ha hn) rfl hQ
  · intro G A env k s x L R n mid d cx fr Q hQ
    exact FR.assign (i := 5) (av := .int ((x / 2 ^ d : Nat) : Int)) cx.ro cx.ef cx.ba fr iNd (by rfl) (by rfl) (EvS.bin (EvS.var (i := 0) (by rfl) (by decide +kernel) (by decide +kernel)) (EvS.var (i := 4) (by rfl) (by decide +kernel) (by decide +kernel))) (fun zq => rfl) cx.hL (i2d_up x d) rfl hQ
  · intro G A env k s x L R n mid d K cx fr hx hK hd Q hQ
    exact FR.assign (i := 6) (av := .int ((x % 2 ^ d : Nat) : Int)) cx.ro cx.ef cx.ba fr iNd (by rfl) (by rfl) (EvS.bin (EvS.var (i := 0) (by rfl) (by decide +kernel) (by decide +kernel)) (EvS.bin (EvS.var (i := 5) (by rfl) (by decide +kernel) (by decide +kernel)) (EvS.var (i := 4) (by rfl) (by decide +kernel) (by decide +kernel)))) (fun zq => rfl) cx.hL (i2d_lo hx hK hd) rfl hQ
  · intro G A env k s x L R n mid sh up lo cx fr
    exact callI cx fr (EvS.var (i := 6) (by rfl) (by decide +kernel) (by decide +kernel)) (EvS.var (i := 1) (by rfl) (by decide +kernel) (by decide +kernel)) (EvS.var (i := 3) (by rfl) (by decide +kernel) (by decide +kernel)) (by rfl) (by rfl) (by rfl) rfl rfl rfl
  · intro G A env k s x L R n mid sh up lo cx fr
    exact callI cx fr (EvS.var (i := 5) (by rfl) (by decide +kernel) (by decide +kernel)) (EvS.var (i := 3) (by rfl) (by decide +kernel) (by decide +kernel)) (EvS.var (i := 2) (by rfl) (by decide +kernel) (by decide +kernel)) (by rfl) (by rfl) (by rfl) rfl rfl rfl
theorem firm_of_flat {a : AV} (h : a.flat = true) : a.firm = true := by cases a <;> first | rfl | cases h
noncomputable def FS (env : Env) (h : Heap) (y : Str) (sv : Slot) : Prop := sv = .unset ∨ ∃ v a, sv = .val a ∧ a.flat = true ∧ Loads env h y (some v) ∧ RepV NoW h a v
theorem FR.of {env : Env} {names : List Str} {sl : List Slot} {h : Heap} {m : Str → Option Value} (ns : h.Ns env.locals m) (hf : ∀ p ∈ names.zip sl, FS env h p.1 p.2) (hl : sl.length ≤ names.length) : FR env names sl h := by
  refine ⟨⟨m, ns⟩, fun i y sv hy hs hne => ?_, fun i sv hs => ?_⟩
  · rcases hf (y, sv) (List.mem_of_getElem? (i := i) (by rw [List.getElem?_zip_eq_some]; exact ⟨hy, hs⟩)) with e | ⟨v, a, e, fa, l, r⟩
    · exact absurd e hne
    · exact ⟨_, l, (show sv = .val a from e) ▸ ⟨v, rfl, r, firm_of_flat fa⟩⟩
  · have hi := (List.getElem?_eq_some_iff.mp hs).1
    have hy : names[i]? = some names[i] := List.getElem?_eq_getElem (Nat.lt_of_lt_of_le hi hl)
    rcases hf (names[i], sv) (List.mem_of_getElem? (i := i) (by rw [List.getElem?_zip_eq_some]; exact ⟨hy, hs⟩)) with e | ⟨v, a, e, fa, _⟩
    · exact .inl e
    · exact .inr ⟨a, e, fa⟩
theorem FS.int {env : Env} {h : Heap} {y : Str} {z : Int} {t : Tok} (l : Loads env h y (some (.int z t))) : FS env h y (.val (.int z)) := .inr ⟨_, _, rfl, rfl, l, t, rfl⟩
theorem i2d_run (n : Nat) (hn1 : 1 ≤ n) (hb : IsI2D ibody) (hsc : iscope.names = iSc) (hco : iscope.isCoroutine = false) (hgen : iscope.isGenerator = false) (hfk : iscope.kind = .function)
    (hbind : ∀ (cl : List (Str × Addr)) (pm ctv : Value) (c' : Addr) (a b c : Value), bindArgs (innerFd "inner" q params ibody iscope cl pm ctv c') ⟨[a, b, c], []⟩ = pure ((["x", "L", "R"] : List Str).zip [a, b, c])) :
    ∀ m : Nat, 1 ≤ m → n * m ≤ 4000 → ∀ (A : Around) (s : Shared) (G : Gl) (D : Addr) (ds : List Int) (us : List Value) (L x : Nat) (tn t1 t2 t3 : Tok), Room A m → Base G NoW s → G.h₀.get? D = none →
      InS s.heap q params ibody iscope f cl [("a_digits", .ref D), ("inner", .ref f), ("n", .int n tn)] → s.heap.PlainList D us.toArray → RepL NoW s.heap (intL ds) us → L + m ≤ ds.length → ds.length < 1000000 → x < 2 ^ (n * m) →
      ∀ Q : Value → Shared → Prop, (∀ s' us', Chg (· = D) s s' → s'.heap.PlainList D (List.toArray us') → RepL NoW s'.heap (intL (ds.take L ++ (dgs n m x).map Int.ofNat ++ ds.drop (L + m))) us' → Q .none s') →
      wpAny G.M A (call (.ref f) [.int x t1, .int L t2, .int ((L + m : Nat) : Int) t3]) Q (fun zq zq => False) s := by
  intro m
  induction m using Nat.strongRecOn with
  | ind m ih =>
  intro hm hnm A s G D ds us L x tn t1 t2 t3 ro ba hD0 ins hpl hrl hle hlen hx Q hQ
  obtain ⟨of, pm, ctv, c', oc, e1, e2, e3, e4, e5⟩ := ins.fn
  obtain ⟨k, rfl⟩ : ∃ k, m = k + 1 := ⟨m - 1, by lia⟩
  obtain ⟨s0, s1, s2, s3, s4, s5, s6, hbe, F⟩ := i2d_facts hb
  refine wpAny_call (codeAny_call_plain (binds := (["x", "L", "R"] : List Str).zip [.int x t1, .int L t2, .int ((L + (k + 1) : Nat) : Int) t3]) ro.limit e1 e2 (NoLimit.keepsK G.top.nolimit ba.keep) e5 rfl (hbind _ _ _ _ _ _ _) ?_ ?_ (fun h₀ hns hk => ?_) hco hgen hfk)
  · show ∀ y ∈ iscope.names, y.2 ≠ .cell
    rw [hsc]; decide +kernel
  · show ∀ y ∈ (["x", "L", "R"] : List Str).zip [Value.int x t1, .int L t2, .int ((L + (k + 1) : Nat) : Int) t3], iscope.names.lookup y.1 = some .local
    rw [hsc]
    intro y hy
    simp only [List.zip_cons_cons, List.zip_nil_right, List.mem_cons, List.not_mem_nil, or_false] at hy
    rcases hy with rfl | rfl | rfl <;> rfl
  obtain ⟨env, hE⟩ : ∃ env, callEnv (innerFd "inner" q params ibody iscope cl pm ctv c') s.heap.objs.size f = env := ⟨_, rfl⟩
  rw [hE]
  have eL : env.locals = s.heap.objs.size := by rw [← hE]; rfl
  have eC : env.cells = cl := by rw [← hE]; rfl
  have eK : ∀ y, env.kindOf y = iSc.lookup y := fun y => by rw [← hE, ← hsc]; rfl
  have kf : FKept s.heap h₀ := hk
  obtain ⟨cD, dD, iD⟩ := ins.cells "a_digits" (.ref D) (by rfl)
  obtain ⟨cI, dI, iI⟩ := ins.cells "inner" (.ref f) (by rfl)
  obtain ⟨cN, dN, iN⟩ := ins.cells "n" (.int n tn) (by rfl)
  have ef : EnvF env iSc := ⟨by rw [← hE]; exact hfk, by rw [← hE]; rfl, by rw [← hE]; rfl, by rw [← hE]; exact hsc, fun y kd hy hkd => by
    rw [eC]
    have hm := mem_of_lookup hy
    have : (y = "a_digits" ∨ y = "inner" ∨ y = "n") := by
      simp only [iSc, List.mem_cons, List.not_mem_nil, or_false, Prod.mk.injEq] at hm
      rcases hkd with rfl | rfl <;> simp_all
    rcases this with rfl | rfl | rfl
    · exact ⟨cD, dD⟩
    · exact ⟨cI, dI⟩
    · exact ⟨cN, dN⟩⟩
  have ro' : Room (A.deeper env) k := ro.deeper
  have hLn : s.heap.get? env.locals = none := by rw [eL]; exact get_size _
  have hL0 : G.h₀.get? env.locals = none := ba.gone _ hLn
  have hDL : D ≠ env.locals := fun q => by obtain ⟨n, e⟩ := hpl; rw [q, hLn] at e; cases e
  have hDM : D ≠ mainGlobals := fun q => by
    obtain ⟨o, es, ep, e, _⟩ := G.top.g
    rw [← q, hD0] at e; cases e
  rw [← eL] at hns
  have fr : FR env iNames (iS x L (L + (k + 1)) .unset .unset .unset .unset n) h₀ := by
    refine .of hns ?_ (Nat.le_refl _)
    simp only [iS, iNames, List.zip_cons_cons, List.zip_nil_right, List.forall_mem_cons, List.not_mem_nil, false_implies, implies_true, and_true]
    exact ⟨.int (.inl ⟨by rw [eK]; rfl, _, hns, rfl⟩), .int (.inl ⟨by rw [eK]; rfl, _, hns, rfl⟩), .int (.inl ⟨by rw [eK]; rfl, _, hns, rfl⟩), .inl rfl, .inl rfl, .inl rfl, .inl rfl, .int (.inr ⟨.inr (by rw [eK]; rfl), cN, by rw [eC]; exact dN, iN.keeps kf⟩)⟩
  have x₁ : Ext s { s with heap := h₀, toks := s.toks + ((["x", "L", "R"] : List Str).zip [Value.int x t1, .int L t2, .int ((L + (k + 1) : Nat) : Int) t3]).length } := Ext.of kf
  obtain ⟨s₁, hs₁⟩ : ∃ s₁, ({ s with heap := h₀, toks := s.toks + ((["x", "L", "R"] : List Str).zip [Value.int x t1, .int L t2, .int ((L + (k + 1) : Nat) : Int) t3]).length } : Shared) = s₁ := ⟨_, rfl⟩
  have hh : s₁.heap = h₀ := by rw [← hs₁]
  rw [hs₁] at x₁ ⊢
  rw [← hh] at fr
  suffices body : ∀ P : Flow → Shared → Prop, (∀ s', Q .none s' → P .next s') → (∀ s', Q .none s' → P (.ret .none) s') → wpAny G.M (A.deeper env) (execs [s0, s1, s2, s3, s4, s5, s6] env) P (fun zq zq => False) s₁ from noE' (hbe ▸ body _ (fun zq h => h) (fun zq h => h))
  clear hE hs₁ hbe hns hk kf hh
  intro P hP0 hP1
  -- what is known at any later state
  have cx : ∀ s', Chg (fun d => d = D ∨ d = env.locals) s s' → ICx G (A.deeper env) env k iSc s' := fun s' x => ⟨ro', ef, hL0, ba.chg x fun d h => by rcases h with rfl | rfl; exact hD0; exact hL0⟩
  have insOf : ∀ s', Chg (fun d => d = D ∨ d = env.locals) s s' → InS s'.heap q params ibody iscope f cl [("a_digits", .ref D), ("inner", .ref f), ("n", .int n tn)] := fun s' x => ins.move fun b o hs ht e => x.kept b o (fun q => by
    rcases q with rfl | rfl
    · obtain ⟨n, e'⟩ := hpl; rw [e] at e'; cases e'; exact hs _ _ rfl
    · rw [hLn] at e; cases e) e ht
  have cellAt : ∀ s', Chg (fun d => d = D ∨ d = env.locals) s s' → ∀ y v, ([("a_digits", .ref D), ("inner", .ref f), ("n", .int n tn)] : List (Str × Value)).lookup y = some v → ∃ c, env.cells.lookup y = some c ∧ s'.heap.IsCell c (some v) := fun s' x y v h => by rw [eC]; exact (insOf s' x).cells y v h
  have fin : ∀ s', Chg (fun d => d = D ∨ d = env.locals) s s' → Chg (· = D) s s' := fun s' x => x.mono fun d h => by rcases h with rfl | rfl; exact .inl rfl; exact .inr hLn
  have c₁ : Chg (fun d => d = D ∨ d = env.locals) s s₁ := Ext.chg x₁
  have hlu : us.length = ds.length := by rw [hrl.length]; simp
  obtain ⟨cD', dD', iD'⟩ := cellAt _ c₁ "a_digits" (.ref D) (by rfl)
  refine wpAny_execs_cons (F.if0 (cx _ c₁) fr cD' D us _ dD' iD' (PlainList.grow x₁.kept hpl) (by lia) (by lia) hDM (fun h s' tv ch hpl' => ?_) fun h s₂ x₂ => ?_)
  · obtain rfl : k = 0 := by lia
    refine hP1 _ (hQ _ (us.set L (.int x tv)) (fin _ (c₁.trans (ch.mono fun d h => .inl (.inl h)))) hpl' ?_)
    have hd : ds.take L ++ (dgs n (0 + 1) x).map Int.ofNat ++ ds.drop (L + (0 + 1)) = ds.set L (x : Int) := by
      rw [List.set_eq_take_append_cons_drop, if_pos (by lia)]
      rw [show dgs n (0 + 1) x = [x] from dgs_one n x (by simpa using hx)]
      simp
    rw [hd]
    exact RepL.intL_any (RepL.intL_set hrl)
  · have hm2 : (k + 1) / 2 ≤ k := by lia
    have hm1 : 1 ≤ (k + 1) / 2 := by lia
    have hmid : (L + (L + (k + 1))) / 2 = L + (k + 1) / 2 := by lia
    obtain ⟨a, ha⟩ : ∃ a, (k + 1) / 2 = a := ⟨_, rfl⟩
    rw [ha] at hm2 hm1 hmid
    obtain ⟨b, hab⟩ : ∃ b, k + 1 = a + b := ⟨k + 1 - a, by lia⟩
    clear ha
    have hb1 : 1 ≤ b := by lia
    have hbk : b ≤ k := by lia
    have hn4 : n ≤ 4000 := Nat.le_trans (Nat.le_trans (Nat.le_of_eq (Nat.mul_one n).symm) (Nat.mul_le_mul_left n hm)) hnm
    have ha4 : n * a ≤ 4000 := Nat.le_trans (Nat.mul_le_mul_left n (by lia)) hnm
    have c₂ := c₁.trans (Ext.chg x₂)
    refine (F.mid (cx _ c₂) (fr.ext x₂)).cons fun s₃ x₃ fr₃ => ?_
    rw [hmid] at fr₃
    have c₃ := c₂.trans (x₃.mono fun d h => .inl (.inr h))
    refine (F.sh (cx _ c₃) fr₃ (by lia) (by lia)).cons fun s₄ x₄ fr₄ => ?_
    have c₄ := c₃.trans (x₄.mono fun d h => .inl (.inr h))
    refine (F.up (cx _ c₄) fr₄).cons fun s₅ x₅ fr₅ => ?_
    have c₅ := c₄.trans (x₅.mono fun d h => .inl (.inr h))
    refine (F.lo (cx _ c₅) fr₅ hx hnm (by lia)).cons fun s₆ x₆ fr₆ => ?_
    have c₆ := c₅.trans (x₆.mono fun d h => .inl (.inr h))
    have hfD : f ≠ D := fun e => by obtain ⟨n, e'⟩ := hpl; rw [← e, e1] at e'; cases e'; cases e2
    have hfL : f ≠ env.locals := fun e => by rw [e, hLn] at e1; cases e1
    have fAt : ∀ s', Chg (fun d => d = D ∨ d = env.locals) s s' → s'.heap.get? f = some of := fun s' x => x.kept f of (fun q => by rcases q with q | q; exact hfD q; exact hfL q) e1 (solid_func e2)
    obtain ⟨cI', dI', iI'⟩ := cellAt _ c₆ "inner" (.ref f) (by rfl)
    refine wpAny_execs_cons (F.c1 (cx _ c₆) fr₆ cI' f of _ _ dI' iI' (fAt _ c₆) e2 fun s₇ ta tb tc x₇ => ?_)
    have c₇ := c₆.trans (Ext.chg x₇)
    have hpl₇ : s₇.heap.PlainList D us.toArray := by
      obtain ⟨cp, e⟩ := PlainList.grow (x₁.trans x₂).kept hpl
      exact ⟨cp, x₇.kept _ _ ((((x₃.trans x₄).trans x₅).trans x₆).kept _ _ hDL e rfl) rfl⟩
    refine ih a (by lia) hm1 ha4 (A.deeper env) s₇ G D ds us L (x % 2 ^ (n * a)) tn ta tb tc (ro'.le (by lia)) (cx _ c₇).ba hD0 (insOf _ c₇) hpl₇ (RepL.intL_any hrl) (by lia) hlen (Nat.mod_lt _ (Nat.two_pow_pos _)) _ fun s₈ us₈ x₈ hpl₈ hrl₈ => ⟨rfl, ?_⟩
    have c₈ := c₇.trans (x₈.mono fun d h => .inl (.inl h))
    have fr₈ := (fr₆.ext x₇).move (chg_nonseq x₈ hpl₇)
    obtain ⟨cJ, dJ, iJ⟩ := cellAt _ c₈ "inner" (.ref f) (by rfl)
    refine wpAny_execs_cons (F.c2 (cx _ c₈) fr₈ cJ f of _ _ dJ iJ (fAt _ c₈) e2 fun s₉ ta' tb' tc' x₉ => ?_)
    have c₉ := c₈.trans (Ext.chg x₉)
    have hl₈ : (ds.take L ++ (dgs n a (x % 2 ^ (n * a))).map Int.ofNat ++ ds.drop (L + a)).length = ds.length := by
      simp only [List.length_append, List.length_take, List.length_map, dgs_len, List.length_drop]; lia
    have hup2 : x / 2 ^ (n * a) < 2 ^ (n * b) := by
      refine (Nat.div_lt_iff_lt_mul (Nat.two_pow_pos _)).mpr ?_
      rw [← Nat.pow_add, ← Nat.mul_add, Nat.add_comm b a, ← hab]; exact hx
    rw [show L + (k + 1) = L + a + b by lia]
    refine ih b (by lia) hb1 (Nat.le_trans (Nat.mul_le_mul_left n (by lia)) hnm) (A.deeper env) s₉ G D _ us₈ (L + a) (x / 2 ^ (n * a)) tn ta' tb' tc' (ro'.le (by lia)) (cx _ c₉).ba hD0 (insOf _ c₉) (PlainList.grow x₉.kept hpl₈) (RepL.intL_any hrl₈) (by rw [hl₈]; lia) (by rw [hl₈]; exact hlen) hup2 _ fun s' us' x' hpl' hrl' => ⟨rfl, ?_⟩
    refine wpAny_execs_nil (hP0 _ (hQ s' us' (fin _ (c₉.trans (x'.mono fun d h => .inl (.inl h)))) hpl' ?_))
    rw [i2d_lists (a := a) (b := b) (by rw [List.length_map, dgs_len]) (by rw [List.length_map, dgs_len]) (by lia)] at hrl'
    rw [← List.map_append, ← dgs_split, ← hab] at hrl'
    exact hrl'
end
end Mine
end

section
open PySem PySem.W PyProof.Rows
set_option Elab.async false
set_option tactic.hygienic false
set_option maxRecDepth 100000
set_option linter.unusedVariables false
namespace Mine
section
variable {G : Gl} {W : Addr → Prop} {k : Nat} {names : List Str} {sc : List (Str × NameKind)} {A : Around} {s s' : Shared} {E : Value → Shared → Prop} {env : Env} {sl : List Slot} {m : Str → Option Value} {os : Nat → List Addr} {va : Nat → Option Value}

theorem StX.chgList (st : StX G W env names sl s m os va) {i : Nat} {x : Str} {xs xs' : List AV} {vs' : List Value} {d : Addr} (hx : names[i]? = some x) (hsl : sl[i]? = some (.mls xs)) (hd : va i = some (.ref d))
    (cg : Chg (· = d) s s') (hl : s'.heap.PlainList d (List.toArray vs')) (hr : RepL W s'.heap xs' vs') (hf : firmL xs' = true) :
    Mov W W s s' ∧ StX G W env names (sl.set i (.mls xs')) s' m os va := by
  obtain ⟨_, d', vs, e1, wd, e2, ld, _⟩ := st.slots i x _ hx hsl
  rw [hd] at e2; cases e2
  have k0 : ∀ b ob, b ≠ d → s.heap.get? b = some ob → tabby ob = false → s'.heap.get? b = some ob := fun b ob hb e hs => cg.kept b ob hb e hs
  have h0a : G.h₀.get? d = none := (st.base.above d wd).2
  have nn : ∀ b, s'.heap.get? b = none → s.heap.get? b = none := fun b e => cg.gone e
  refine ⟨⟨by obtain ⟨h, t, e, _⟩ := cg; exact ⟨h, t, e⟩, fun b ob w e hs => k0 b ob (fun q => w (q ▸ wd)) e hs, nn, fun zq w => w, fun zq w zq => w⟩, ⟨⟨fun b ob e hs => ?_, fun b e => st.base.gone b (nn b e), cg.tb st.base.tb, fun b w => ?_⟩, st.wl, st.wc, ?_, ?_, st.nodup, st.apart, ?_⟩⟩
  · exact k0 b ob (fun q => by rw [q, h0a] at e; cases e) (st.base.keep b ob e hs) hs
  · exact ⟨cg.some (st.base.above b w).1, (st.base.above b w).2⟩
  · obtain ⟨o, es, ep, e, dd, r⟩ := st.ns
    exact ⟨o, es, ep, k0 _ _ (fun q => by obtain ⟨n, e'⟩ := ld; rw [q, e'] at e; cases e; cases dd) e (solid_dict dd), dd, r⟩
  · intro j y sv hy hs
    have hLd : ∀ ov, Ld env s.heap m y ov → Ld env s'.heap m y ov := fun ov l => by
      rcases l with q | ⟨a, c, b, o, e, dd⟩
      · exact .inl q
      · exact .inr ⟨a, c, b, o, k0 _ _ (fun q => by obtain ⟨n, e'⟩ := ld; rw [q, e'] at e; cases e; cases dd) e (solid_cell dd), dd⟩
    rcases set_get hs with ⟨rfl, rfl⟩ | ⟨hne, hs⟩
    · rw [hx] at hy; cases hy
      exact ⟨hLd _ (st.slots i x _ hx hsl).1, d, vs', e1, wd, hd, hl, hr, hf⟩
    · refine ⟨hLd _ (st.slots j y sv hy hs).1, (st.slots j y sv hy hs).2.move k0 (fun zq zq w => w) (fun zq w => w) wd fun q => ?_⟩
      exact hne (st.apart i j d (by rw [e1]; exact List.mem_singleton.mpr rfl) q)
  · intro j b h1
    obtain ⟨w, us, n, l⟩ := st.isls j b h1
    by_cases hba : b = d
    · subst hba; exact ⟨w, _, hl⟩
    · exact ⟨w, us, n, k0 b _ hba l rfl⟩

theorem StX.recell (st : StX G W env names sl s m os va) (eo : EnvOk env names) {i : Nat} {x : Str} {c : Addr} {v : Value} {ov : Option Value} {h' : Heap} {tk : Nat} (hx : names[i]? = some x) (hsl : sl[i]? = some .unset)
    (hk : env.kindOf x = some .cell) (hc : env.cells.lookup x = some c) (hi : s.heap.IsCell c ov) (isc : h'.IsCell c (some v)) (kk : ∀ b o, b ≠ c → s.heap.get? b = some o → tabby o = false → h'.get? b = some o)
    (gn : ∀ b, h'.get? b = none → s.heap.get? b = none) (tb : TB G.start h') :
    Mov W W s { s with heap := h', toks := tk } ∧ StX G W env names sl { s with heap := h', toks := tk } m os (fun j => if j = i then some v else va j) := by
  have wc := st.wc x c hc
  refine ⟨⟨⟨h', tk, rfl⟩, fun b ob w e hs => kk b ob (fun q => w (q ▸ wc)) e hs, gn, fun zq w => w, fun zq w zq => w⟩, ⟨⟨fun b ob e hs => ?_, fun b e => st.base.gone b (gn b e), tb, fun b w => ?_⟩, st.wl, st.wc, ?_, ?_, st.nodup, st.apart, ?_⟩⟩
  · exact kk b ob (fun q => by rw [q, (st.base.above c wc).2] at e; cases e) (st.base.keep b ob e hs) hs
  · refine ⟨?_, (st.base.above b w).2⟩
    cases q : h'.get? b with
    | none => have := (st.base.above b w).1; rw [gn b q] at this; cases this
    | some o => rfl
  · obtain ⟨o, es, ep, e, dd, r⟩ := st.ns
    exact ⟨o, es, ep, kk _ _ (fun q => by obtain ⟨o', e', d'⟩ := hi; rw [q, e'] at e; cases e; rw [d'] at dd; cases dd) e (solid_dict dd), dd, r⟩
  · intro j y sv hy hs
    have hos : c ∉ os j := fun q => by
      obtain ⟨_, us, n, l⟩ := st.isls j c q
      obtain ⟨o', e', d'⟩ := hi
      rw [l] at e'; cases e'; cases d'
    by_cases hji : j = i
    · subst hji
      rw [hx] at hy; cases hy
      rw [hsl] at hs; cases hs
      simp only [if_pos]
      exact ⟨.inr ⟨hk, c, hc, isc⟩, (st.slots j x _ hx hsl).2⟩
    · simp only [if_neg hji]
      refine ⟨?_, (st.slots j y sv hy hs).2.move (fun b o hb e hs => kk b o hb e hs) (fun zq zq w => w) (fun zq w => w) wc hos⟩
      rcases (st.slots j y sv hy hs).1 with q | ⟨a, c', b, o, e, dd⟩
      · exact .inl q
      · refine .inr ⟨a, c', b, o, kk _ _ (fun q => ?_) e (solid_cell dd), dd⟩
        have := eo.inj y x c' b (q ▸ hc)
        rw [this, ← hx] at hy
        exact hji (nodup_idx eo.nodup (hy.trans hx) hx)
  · intro j b h1
    obtain ⟨w, us, n, l⟩ := st.isls j b h1
    exact ⟨w, us, n, kk b _ (fun q => by obtain ⟨o', e', d'⟩ := hi; rw [q, e'] at l; cases l; cases d') l rfl⟩

noncomputable def resI2D (a n : Int) (xs : List AV) (ds : List Int) : List AV := if a = 0 then xs else intL ((dgs n.toNat ds.length a.toNat).map Int.ofNat)
noncomputable def int? : Slot → Option Int
  | .val (.int i) => some i
  | _ => none
noncomputable def lst? : Slot → Option (List AV)
  | .val (.lst xs) => some xs
  | _ => none
noncomputable def unset? : Slot → Option Unit
  | .unset => some ()
  | _ => none
theorem int?_ex {x : Slot} {a : Int} (h : int? x = some a) : x = .val (.int a) := by
  cases x with
  | val v => cases v <;> first | (cases h; done) | skip
             cases h; rfl
  | _ => cases h
theorem lst?_ex {x : Slot} {a : List AV} (h : lst? x = some a) : x = .val (.lst a) := by
  cases x with
  | val v => cases v <;> first | (cases h; done) | skip
             cases h; rfl
  | _ => cases h
theorem unset?_ex {x : Slot} {a : Unit} (h : unset? x = some a) : x = .unset := by cases x <;> first | rfl | cases h
theorem mls?_ex {x : Slot} {a : List AV} (h : mls? x = some a) : x = .mls a := by cases x <;> first | (cases h; done) | skip
                                                                                  cases h; rfl
noncomputable def tailI2D : List Slot → Option (Fl × List Slot) := fun sl => match sl with
  | [x, y, z, w] => (int? x).bind fun a => (int? y).bind fun n => (mls? z).bind fun xs => (unset? w).bind fun zq => (asInts xs).bind fun ds =>
    if 0 ≤ a ∧ 1 ≤ n ∧ a.toNat < 2 ^ (n.toNat * ds.length) ∧ n.toNat * ds.length ≤ 4000 ∧ ds.length ≤ 30 then some (.ret (.lst (resI2D a n xs ds)), [.val (.int a), .val (.int n), .mls (resI2D a n xs ds), .unset]) else none
  | _ => none
inductive TI2D : List Slot → Fl → List Slot → Prop
  | mk (a n : Int) (xs : List AV) (ds : List Int) (h0 : asInts xs = some ds) (ha : 0 ≤ a) (hn : 1 ≤ n) (hlt : a.toNat < 2 ^ (n.toNat * ds.length)) (hsm : n.toNat * ds.length ≤ 4000) (hdl : ds.length ≤ 30) :
      TI2D [.val (.int a), .val (.int n), .mls xs, .unset] (.ret (.lst (resI2D a n xs ds))) [.val (.int a), .val (.int n), .mls (resI2D a n xs ds), .unset]
theorem tailI2D_some {sl sl' : List Slot} {fl : Fl} (hf : tailI2D sl = some (fl, sl')) : TI2D sl fl sl' := by
  unfold tailI2D at hf
  split at hf
  · refine byG fun X hX => ?_
    obtain ⟨a, h1, hf⟩ := Option.bind_eq_some_iff.mp hf
    obtain ⟨n, h2, hf⟩ := Option.bind_eq_some_iff.mp hf
    obtain ⟨xs, h3, hf⟩ := Option.bind_eq_some_iff.mp hf
    obtain ⟨_, h4, hf⟩ := Option.bind_eq_some_iff.mp hf
    obtain ⟨ds, h0, hf⟩ := Option.bind_eq_some_iff.mp hf
    split at hf
    · next hc =>
      cases hf
      refine hX ?_
      rw [int?_ex h1, int?_ex h2, mls?_ex h3, unset?_ex h4]
      exact .mk a n xs ds h0 hc.1 hc.2.1 hc.2.2.1 hc.2.2.2.1 hc.2.2.2.2
    · cases hf
  · cases hf
noncomputable abbrev oNames : List Str := ["a", "n", "a_digits", "inner"]
theorem asInts_intL {xs : List AV} {ws : List Int} (h : asInts xs = some ws) : xs = intL ws := asInts_ex h
theorem flat_intL (l : List Int) : (intL l).all AV.flat = true := by
  induction l with
  | nil => rfl
  | cons a l ih => simp [intL, AV.flat]
theorem firm_intL (l : List Int) : firmL (intL l) = true := by
  induction l with
  | nil => rfl
  | cons a l ih => simp only [intL, List.map_cons, firmL, AV.firm, Bool.true_and]; exact ih

theorem i2d_tail {params : Arguments} {ibody : List Stmt} {iscope : Scope} {pos p1 p2 p3 p4 p5 p6 p7 p8 p9 p10 p11 p12 : Pos} {kd : Nat} {lvl : Nat} {G : Gl} {env : Env} {sc : List (Str × NameKind)}
    (hb : IsI2D ibody) (hsc : iscope.names = iSc) (hco : iscope.isCoroutine = false) (hgen : iscope.isGenerator = false) (hfk : iscope.kind = .function)
    (hbind : ∀ (cl : List (Str × Addr)) (pm ctv : Value) (c' : Addr) (a b c : Value), bindArgs (innerFd "inner" qDig params ibody iscope cl pm ctv c') ⟨[a, b, c], []⟩ = pure ((["x", "L", "R"] : List Str).zip [a, b, c]))
    (hexec : PlainDefTree "inner" params ibody iscope pos) (de : DefEnv G "_int2digits" qDig pos env)
    (hlen : G.mg ("len" : Str) = none) (k1 : sc.lookup ("a" : Str) = some .local) (k2 : sc.lookup ("n" : Str) = some .cell) (k3 : sc.lookup ("a_digits" : Str) = some .cell) (k4 : sc.lookup ("inner" : Str) = some .cell) (k5 : sc.lookup ("len" : Str) = some .globalImplicit) :
    SsE env G 30 oNames sc [.FunctionDef "inner" params ibody [] none [] iscope none "inner" pos,
      .If (.Name "a" p1) [.Expr (.Call (.Name "inner" p2) [.Name "a" p3, .Constant (.int 0) kd p4, .Call (.Name "len" p5) [.Name "a_digits" p6] [] p7] [] p8) p9] [] p10,
      .Return (some (.Name "a_digits" p11)) p12] tailI2D := by
  intro A W s sl m os va ro ef eo st fl sl' hf Q hQ
  refine byG fun X hX => ?_
  obtain ⟨a, n, xs, ds, h0, ha, hn, hlt, hsm, hdl⟩ := tailI2D_some hf
  clear hf
  have hxs := asInts_intL h0
  have kO : ∀ y, env.kindOf y = sc.lookup y := fun y => by unfold Env.kindOf; rw [ef.names]
  -- the inner def
  obtain ⟨lI, _⟩ := st.slots 3 "inner" .unset rfl rfl
  obtain ⟨_, cI, eI, iI⟩ := lI.resolve_left (fun q => by have := q.1; rw [kO, k4] at this; cases this)
  refine hX ?_
  clear hX
  have hfree : ∀ y ∈ iscope.names, y.2 = .free → ∃ c, env.cells.lookup y.1 = some c := by
    rw [hsc]
    intro y hy hfr
    simp only [iSc, List.mem_cons, List.not_mem_nil, or_false] at hy
    rcases hy with rfl | rfl | rfl | rfl | rfl | rfl | rfl | rfl | rfl | rfl <;> first | (cases hfr; done) | skip
    · exact ef.cells _ _ k3 (.inl rfl)
    · exact ef.cells _ _ k4 (.inl rfl)
    · exact ef.cells _ _ k2 (.inl rfl)
  refine wpAny_execs_cons (def_inner (W := W) (.inl ⟨rfl, rfl⟩) de ef st.base hexec (by cases hb; rfl) hfree (by rw [kO]; exact k4) eI iI (st.wc _ _ eI) fun f of cl pm ctv c' oc h' tk hcl1 hcl2 hof hofd hfn isc hoc hocc hrec tb kk gn => ?_)
  have s1 := st.recell (tk := tk) eo (i := 3) (x := "inner") (v := .ref f) rfl rfl (by rw [kO]; exact k4) eI iI isc kk gn tb
  obtain ⟨mv₁, st₁⟩ := s1
  obtain ⟨s₁, hs₁⟩ : ∃ s₁, ({ s with heap := h', toks := tk } : Shared) = s₁ := ⟨_, rfl⟩
  rw [hs₁] at mv₁ st₁ ⊢
  have hh₁ : s₁.heap = h' := by rw [← hs₁]
  rw [← hh₁] at hof isc hoc hrec
  dsimp only
  -- the test
  have rdA : ∀ (p : Pos), EvS G W 30 oNames sc (.Name "a" p) _ := fun p => EvS.var (i := 0) (by rfl) (by decide +kernel) (by decide +kernel)
  refine wpAny_execs_cons (wpAny_If ((TsS.value (EvS.var (i := 0) (by rfl) (by decide +kernel) (by decide +kernel)) (fun zq zq => rfl)) A env s₁ _ ro ef st₁.rs st₁.base (.int a) (a != 0) rfl rfl _ fun s₂ x₂ => ?_))
  have st₂ := st₁.ext x₂
  have ret : ∀ (xs' : List AV) (s₃ : Shared) (m' : Str → Option Value) (os' : Nat → List Addr) (va' : Nat → Option Value), xs'.all AV.flat = true → Mov W W s s₃ → StX G W env oNames [.val (.int a), .val (.int n), .mls xs', .unset] s₃ m' os' va' →
      (∀ W' s' m' os' va' flow, Mov W W' s s' → StX G W' env oNames [.val (.int a), .val (.int n), .mls xs', .unset] s' m' os' va' → FlRep G s'.heap (.ret (.lst xs')) flow → Q flow s') →
      wpAny G.M A (execs [.Return (some (.Name "a_digits" p11)) p12] env) Q (fun zq zq => False) s₃ := by
    intro xs' s₃ m' os' va' hfl mv st₃ hQ'
    refine (SsS.cons (k := 30) (StS.retOwn (i := 2) (by rfl) (by decide +kernel)) SsS.nil) A W env s₃ _ m' os' va' ro ef eo st₃ (.ret (.lst xs')) [.val (.int a), .val (.int n), .mls xs', .unset] ?_ _ fun W'' s'' m'' os'' va'' flow mv'' st'' fr => hQ' W'' s'' m'' os'' va'' flow (mv.trans mv'') st'' fr
    show ((if xs'.all AV.flat = true then some (Fl.ret (.lst xs'), [Slot.val (.int a), .val (.int n), .mls xs', .unset]) else none).bind _) = _
    rw [if_pos hfl]; rfl
  by_cases ha0 : a = 0
  · subst ha0
    rw [show ((0 : Int) != 0) = false from rfl, if_neg (by decide)]
    refine wpAny_execs_nil ?_
    dsimp only
    have hr : resI2D 0 n xs ds = xs := by unfold resI2D; rw [if_pos rfl]
    rw [hr] at hQ
    exact ret xs s₂ m os _ (by rw [hxs]; exact flat_intL ds) (mv₁.trans (Mov.ext x₂)) st₂ hQ
  · have hne : (a != 0) = true := by simpa using ha0
    rw [hne, if_pos rfl]
    have hr : resI2D a n xs ds = intL ((dgs n.toNat ds.length a.toNat).map Int.ofNat) := by unfold resI2D; rw [if_neg ha0]
    rw [hr] at hQ
    have hni : interactive env = false := by unfold interactive; rw [ef.kind]; rfl
    obtain ⟨lI₂, _⟩ := st₂.slots 3 "inner" .unset rfl rfl
    obtain ⟨_, cI', eI', iI'⟩ := lI₂.resolve_left (fun q => by have := q.1; rw [kO, k4] at this; cases this)
    rw [eI] at eI'; cases eI'
    have iI' : s₂.heap.IsCell cI (some (.ref f)) := iI'
    refine wpAny_execs_cons (wpAny_Expr (Call_ (wpAny_Name (wpAny_loadName_cell ef.kind (by rw [kO]; exact k4) eI iI' ?_) (by decide +kernel))) hni)
    refine callWith_def hofd ((EvL.cons (EvS.var (i := 0) (by rfl) (by decide +kernel) (by decide +kernel)) (EvL.cons EvS.int (EvL.cons (EvS.len k5 hlen (EvL.cons (EvS.var (i := 2) (by rfl) (by decide +kernel) (by decide +kernel)) EvL.nil (by rfl)) (by rfl)) EvL.nil (by rfl)) (by rfl)) (by rfl)).2 A env s₂ _ _ ro ef st₂.rs st₂.base [.int a, .int 0, .int xs.length] ?_ _ fun vs s₃ x₃ r₃ => ⟨x₃.kept _ _ (x₂.kept _ _ hof (solid_func hofd)) (solid_func hofd), ?_⟩) (starEach_cons (by rfl))
    · have hx : xs.length < 1000000 := by rw [hxs]; simp; lia
      show (some (AV.int a)).bind (fun a' => Option.map (a' :: ·) ((some (AV.int 0)).bind fun b => Option.map (b :: ·) (((some [AV.mut xs]).bind lenV).bind fun c => Option.map (c :: ·) (some [])))) = _
      have : lenV [AV.mut xs] = some (.int xs.length) := by
        show (if xs.length < 1000000 then some (AV.int xs.length) else none) = _
        rw [if_pos hx]
      simp [this]
    · have st₃ := st₂.ext x₃
      refine byG fun X hX => ?_
      obtain ⟨v1, q1, rfl, ⟨t1, rfl⟩, v2, q2, rfl, ⟨t2, rfl⟩, v3, q3, rfl, ⟨t3, rfl⟩, rfl⟩ := r₃
      obtain ⟨lD, D, us, eos, wD, vaD, plD, rlD, _⟩ := st₃.slots 2 "a_digits" (.mls xs) rfl rfl
      rw [vaD] at lD
      obtain ⟨_, cD, eD, iD⟩ := lD.resolve_left (fun q => by have := q.1; rw [kO, k3] at this; cases this)
      obtain ⟨lN, _, vN, eN, ⟨tn, rN⟩, _⟩ := st₃.slots 1 "n" (.val (.int n)) rfl rfl
      rw [eN, rN] at lN
      obtain ⟨_, cN, eN', iN⟩ := lN.resolve_left (fun q => by have := q.1; rw [kO, k2] at this; cases this)
      obtain ⟨lI₃, _⟩ := st₃.slots 3 "inner" .unset rfl rfl
      obtain ⟨_, cI', eI'', iI₃⟩ := lI₃.resolve_left (fun q => by have := q.1; rw [kO, k4] at this; cases this)
      have iI₃ : s₃.heap.IsCell cI' (some (.ref f)) := iI₃
      refine hX ?_
      clear hX
      have clAt : ∀ y c, (y, NameKind.free) ∈ iscope.names → env.cells.lookup y = some c → cl.lookup y = some c := fun y c hy h => by
        obtain ⟨c2, h2⟩ := hcl2 y hy
        have := hcl1 y c2 h2
        rw [h] at this; cases this; exact h2
      have hl1 : 1 ≤ ds.length := by
        rcases Nat.eq_zero_or_pos ds.length with h | h
        · rw [h] at hlt; simp at hlt; lia
        · exact h
      have ins : InS s₃.heap qDig params ibody iscope f cl [("a_digits", .ref D), ("inner", .ref f), ("n", .int (n.toNat : Int) tn)] := by
        refine ⟨?_, ?_⟩
        · have e1 := x₃.kept _ _ (x₂.kept _ _ hof (solid_func hofd)) (solid_func hofd)
          have e2 := x₃.kept _ _ (x₂.kept _ _ hoc (solid_cls hocc)) (solid_cls hocc)
          exact ⟨of, pm, ctv, c', oc, e1, hofd, e2, hocc, CodeRec.keepsK hrec hoc hocc (x₂.trans x₃).kept⟩
        · intro y v hv
          have hm := mem_of_lookup hv
          simp only [List.mem_cons, List.not_mem_nil, or_false, Prod.mk.injEq] at hm
          rcases hm with ⟨rfl, rfl⟩ | ⟨rfl, rfl⟩ | ⟨rfl, rfl⟩
          · exact ⟨cD, clAt _ _ (by rw [hsc]; decide +kernel) eD, iD⟩
          · exact ⟨cI', clAt _ _ (by rw [hsc]; decide +kernel) eI'', iI₃⟩
          · exact ⟨cN, clAt _ _ (by rw [hsc]; decide +kernel) eN', by rw [Int.toNat_of_nonneg (by lia)]; exact iN⟩
      have run := i2d_run (f := f) (cl := cl) n.toNat (by lia) hb hsc hco hgen hfk hbind ds.length hl1 hsm A s₃ G D ds us 0 a.toNat tn t1 t2 t3 (ro.le hdl) st₃.base.noW (st₃.base.above D wD).2 ins plD (by rw [hxs] at rlD; exact RepL.intL_any rlD) (by lia) (by lia) hlt
      have ea : ((a.toNat : Nat) : Int) = a := by lia
      have exl : (((0 + ds.length : Nat)) : Int) = ((xs.length : Nat) : Int) := by rw [hxs]; simp
      rw [ea, exl] at run
      refine run _ fun s₄ us₄ cg pl₄ rl₄ => ?_
      dsimp only
      have hds : (ds.take 0 ++ (dgs n.toNat ds.length a.toNat).map Int.ofNat ++ ds.drop (0 + ds.length)) = (dgs n.toNat ds.length a.toNat).map Int.ofNat := by simp
      rw [hds] at rl₄
      obtain ⟨mv₄, st₄⟩ := st₃.chgList (i := 2) rfl rfl vaD cg pl₄ (xs' := intL ((dgs n.toNat ds.length a.toNat).map Int.ofNat)) (RepL.intL_any rl₄) (firm_intL _)
      refine wpAny_execs_nil ?_
      dsimp only
      exact ret _ s₄ m os _ (flat_intL _) (((mv₁.trans (Mov.ext x₂)).trans (Mov.ext x₃)).trans mv₄) st₄ hQ
end
end Mine
end

section
open PySem PySem.W PyProof.Rows
set_option Elab.async false
set_option tactic.hygienic false
set_option maxRecDepth 100000
set_option linter.unusedVariables false
namespace Mine
noncomputable abbrev jNames : List Str := ["L", "R", "mid", "shift", "n"]
noncomputable abbrev jSc : List (Str × NameKind) := [("L", .local), ("R", .local), ("mid", .local), ("shift", .local), ("digits", .free), ("inner", .free), ("n", .free)]
set_option autoImplicit true in
inductive IsD2I : List Stmt → Prop
  | mk : IsD2I [
      .If (.Compare (.BinOp (.Name "L" p1) .Add (.Constant (.int 1) k1 p2) p3) [.Eq] [.Name "R" p4] p5) [.Return (some (.Subscript (.Name "digits" p6) (.Name "L" p7) p8)) p9] [] p10,
      .Assign [.Name "mid" p13] (.BinOp (.BinOp (.Name "L" p14) .Add (.Name "R" p15) p16) .RShift (.Constant (.int 1) k2 p17) p18) p19,
      .Assign [.Name "shift" p20] (.BinOp (.BinOp (.Name "mid" p21) .Sub (.Name "L" p22) p23) .Mult (.Name "n" p24) p25) p26,
      .Return (some (.BinOp (.BinOp (.Call (.Name "inner" p27) [.Name "mid" p28, .Name "R" p29] [] p30) .LShift (.Name "shift" p31) p32) .Add (.Call (.Name "inner" p33) [.Name "L" p34, .Name "mid" p35] [] p36) p37)) p38]
section
variable {G : Gl} {A : Around} {s : Shared} {E : Value → Shared → Prop} {q : Str} {params : Arguments} {ibody : List Stmt} {iscope : Scope} {f : Addr} {cl : List (Str × Addr)}
theorem InS.ext {s s' : Shared} {cs} (x : InS s.heap q params ibody iscope f cl cs) (e : Ext s s') : InS s'.heap q params ibody iscope f cl cs := x.move fun b o zq s h => e.kept b o h s

theorem cnd62 (L : Nat) (h : L < 1000000) : (decide ((0 : Int) ≤ (L : Int)) && decide ((L : Int) < 2 ^ 62)) = true := by
  have h1 : (L : Int) < 1000000 := by lia
  have h2 : (1000000 : Int) ≤ 2 ^ 62 := by decide +kernel
  rw [decide_eq_true (Int.natCast_nonneg L), decide_eq_true (Int.lt_of_lt_of_le h1 h2)]; rfl
theorem idx_intL (ds : List Nat) (L d : Nat) (h : L < 1000000) (hd : ds[L]? = some d) : idxV (.lst (intL (ds.map Int.ofNat))) (.int L) = some (.int (d : Int)) := by
  have hcnd := cnd62 L h
  simp only [idxV, AV.any?, hcnd, if_true, Int.toNat_natCast]
  simp [intL, hd]
noncomputable def idxF (sl : List Slot) : Option AV := ((fun (sl : List Slot) => sl[0]?.bind Slot.read) sl).bind fun a => ((fun (sl : List Slot) => sl[1]?.bind Slot.read) sl).bind fun b => idxV a b
theorem jt_idx (xs : List AV) (L : Int) (r : AV) (hix : idxV (.lst xs) (.int L) = some r) : idxF [Slot.val (.lst xs), .val (.int L)] = some r := by
  unfold idxF
  simp only [List.getElem?_cons_zero, List.getElem?_cons_succ, Option.bind_some, Slot.read]
  exact hix
noncomputable def jS (L R : Nat) (mid sh : Slot) (n : Nat) : List Slot := [nI L, nI R, mid, sh, nI n]
noncomputable def CallV (G : Gl) (A : Around) (f : Addr) (s : Shared) (a b r : Nat) : Prop := ∀ s' ta tb, Ext s s' → ∀ Q : Value → Shared → Prop, (∀ s'' t, Ext s s'' → Q (.int (r : Int) t) s'') → wpAny G.M A (call (.ref f) [.int (a : Int) ta, .int (b : Int) tb]) Q (fun zq zq => False) s'
theorem callV2 {env : Env} {k : Nat} {sl : List Slot} {p p2 : Pos} {e1 e2 : Expr} {a b r : Nat} {f1 f2 : List Slot → Option AV} {s₀ : Shared} (cx : ICx G A env k jSc s) (fr : FR env jNames sl s.heap) (h1 : EvS G NoW k jNames jSc e1 f1) (h2 : EvS G NoW k jNames jSc e2 f2)
    (n1 : notStar e1 = true) (n2 : notStar e2 = true) (q1 : f1 sl = some (.int a)) (q2 : f2 sl = some (.int b)) (cI f : Addr) (of : Obj) (fd : FuncData) (dI : env.cells.lookup ("inner" : Str) = some cI) (iI : s.heap.IsCell cI (some (.ref f))) (hf : s.heap.get? f = some of) (hd : of.data = .func fd)
    (x : Ext s₀ s) (cv : CallV G A f s₀ a b r) {Q : Value → Shared → Prop} (hQ : ∀ s'' t, Ext s₀ s'' → Q (.int (r : Int) t) s'') : wpAny G.M A (eval (.Call (.Name "inner" p) [e1, e2] [] p2) env) Q (fun zq zq => False) s := by
  have kI : env.kindOf ("inner" : Str) = some .free := by unfold Env.kindOf; rw [cx.ef.names]; rfl
  refine Call_ (wpAny_Name (wpAny_loadName_free cx.ef.kind kI dI iI (callWith_def hd ((EvL.cons h1 (EvL.cons h2 EvL.nil n2) n1).2 A env s _ _ cx.ro cx.ef fr.rs cx.ba [.int a, .int b] (by simp [consV, q1, q2]) _ fun vs s' x' r' => ⟨x'.kept f of hf (solid_func hd), ?_⟩) (starEach_cons n1))) (by decide +kernel))
  obtain ⟨v1, _, rfl, ⟨ta, rfl⟩, v2, _, rfl, ⟨tb, rfl⟩, rfl⟩ := r'
  exact cv s' ta tb (x.trans x') Q hQ
theorem d2i_shl {u d K : Nat} (hu : u < 2 ^ K) (hK : K ≤ 4000) (hd : d < 10000000) : intBin .LShift (u : Int) (d : Int) = some ((u * 2 ^ d : Nat) : Int) := by
  show (if (small ((u : Nat) : Int) && decide ((0 : Int) ≤ (d : Int)) && decide ((d : Int) < 10000000)) = true then some (((u : Nat) : Int) * 2 ^ ((d : Int)).toNat) else none) = _
  rw [if_pos (by rw [small_of_lt hu hK, decide_eq_true (Int.natCast_nonneg _), decide_eq_true (by lia)]; rfl)]
  rw [Int.toNat_natCast, Int.natCast_mul, Int.natCast_pow]; rfl
structure D2I (s0 s1 s2 s3 : Stmt) : Prop where
  if0 : ∀ {G A env k s L R n}, ICx G A env k jSc s → FR env jNames (jS L R .unset .unset n) s.heap → ∀ (cD D : Addr) (us : List Value) (ds : List Nat) (P : Flow → Shared → Prop), env.cells.lookup ("digits" : Str) = some cD → s.heap.IsCell cD (some (.ref D)) → s.heap.PlainList D us.toArray → RepL NoW s.heap (intL (ds.map Int.ofNat)) us → L < 1000000 →
    (∀ d, L + 1 = R → ds[L]? = some d → ∀ s' tv, Ext s s' → P (.ret (.int (d : Int) tv)) s') → (L + 1 = R → L < ds.length) → (L + 1 ≠ R → ∀ s', Ext s s' → P .next s') → wpAny G.M A (exec s0 env) P (fun zq zq => False) s
  mid : ∀ {G A env k s L R n}, ICx G A env k jSc s → FR env jNames (jS L R .unset .unset n) s.heap → Nx G A env jNames s1 s (jS L R (nI ((L + R) / 2)) .unset n)
  sh : ∀ {G A env k s L R n a}, ICx G A env k jSc s → FR env jNames (jS L R (nI (L + a)) .unset n) s.heap → a < 10000000 → n < 10000000 → Nx G A env jNames s2 s (jS L R (nI (L + a)) (nI (n * a)) n)
  ret : ∀ {G A env k s L R n mid d u v K}, ICx G A env k jSc s → FR env jNames (jS L R (nI mid) (nI d) n) s.heap → ∀ (cI f : Addr) (of : Obj) (fd : FuncData) (P : Flow → Shared → Prop), env.cells.lookup ("inner" : Str) = some cI → s.heap.IsCell cI (some (.ref f)) → s.heap.get? f = some of → of.data = .func fd →
    CallV G A f s mid R u → CallV G A f s L mid v → u < 2 ^ K → K ≤ 4000 → d < 10000000 → (∀ s' t, Ext s s' → P (.ret (.int ((u * 2 ^ d + v : Nat) : Int) t)) s') → wpAny G.M A (exec s3 env) P (fun zq zq => False) s
theorem jNd : jNames.Nodup := by decide +kernel
theorem d2i_f0 {env : Env} {k L R n : Nat} {p1 p2 p3 p4 p5 p6 p7 p8 p9 p10 : Pos} {k1 : Nat} (cx : ICx G A env k jSc s) (fr : FR env jNames (jS L R .unset .unset n) s.heap) (cD D : Addr) (us : List Value) (ds : List Nat) (P : Flow → Shared → Prop) (dD : env.cells.lookup ("digits" : Str) = some cD) (iD : s.heap.IsCell cD (some (.ref D))) (hpl : s.heap.PlainList D us.toArray)
    (hrl : RepL NoW s.heap (intL (ds.map Int.ofNat)) us) (hL : L < 1000000) (hb : ∀ d, L + 1 = R → ds[L]? = some d → ∀ s' tv, Ext s s' → P (.ret (.int (d : Int) tv)) s') (hl : L + 1 = R → L < ds.length) (hn : L + 1 ≠ R → ∀ s', Ext s s' → P .next s') :
    wpAny G.M A (exec (.If (.Compare (.BinOp (.Name "L" p1) .Add (.Constant (.int 1) k1 p2) p3) [.Eq] [.Name "R" p4] p5) [.Return (some (.Subscript (.Name "digits" p6) (.Name "L" p7) p8)) p9] [] p10) env) P (fun zq zq => False) s := by
  refine wpAny_If ((TsS.cmp (EvS.bin (EvS.var (i := 0) (by rfl) (by decide +kernel) (by decide +kernel)) EvS.int) (EvS.var (i := 1) (by rfl) (by decide +kernel) (by decide +kernel)) (by rfl)) A env s _ cx.ro cx.ef fr.rs cx.ba (.bool ((L : Int) + 1 == (R : Int))) ((L : Int) + 1 == (R : Int)) rfl rfl _ fun s₂ x₂ => ?_)
  by_cases h : L + 1 = R
  · rw [if_pos (by subst h; simp)]
    have fr₂ := fr.ext x₂
    have rs₂ : RS NoW env ["digits", "L"] [.val (.lst (intL (ds.map Int.ofNat))), .val (.int L)] s₂.heap := by
      intro i y sv hy hs hne
      rcases i with _ | _ | i
      · cases hy; cases hs; exact ⟨_, .inr ⟨.inr (by unfold Env.kindOf; rw [cx.ef.names]; rfl), cD, dD, IsCell.keepsK iD x₂.kept⟩, _, rfl, ⟨D, us, rfl, fun q => q, PlainList.grow x₂.kept hpl, RepL.intL_any hrl⟩, firm_intL _⟩
      · cases hy; cases hs; exact fr₂.rs 0 "L" _ rfl rfl (by simp)
      · cases hy
    obtain ⟨d, hd⟩ : ∃ d, ds[L]? = some d := ⟨_, List.getElem?_eq_getElem (hl h)⟩
    refine wpAny_execs_cons (wpAny_Return_some ?_)
    refine (EvS.idx (EvS.var (i := 0) (by rfl) (by decide +kernel) (by decide +kernel)) (EvS.var (i := 1) (by rfl) (by decide +kernel) (by decide +kernel)) (by rfl) : EvS G NoW k ["digits", "L"] jSc _ idxF) A env s₂ _ cx.ro cx.ef rs₂ (cx.ba.ext x₂) (.int (d : Int)) (jt_idx _ _ _ (idx_intL ds L d hL hd)) _ fun v s₃ x₃ r₃ => ?_
    obtain ⟨tv, rfl⟩ := r₃
    exact hb d h hd s₃ tv (x₂.trans x₃)
  · rw [if_neg (by rw [beq_iff_eq]; lia)]
    exact wpAny_execs_nil (hn h _ x₂)
theorem d2i_facts {b : List Stmt} (hb : IsD2I b) : ∃ s0 s1 s2 s3, b = [s0, s1, s2, s3] ∧ D2I s0 s1 s2 s3 := by
  cases hb
  refine ⟨_, _, _, _, rfl, ⟨d2i_f0, ?_, ?_, ?_⟩⟩
  · intro G A env k s L R n cx fr Q hQ
    exact FR.assign (i := 2) (av := .int (((L + R) / 2 : Nat) : Int)) cx.ro cx.ef cx.ba fr jNd (by rfl) (by rfl) (EvS.bin (EvS.bin (EvS.var (i := 0) (by rfl) (by decide +kernel) (by decide +kernel)) (EvS.var (i := 1) (by rfl) (by decide +kernel) (by decide +kernel))) EvS.int) (fun zq => rfl) cx.hL
      (by show some (AV.int (((L : Int) + (R : Int)).fdiv (2 ^ (1 : Int).toNat))) = _
          rw [i2d_mid]) rfl hQ
  · intro G A env k s L R n a cx fr ha hn Q hQ
    exact FR.assign (i := 3) (av := .int ((n * a : Nat) : Int)) cx.ro cx.ef cx.ba fr jNd (by rfl) (by rfl) (EvS.bin (EvS.bin (EvS.var (i := 2) (by rfl) (by decide +kernel) (by decide +kernel)) (EvS.var (i := 0) (by rfl) (by decide +kernel) (by decide +kernel))) (EvS.var (i := 4) (by rfl) (by decide +kernel) (by decide +kernel))) (fun zq => rfl) cx.hL (i2d_sh L ha hn) rfl hQ
  · intro G A env k s L R n mid d u v K cx fr cI f of fd P dI iI hf hd c1 c2 hu hK hdd hP
    refine wpAny_Return_some (wpAny_BinOp (wpAny_BinOp (callV2 cx fr (EvS.var (i := 2) (by rfl) (by decide +kernel) (by decide +kernel)) (EvS.var (i := 1) (by rfl) (by decide +kernel) (by decide +kernel)) (by rfl) (by rfl) rfl rfl cI f of fd dI iI hf hd (.refl s) c1 fun s₆ t₆ x₆ => ?_)))
    refine (EvS.var (i := 3) (by rfl) (by decide +kernel) (by decide +kernel)) A env s₆ _ cx.ro cx.ef (fr.ext x₆).rs (cx.ba.ext x₆) (.int (d : Int)) rfl _ fun w s₇ x₇ r₇ => ?_
    obtain ⟨ts, rfl⟩ := r₇
    refine intBin_sound (op := .LShift) (r := ((u * 2 ^ d : Nat) : Int)) (d2i_shl hu hK hdd) ?_
    have x₈ : Ext s { s₇ with toks := s₇.toks + 1 } := (x₆.trans x₇).trans Ext.tok
    refine callV2 (s₀ := s) ⟨cx.ro, cx.ef, cx.hL, cx.ba.ext x₈⟩ (fr.ext x₈) (EvS.var (i := 0) (by rfl) (by decide +kernel) (by decide +kernel)) (EvS.var (i := 2) (by rfl) (by decide +kernel) (by decide +kernel)) (by rfl) (by rfl) rfl rfl cI f of fd dI (IsCell.keepsK iI x₈.kept) (x₈.kept _ _ hf (solid_func hd)) hd x₈ c2 fun s₉ t₉ x₉ => ?_
    refine intBin_sound (op := .Add) (r := ((u * 2 ^ d : Nat) : Int) + ((v : Nat) : Int)) rfl ?_
    exact hP _ _ (x₉.trans Ext.tok)
theorem d2i_run (n : Nat) (hn1 : 1 ≤ n) (hb : IsD2I ibody) (hsc : iscope.names = jSc) (hco : iscope.isCoroutine = false) (hgen : iscope.isGenerator = false) (hfk : iscope.kind = .function)
    (hbind : ∀ (cl : List (Str × Addr)) (pm ctv : Value) (c' : Addr) (a b : Value), bindArgs (innerFd "inner" q params ibody iscope cl pm ctv c') ⟨[a, b], []⟩ = pure ((["L", "R"] : List Str).zip [a, b])) :
    ∀ m : Nat, 1 ≤ m → n * m ≤ 3999 → ∀ (A : Around) (s : Shared) (G : Gl) (D : Addr) (ds : List Nat) (us : List Value) (L : Nat) (tn t2 t3 : Tok), Room A m → Base G NoW s →
      InS s.heap q params ibody iscope f cl [("digits", .ref D), ("inner", .ref f), ("n", .int n tn)] → s.heap.PlainList D us.toArray → RepL NoW s.heap (intL (ds.map Int.ofNat)) us → L + m ≤ ds.length → ds.length < 1000000 → (∀ d ∈ ds, d < 2 ^ n) →
      ∀ Q : Value → Shared → Prop, (∀ s' t, Ext s s' → Q (.int ((undgs n ((ds.drop L).take m) : Nat) : Int) t) s') →
      wpAny G.M A (call (.ref f) [.int L t2, .int ((L + m : Nat) : Int) t3]) Q (fun zq zq => False) s := by
  intro m
  induction m using Nat.strongRecOn with
  | ind m ih =>
  intro hm hnm A s G D ds us L tn t2 t3 ro ba ins hpl hrl hle hlen hds Q hQ
  obtain ⟨of, pm, ctv, c', oc, e1, e2, e3, e4, e5⟩ := ins.fn
  obtain ⟨k, rfl⟩ : ∃ k, m = k + 1 := ⟨m - 1, by lia⟩
  obtain ⟨s0, s1, s2, s3, hbe, F⟩ := d2i_facts hb
  refine wpAny_call (codeAny_call_plain (binds := (["L", "R"] : List Str).zip [.int L t2, .int ((L + (k + 1) : Nat) : Int) t3]) ro.limit e1 e2 (NoLimit.keepsK G.top.nolimit ba.keep) e5 rfl (hbind _ _ _ _ _ _) ?_ ?_ (fun h₀ hns hk => ?_) hco hgen hfk)
  · show ∀ y ∈ iscope.names, y.2 ≠ .cell
    rw [hsc]; decide +kernel
  · show ∀ y ∈ (["L", "R"] : List Str).zip [Value.int L t2, .int ((L + (k + 1) : Nat) : Int) t3], iscope.names.lookup y.1 = some .local
    rw [hsc]
    intro y hy
    simp only [List.zip_cons_cons, List.zip_nil_right, List.mem_cons, List.not_mem_nil, or_false] at hy
    rcases hy with rfl | rfl <;> rfl
  obtain ⟨env, hE⟩ : ∃ env, callEnv (innerFd "inner" q params ibody iscope cl pm ctv c') s.heap.objs.size f = env := ⟨_, rfl⟩
  rw [hE]
  have eL : env.locals = s.heap.objs.size := by rw [← hE]; rfl
  have eC : env.cells = cl := by rw [← hE]; rfl
  have eK : ∀ y, env.kindOf y = jSc.lookup y := fun y => by rw [← hE, ← hsc]; rfl
  have kf : FKept s.heap h₀ := hk
  obtain ⟨cD, dD, iD⟩ := ins.cells "digits" (.ref D) (by rfl)
  obtain ⟨cI, dI, iI⟩ := ins.cells "inner" (.ref f) (by rfl)
  obtain ⟨cN, dN, iN⟩ := ins.cells "n" (.int n tn) (by rfl)
  have ef : EnvF env jSc := ⟨by rw [← hE]; exact hfk, by rw [← hE]; rfl, by rw [← hE]; rfl, by rw [← hE]; exact hsc, fun y kd hy hkd => by
    rw [eC]
    have hm := mem_of_lookup hy
    have : (y = "digits" ∨ y = "inner" ∨ y = "n") := by
      simp only [jSc, List.mem_cons, List.not_mem_nil, or_false, Prod.mk.injEq] at hm
      rcases hkd with rfl | rfl <;> simp_all
    rcases this with rfl | rfl | rfl
    · exact ⟨cD, dD⟩
    · exact ⟨cI, dI⟩
    · exact ⟨cN, dN⟩⟩
  have ro' : Room (A.deeper env) k := ro.deeper
  have hLn : s.heap.get? env.locals = none := by rw [eL]; exact get_size _
  have hL0 : G.h₀.get? env.locals = none := ba.gone _ hLn
  rw [← eL] at hns
  have fr : FR env jNames (jS L (L + (k + 1)) .unset .unset n) h₀ := by
    refine .of hns ?_ (Nat.le_refl _)
    simp only [jS, jNames, List.zip_cons_cons, List.zip_nil_right, List.forall_mem_cons, List.not_mem_nil, false_implies, implies_true, and_true]
    exact ⟨.int (.inl ⟨by rw [eK]; rfl, _, hns, rfl⟩), .int (.inl ⟨by rw [eK]; rfl, _, hns, rfl⟩), .inl rfl, .inl rfl, .int (.inr ⟨.inr (by rw [eK]; rfl), cN, by rw [eC]; exact dN, iN.keeps kf⟩)⟩
  have x₁ : Ext s { s with heap := h₀, toks := s.toks + ((["L", "R"] : List Str).zip [Value.int L t2, .int ((L + (k + 1) : Nat) : Int) t3]).length } := Ext.of kf
  obtain ⟨s₁, hs₁⟩ : ∃ s₁, ({ s with heap := h₀, toks := s.toks + ((["L", "R"] : List Str).zip [Value.int L t2, .int ((L + (k + 1) : Nat) : Int) t3]).length } : Shared) = s₁ := ⟨_, rfl⟩
  have hh : s₁.heap = h₀ := by rw [← hs₁]
  rw [hs₁] at x₁ ⊢
  rw [← hh] at fr
  suffices body : ∀ P : Flow → Shared → Prop, (∀ s' t, Ext s s' → P (.ret (.int ((undgs n ((ds.drop L).take (k + 1)) : Nat) : Int) t)) s') → wpAny G.M (A.deeper env) (execs [s0, s1, s2, s3] env) P (fun zq zq => False) s₁ from noE' (hbe ▸ body _ fun s' t x => hQ s' t x)
  clear hE hs₁ hbe hns hk kf hh hQ
  intro P hP
  have toExt : ∀ s', Chg (· = env.locals) s s' → Ext s s' := fun s' x => (x.mono (Y := NoW) fun d h => .inr (by rw [h]; exact hLn)).ext
  have cx : ∀ s', Ext s s' → ICx G (A.deeper env) env k jSc s' := fun s' x => ⟨ro', ef, hL0, ba.ext x⟩
  rw [← eC] at dD dI
  refine wpAny_execs_cons (F.if0 (cx _ x₁) fr cD D us ds _ dD (IsCell.keepsK iD x₁.kept) (PlainList.grow x₁.kept hpl) (RepL.intL_any hrl) (by lia) (fun d h hd s' tv x => ?_) (fun h => by lia) fun h s₂ x₂ => ?_)
  · obtain rfl : k = 0 := by lia
    have hval : undgs n ((ds.drop L).take (0 + 1)) = d := by
      obtain ⟨hL, rfl⟩ := List.getElem?_eq_some_iff.mp hd
      rw [List.drop_eq_getElem_cons hL]
      simp only [Nat.zero_add, List.take_succ_cons, List.take_zero, undgs, Nat.mul_zero, Nat.add_zero]
    rw [← hval]
    exact hP s' tv (x₁.trans x)
  · have hm2 : (k + 1) / 2 ≤ k := by lia
    have hm1 : 1 ≤ (k + 1) / 2 := by lia
    have hmid : (L + (L + (k + 1))) / 2 = L + (k + 1) / 2 := by lia
    obtain ⟨a, ha⟩ : ∃ a, (k + 1) / 2 = a := ⟨_, rfl⟩
    rw [ha] at hm2 hm1 hmid
    obtain ⟨b, hab⟩ : ∃ b, k + 1 = a + b := ⟨k + 1 - a, by lia⟩
    clear ha
    have hb1 : 1 ≤ b := by lia
    have hbk : b ≤ k := by lia
    have hn4 : n ≤ 4000 := Nat.le_trans (Nat.le_trans (Nat.le_of_eq (Nat.mul_one n).symm) (Nat.mul_le_mul_left n hm)) (Nat.le_succ_of_le hnm)
    have ha4 : n * a ≤ 3999 := Nat.le_trans (Nat.mul_le_mul_left n (by lia)) hnm
    have hb4 : n * b ≤ 3999 := Nat.le_trans (Nat.mul_le_mul_left n (by lia)) hnm
    have x₂ := x₁.trans x₂
    refine (F.mid (cx _ x₂) (fr.ext (by assumption))).cons fun s₃ x₃ fr₃ => ?_
    rw [hmid] at fr₃
    have c₃ := (Ext.chg x₂).trans x₃
    refine (F.sh (cx _ (toExt _ c₃)) fr₃ (by lia) (by lia)).cons fun s₄ x₄ fr₄ => ?_
    have x₄ := toExt _ (c₃.trans x₄)
    have hub : undgs n ((ds.drop (L + a)).take b) < 2 ^ (n * b) := by
      have := undgs_lt n ((ds.drop (L + a)).take b) fun d hd => hds d (List.mem_of_mem_drop (List.mem_of_mem_take hd))
      rw [List.length_take, List.length_drop, Nat.min_eq_left (by lia)] at this
      exact this
    have hval : undgs n ((ds.drop (L + a)).take b) * 2 ^ (n * a) + undgs n ((ds.drop L).take a) = undgs n ((ds.drop L).take (k + 1)) := by
      rw [hab, take_split, undgs_append, List.length_take, List.length_drop, Nat.min_eq_left (by lia), Nat.mul_comm (undgs n _), Nat.add_comm]
    have hR : L + (k + 1) = L + a + b := by lia
    rw [hR] at fr₄
    refine wpAny_execs_cons (F.ret (cx _ x₄) fr₄ cI f of _ _ dI (IsCell.keepsK iI x₄.kept) (x₄.kept f of e1 (solid_func e2)) e2
      (fun s' ta tb x Q hQ => ih b (by lia) hb1 hb4 (A.deeper env) s' G D ds us (L + a) tn ta tb (ro'.le hbk) (ba.ext (x₄.trans x)) (ins.ext (x₄.trans x)) (PlainList.grow (x₄.trans x).kept hpl) (RepL.intL_any hrl) (by lia) hlen hds _ fun s'' t y => hQ s'' t (x.trans y))
      (fun s' ta tb x Q hQ => ih a (by lia) hm1 ha4 (A.deeper env) s' G D ds us L tn ta tb (ro'.le hm2) (ba.ext (x₄.trans x)) (ins.ext (x₄.trans x)) (PlainList.grow (x₄.trans x).kept hpl) (RepL.intL_any hrl) (by lia) hlen hds _ fun s'' t y => hQ s'' t (x.trans y))
      hub (Nat.le_succ_of_le hb4) (by lia) fun s' t x => ?_)
    rw [hval]
    exact hP s' t (x₄.trans x)
end
noncomputable def tailD2I : List Slot → Option (Fl × List Slot) := fun sl => match sl with
  | [x, y, z] => (lst? x).bind fun xs => (int? y).bind fun n => (unset? z).bind fun zq => (asInts xs).bind fun ds =>
    if (ds.all fun d => decide (0 ≤ d ∧ d.toNat < 2 ^ n.toNat)) = true ∧ 1 ≤ n ∧ n.toNat * ds.length ≤ 3999 ∧ ds.length ≤ 30 then some (.ret (.int ((undgs n.toNat (ds.map Int.toNat) : Nat) : Int)), [.val (.lst xs), .val (.int n), .unset]) else none
  | _ => none
noncomputable abbrev dNames : List Str := ["digits", "n", "inner"]
theorem toNat_back : ∀ (ds : List Int), (∀ d ∈ ds, 0 ≤ d) → (ds.map Int.toNat).map Int.ofNat = ds
  | [], _ => rfl
  | d :: ds, h => by
    have := h d List.mem_cons_self
    simp only [List.map_cons]
    rw [toNat_back ds fun e he => h e (List.mem_cons_of_mem _ he)]
    congr 1
    show ((d.toNat : Nat) : Int) = d
    lia

theorem tailD2I_some {sl sl' : List Slot} {fl : Fl} (hf : tailD2I sl = some (fl, sl')) : ∃ xs n ds, sl = [.val (.lst xs), .val (.int n), .unset] ∧ asInts xs = some ds ∧ (∀ d ∈ ds, 0 ≤ d ∧ d.toNat < 2 ^ n.toNat) ∧ 1 ≤ n ∧ n.toNat * ds.length ≤ 3999 ∧ ds.length ≤ 30 ∧
    fl = .ret (.int ((undgs n.toNat (ds.map Int.toNat) : Nat) : Int)) ∧ sl' = [.val (.lst xs), .val (.int n), .unset] := by
  unfold tailD2I at hf
  split at hf
  · obtain ⟨xs, h1, hf⟩ := Option.bind_eq_some_iff.mp hf
    obtain ⟨n, h2, hf⟩ := Option.bind_eq_some_iff.mp hf
    obtain ⟨_, h3, hf⟩ := Option.bind_eq_some_iff.mp hf
    obtain ⟨ds, h0, hf⟩ := Option.bind_eq_some_iff.mp hf
    split at hf
    · next hc =>
      cases hf
      rw [lst?_ex h1, int?_ex h2, unset?_ex h3]
      exact ⟨_, _, ds, rfl, h0, fun d hd => by have := List.all_eq_true.mp hc.1 d hd; simpa using this, hc.2.1, hc.2.2.1, hc.2.2.2, rfl, rfl⟩
    · cases hf
  · cases hf
theorem d2i_tail {params : Arguments} {ibody : List Stmt} {iscope : Scope} {pos p1 p2 p3 p4 p5 p6 p7 p8 p9 p10 : Pos} {kd kd' : Nat} {G : Gl} {env : Env} {sc : List (Str × NameKind)}
    (hb : IsD2I ibody) (hsc : iscope.names = jSc) (hco : iscope.isCoroutine = false) (hgen : iscope.isGenerator = false) (hfk : iscope.kind = .function)
    (hbind : ∀ (cl : List (Str × Addr)) (pm ctv : Value) (c' : Addr) (a b : Value), bindArgs (innerFd "inner" qInt params ibody iscope cl pm ctv c') ⟨[a, b], []⟩ = pure ((["L", "R"] : List Str).zip [a, b]))
    (hexec : PlainDefTree "inner" params ibody iscope pos) (de : DefEnv G "_digits2int" qInt pos env)
    (hlen : G.mg ("len" : Str) = none) (k2 : sc.lookup ("n" : Str) = some .cell) (k3 : sc.lookup ("digits" : Str) = some .cell) (k4 : sc.lookup ("inner" : Str) = some .cell) (k5 : sc.lookup ("len" : Str) = some .globalImplicit) :
    SsE env G 30 dNames sc [.FunctionDef "inner" params ibody [] none [] iscope none "inner" pos,
      .Return (some (.IfExp (.Name "digits" p1) (.Call (.Name "inner" p2) [.Constant (.int 0) kd p3, .Call (.Name "len" p4) [.Name "digits" p5] [] p6] [] p7) (.Constant (.int 0) kd' p8) p9)) p10] tailD2I := by
  intro A W s sl m os va ro ef eo st fl sl' hf Q hQ
  refine byG fun X hX => ?_
  obtain ⟨xs, n, ds, rfl, h0, hds, hn, hsm, hdl, rfl, rfl⟩ := tailD2I_some hf
  clear hf
  have hxs := asInts_intL h0
  have hback := toNat_back ds fun d hd => (hds d hd).1
  have kO : ∀ y, env.kindOf y = sc.lookup y := fun y => by unfold Env.kindOf; rw [ef.names]
  obtain ⟨lI, _⟩ := st.slots 2 "inner" .unset rfl rfl
  obtain ⟨_, cI, eI, iI⟩ := lI.resolve_left (fun q => by have := q.1; rw [kO, k4] at this; cases this)
  refine hX ?_
  clear hX
  have hfree : ∀ y ∈ iscope.names, y.2 = .free → ∃ c, env.cells.lookup y.1 = some c := by
    rw [hsc]
    intro y hy hfr
    simp only [jSc, List.mem_cons, List.not_mem_nil, or_false] at hy
    rcases hy with rfl | rfl | rfl | rfl | rfl | rfl | rfl <;> first | (cases hfr; done) | skip
    · exact ef.cells _ _ k3 (.inl rfl)
    · exact ef.cells _ _ k4 (.inl rfl)
    · exact ef.cells _ _ k2 (.inl rfl)
  refine wpAny_execs_cons (def_inner (W := W) (.inr ⟨rfl, rfl⟩) de ef st.base hexec (by cases hb; rfl) hfree (by rw [kO]; exact k4) eI iI (st.wc _ _ eI) fun f of cl pm ctv c' oc h' tk hcl1 hcl2 hof hofd hfn isc hoc hocc hrec tb kk gn => ?_)
  have s1 := st.recell (tk := tk) eo (i := 2) (x := "inner") (v := .ref f) rfl rfl (by rw [kO]; exact k4) eI iI isc kk gn tb
  obtain ⟨mv₁, st₁⟩ := s1
  obtain ⟨s₁, hs₁⟩ : ∃ s₁, ({ s with heap := h', toks := tk } : Shared) = s₁ := ⟨_, rfl⟩
  rw [hs₁] at mv₁ st₁ ⊢
  have hh₁ : s₁.heap = h' := by rw [← hs₁]
  rw [← hh₁] at hof isc hoc hrec
  dsimp only
  have hx1 : xs.length < 1000000 := by rw [hxs]; simp; lia
  have htr : truth (.lst xs) = some (!xs.isEmpty) := by show (if xs.length < 1000000 then some (!xs.isEmpty) else none) = _; rw [if_pos hx1]
  suffices body : ∀ P : Value → Shared → Prop, (∀ (r : Int) (t : Tok) (s' : Shared), r = ((undgs n.toNat (ds.map Int.toNat) : Nat) : Int) → Ext s₁ s' → P (.int r t) s') → wpAny G.M A (eval (.IfExp (.Name "digits" p1) (.Call (.Name "inner" p2) [.Constant (.int 0) kd p3, .Call (.Name "len" p4) [.Name "digits" p5] [] p6] [] p7) (.Constant (.int 0) kd' p8) p9) env) P (fun zq zq => False) s₁ from
    wpAny_execs_cons (wpAny_Return_some (body _ fun r t s' hr x => by subst hr; exact hQ W s' m os _ _ (mv₁.trans (Mov.ext x)) (st₁.ext x) ⟨_, rfl, t, rfl⟩))
  clear hQ hs₁ hh₁ tb kk gn mv₁
  intro P fin
  refine IfExp_ ((TsS.value (EvS.var (i := 0) (by rfl) (by decide +kernel) (by decide +kernel)) (fun zq zq => rfl)) A env s₁ _ ro ef st₁.rs st₁.base (.lst xs) (!xs.isEmpty) rfl htr _ fun s₂ x₂ => ?_)
  have st₂ := st₁.ext x₂
  by_cases he : ds = []
  · subst he
    have hx0 : xs = [] := hxs
    rw [hx0]
    rw [show (![].isEmpty (α := AV)) = false from rfl, if_neg (by decide)]
    refine (EvS.int (G := G) (W := W) (k := 30) (names := dNames) (sc := sc)) A env s₂ _ ro ef st₂.rs st₂.base (.int 0) rfl _ fun v s₃ x₃ r₃ => ?_
    obtain ⟨t, rfl⟩ := r₃
    exact fin 0 t s₃ rfl (x₂.trans x₃)
  · have hne : (!xs.isEmpty) = true := by
      rw [hxs]; cases ds with
      | nil => exact absurd rfl he
      | cons a b => rfl
    rw [hne, if_pos rfl]
    have hl1 : 1 ≤ ds.length := by cases ds with
      | nil => exact absurd rfl he
      | cons a b => simp
    refine byG fun X hX => ?_
    obtain ⟨lI₂, _⟩ := st₂.slots 2 "inner" .unset rfl rfl
    obtain ⟨_, cI', eI', iI'⟩ := lI₂.resolve_left (fun q => by have := q.1; rw [kO, k4] at this; cases this)
    rw [eI] at eI'; cases eI'
    have iI' : s₂.heap.IsCell cI (some (.ref f)) := iI'
    refine hX ?_
    clear hX
    refine Call_ (wpAny_Name (wpAny_loadName_cell ef.kind (by rw [kO]; exact k4) eI iI' ?_) (by decide +kernel))
    have hlen1 : lenV [AV.lst xs] = some (.int xs.length) := by
      show (if xs.length < 1000000 then some (AV.int xs.length) else none) = _
      rw [if_pos hx1]
    refine callWith_def hofd ((EvL.cons EvS.int (EvL.cons (EvS.len k5 hlen (EvL.cons (EvS.var (i := 0) (by rfl) (by decide +kernel) (by decide +kernel)) EvL.nil (by rfl)) (by rfl)) EvL.nil (by rfl)) (by rfl)).2 A env s₂ _ _ ro ef st₂.rs st₂.base [.int 0, .int xs.length] ?_ _ fun vs s₃ x₃ r₃ => ⟨x₃.kept _ _ (x₂.kept _ _ hof (solid_func hofd)) (solid_func hofd), ?_⟩) (starEach_cons (by rfl))
    · show (some (AV.int 0)).bind (fun b => Option.map (b :: ·) (((some [AV.lst xs]).bind lenV).bind fun c => Option.map (c :: ·) (some []))) = _
      simp [hlen1]
    · have st₃ := st₂.ext x₃
      refine byG fun X hX => ?_
      obtain ⟨v2, q2, rfl, ⟨t2, rfl⟩, v3, q3, rfl, ⟨t3, rfl⟩, rfl⟩ := r₃
      obtain ⟨lD, _, vD, eD0, rD, _⟩ := st₃.slots 0 "digits" (.val (.lst xs)) rfl rfl
      obtain ⟨D, us, rfl, _, plD, rlD⟩ := rD
      rw [eD0] at lD
      obtain ⟨_, cD, eD, iD⟩ := lD.resolve_left (fun q => by have := q.1; rw [kO, k3] at this; cases this)
      obtain ⟨lN, _, vN, eN, ⟨tn, rN⟩, _⟩ := st₃.slots 1 "n" (.val (.int n)) rfl rfl
      rw [eN, rN] at lN
      obtain ⟨_, cN, eN', iN⟩ := lN.resolve_left (fun q => by have := q.1; rw [kO, k2] at this; cases this)
      obtain ⟨lI₃, _⟩ := st₃.slots 2 "inner" .unset rfl rfl
      obtain ⟨_, cI', eI'', iI₃⟩ := lI₃.resolve_left (fun q => by have := q.1; rw [kO, k4] at this; cases this)
      have iI₃ : s₃.heap.IsCell cI' (some (.ref f)) := iI₃
      refine hX ?_
      clear hX
      have clAt : ∀ y c, (y, NameKind.free) ∈ iscope.names → env.cells.lookup y = some c → cl.lookup y = some c := fun y c hy h => by
        obtain ⟨c2, h2⟩ := hcl2 y hy
        have := hcl1 y c2 h2
        rw [h] at this; cases this; exact h2
      have ins : InS s₃.heap qInt params ibody iscope f cl [("digits", .ref D), ("inner", .ref f), ("n", .int (n.toNat : Int) tn)] := by
        refine ⟨?_, ?_⟩
        · have e1 := x₃.kept _ _ (x₂.kept _ _ hof (solid_func hofd)) (solid_func hofd)
          have e2 := x₃.kept _ _ (x₂.kept _ _ hoc (solid_cls hocc)) (solid_cls hocc)
          exact ⟨of, pm, ctv, c', oc, e1, hofd, e2, hocc, CodeRec.keepsK hrec hoc hocc (x₂.trans x₃).kept⟩
        · intro y v hv
          have hm := mem_of_lookup hv
          simp only [List.mem_cons, List.not_mem_nil, or_false, Prod.mk.injEq] at hm
          rcases hm with ⟨rfl, rfl⟩ | ⟨rfl, rfl⟩ | ⟨rfl, rfl⟩
          · exact ⟨cD, clAt _ _ (by rw [hsc]; decide +kernel) eD, iD⟩
          · exact ⟨cI', clAt _ _ (by rw [hsc]; decide +kernel) eI'', iI₃⟩
          · exact ⟨cN, clAt _ _ (by rw [hsc]; decide +kernel) eN', by rw [Int.toNat_of_nonneg (by lia)]; exact iN⟩
      have run := d2i_run (f := f) (cl := cl) n.toNat (by lia) hb hsc hco hgen hfk hbind ds.length hl1 hsm A s₃ G D (ds.map Int.toNat) us 0 tn t2 t3 (ro.le hdl) st₃.base.noW ins plD (by rw [hback]; rw [hxs] at rlD; exact RepL.intL_any rlD) (by rw [List.length_map]; lia) (by rw [List.length_map]; lia) (fun d hd => by obtain ⟨e, he, rfl⟩ := List.mem_map.mp hd; exact (hds e he).2)
      have exl : (((0 + ds.length : Nat)) : Int) = ((xs.length : Nat) : Int) := by rw [hxs]; simp
      rw [exl] at run
      refine run _ fun s₄ t₄ x₄ => ?_
      refine fin _ t₄ s₄ ?_ ((x₂.trans x₃).trans x₄)
      rw [List.drop_zero, List.take_of_length_le (by rw [List.length_map]; lia)]
end Mine
end

section
open PySem PySem.W PyProof.Rows
set_option Elab.async false
set_option tactic.hygienic false
set_option maxRecDepth 100000
set_option autoImplicit false
set_option linter.unusedVariables false


namespace Mine
noncomputable abbrev SF := List Slot → Option (Fl × List Slot)
noncomputable def recAt (g : Str) : DefRec := ((recsOf q1).find? (fun d => d.name == g)).getD ⟨g, { posonlyargs := [], args := [], vararg := none, kwonlyargs := [], kw_defaults := [], kwarg := none, defaults := [] }, [], P1.main.scope, ⟨0, 0, 0, 0⟩⟩
noncomputable def dSub : DefRec := recAt "_substitution_cost"
noncomputable def nSub : List Str := ["ch_a", "ch_b"]

structure Ok1 (G : Gl) : Prop where
  q : G.q = q1
  loose : G.loose = [("b3_exceptions" : Str)]
  dd : G.dd = data1
theorem Ok1.at {G : Gl} (o : Ok1 G) (h : Heap) (hk : Kept G.h₀ h) : Ok1 (G.at h hk) := ⟨o.q, o.loose, o.dd⟩
noncomputable def pk {k : Nat} {names : List Str} {sc : List (Str × NameKind)} {st : List Stmt} {f : SF} (h : ∀ G, Ok1 G → SsS G k names sc st f) : {f : SF // ∀ G, Ok1 G → SsS G k names sc st f} := ⟨f, h⟩
theorem Ok1.noName {G : Gl} (o : Ok1 G) (x : Str) (h : (!(startupNames.contains x) && !(["b3_exceptions"] : List Str).contains x && !((recsOf q1).map (·.name)).contains x && !((litsOf q1).map (·.1)).contains x && !((clssOf q1 [("b3_exceptions" : Str)]).map (·.name)).contains x) = true) : G.mg x = none := by
  simp only [Bool.and_eq_true, Bool.not_eq_true', List.contains_eq_mem, decide_eq_false_iff_not] at h
  refine G.top.free x h.1.1.1.1 ?_ ?_ ?_ ?_
  · rw [o.loose]; exact h.1.1.1.2
  · rw [o.q]; exact h.1.1.2
  · rw [o.q]; exact h.1.2
  · rw [o.q, o.loose]; exact h.2
theorem Ok1.contract {lvl : Nat} {d : DefRec} {ps names : List Str} {g : Str} (D : DefOk d ps names) (hm : d ∈ recsOf q1) (hg : d.name = g) (b : {f : SF // ∀ G, Ok1 G → SsS G lvl names d.scope.names d.body f}) {fn : List AV → Option AV}
    (he : ∀ avs r, fn avs = some r → callV b.1 names.length ps.length avs = some r) (G : Gl) (o : Ok1 G) : Fn G g (lvl + 1) fn := by
  have F := Fn.of (G := G) (by rw [o.q]; exact hm) D (fun h hk => b.2 (G.at h hk) (o.at h hk))
  rw [hg] at F
  exact ⟨F.place, fun a hm A s vs avs r ro kk H tb rl hf Q hQ => F.runs a hm A s vs avs r ro kk H tb rl (he avs r hf) Q hQ⟩

set_option maxHeartbeats 2000000 in
noncomputable def sub_ : {f : SF // ∀ G, Ok1 G → SsS G 0 nSub dSub.scope.names dSub.body f} :=
    pk fun G o => (SsS.cons (StS.ite (fun W => TsS.cmp (EvS.var (i := 0) (by rfl) (by decide +kernel) (by decide +kernel)) (EvS.var (i := 1) (by rfl) (by decide +kernel) (by decide +kernel)) (by rfl))
       (SsS.cons (StS.ret fun W => EvS.int) SsS.nil) SsS.nil)
     (SsS.cons (StS.ite (fun W => TsS.cmp (EvS.lower (EvS.var (i := 0) (by rfl) (by decide +kernel) (by decide +kernel)) (fun zq => by rfl) (by decide +kernel)) (EvS.lower (EvS.var (i := 1) (by rfl) (by decide +kernel) (by decide +kernel)) (fun zq => by rfl) (by decide +kernel)) (by rfl))
      (SsS.cons (StS.ret fun W => EvS.gint (i := 1) (by decide +kernel) (by rw [o.q]; kernel_rfl) (by decide +kernel)) SsS.nil) SsS.nil)
     (SsS.cons (StS.ret fun W => EvS.gint (i := 2) (by decide +kernel) (by rw [o.q]; kernel_rfl) (by decide +kernel)) SsS.nil)))
theorem sub_ok : DefOk dSub nSub nSub where
  bind := fun pm code doc vals h => by
    obtain ⟨a, b, rfl⟩ := vlen2 h
    kernel_rfl
  pre := rfl
  nodup := by decide +kernel
  kinds := by decide +kernel
  free := by decide +kernel
  co := by kernel_rfl
  gen := by kernel_rfl
  fn := by kernel_rfl
theorem rec_mem (g : Str) (h : ((recsOf q1).find? (fun d => d.name == g)).isSome = true) : recAt g ∈ recsOf q1 ∧ (recAt g).name = g := by
  unfold recAt
  cases e : (recsOf q1).find? (fun d => d.name == g) with
  | none => rw [e] at h; cases h
  | some d => exact ⟨List.mem_of_find?_eq_some e, by have := List.find?_some e; simpa using this⟩
noncomputable def subV : List AV → Option AV
  | [.str a, .str b] => if a.length < 100000 ∧ b.length < 100000 then some (.int (if a = b then 0 else if Txt.lower a = Txt.lower b then 1 else 2)) else none
  | _ => none
theorem read_val (x : AV) : (Slot.val x).read = some x := rfl
theorem eq_strs (a b : Str) : cmpV .Eq (.str a) (.str b) = some (a == b) := rfl
theorem truth_bool (b : Bool) : truth (.bool b) = some b := rfl
theorem flat_int (i : Int) : flatV (.int i) = some (.int i) := rfl
theorem lower_str (x : Str) (h : x.length < 100000) : lowerV (.str x) = some (.str (Txt.lower x)) := by show (if x.length < 100000 then some (AV.str (Txt.lower x)) else Option.none) = _; rw [if_pos h]
set_option tactic.hygienic true in
theorem sub_eq (avs : List AV) (r : AV) (h : subV avs = some r) : callV sub_.1 nSub.length nSub.length avs = some r := by
  unfold subV at h
  split at h
  · next a b =>
    split at h
    · next hc =>
      cases h
      have la := lower_str a hc.1
      have lb := lower_str b hc.2
      have e0 : callV sub_.1 nSub.length nSub.length [.str a, .str b] = (sub_.1 [.val (.str a), .val (.str b)]).bind fun r => match r.1 with
        | .ret a => if a.firm = true then some a else none
        | .next => some .none
        | _ => none := by unfold callV; rw [if_pos (by simp [nSub, firmL, AV.firm])]; rfl
      rw [e0]
      simp only [sub_, pk, seqF, ifF, retF, read_val, eq_strs, truth_bool, flat_int, la, lb, Option.bind_some, Option.map_some, List.getElem?_cons_zero, List.getElem?_cons_succ]
      by_cases e : a = b
      · subst e; simp [AV.firm]
      · by_cases e' : Txt.lower a = Txt.lower b
        · simp [e, e', AV.firm, read_val, eq_strs, truth_bool, flat_int, la, lb]
        · simp [e, e', AV.firm, read_val, eq_strs, truth_bool, flat_int, la, lb]
    · cases h
  · cases h
theorem sub_fn (G : Gl) (o : Ok1 G) : Fn G "_substitution_cost" 1 subV :=
  Ok1.contract sub_ok (rec_mem "_substitution_cost" (by kernel_rfl)).1 (rec_mem "_substitution_cost" (by kernel_rfl)).2 sub_ sub_eq G o

end Mine
end

section
open PySem PySem.W PyProof.Rows
set_option Elab.async false
set_option tactic.hygienic false
set_option maxRecDepth 100000
set_option autoImplicit false
set_option linter.unusedVariables false
set_option linter.unusedSimpArgs false


namespace Mine
section
variable {G : Gl} {W : Addr → Prop} {k : Nat} {names : List Str} {sc : List (Str × NameKind)}
theorem EvS.b3 {dd : List (Int × Str)} (hdd : G.dd = dd) {e : Expr} {p apos q : Pos} {f : List Slot → Option AV} (hg : sc.lookup ("b3_exceptions" : Str) = some .globalImplicit) (he : EvS G W k names sc e f) (hn : notStar e = true) (hl : (apos.endLine == q.line) = true) :
    EvS G W k names sc (.Call (.Attribute (.Name ("b3_exceptions" : Str) p) ("get" : Str) apos) [e] [] q) (fun sl => (f sl).bind (getV dd)) := by
  subst hdd; exact EvS.b3get hg he hn hl
end
noncomputable def dMap : DefRec := recAt "map_table_b3"
noncomputable def nMap : List Str := ["code", "r"]
set_option maxHeartbeats 2000000 in
noncomputable def map_ : {f : SF // ∀ G, Ok1 G → SsS G 0 nMap dMap.scope.names dMap.body f} :=
    pk fun G o => SsS.cons (StS.assign (i := 1) (by rfl) (fun W => EvS.b3 o.dd (by decide +kernel) (EvS.ord (by decide +kernel) (o.noName _ (by kernel_rfl)) (EvL.cons (EvS.var (i := 0) (by rfl) (by decide +kernel) (by decide +kernel)) EvL.nil (by rfl)) (by rfl)) (by rfl) (by decide +kernel)) (fun zq => by rfl))
     (SsS.cons (StS.ite (fun W => TsS.cmp (EvS.var (i := 1) (by rfl) (by decide +kernel) (by decide +kernel)) EvS.none (by rfl)) (SsS.cons (StS.ret fun W => EvS.var (i := 1) (by rfl) (by decide +kernel) (by decide +kernel)) SsS.nil) SsS.nil)
     (SsS.cons (StS.ret fun W => EvS.lower (EvS.var (i := 0) (by rfl) (by decide +kernel) (by decide +kernel)) (fun zq => by rfl) (by decide +kernel)) SsS.nil))
theorem map_ok : DefOk dMap ["code"] nMap where
  bind := fun pm code doc vals h => by
    obtain ⟨a, rfl⟩ := vlen1 h
    kernel_rfl
  pre := rfl
  nodup := by decide +kernel
  kinds := by decide +kernel
  free := by decide +kernel
  co := by kernel_rfl
  gen := by kernel_rfl
  fn := by kernel_rfl
noncomputable def b3 (c : Nat) : Str := match data1.lookup (c : Int) with
  | some v => v
  | none => Txt.lower ⟨#[c]⟩
noncomputable def b3V : List AV → Option AV
  | [.str ⟨⟨[c]⟩⟩] => some (.str (b3 c))
  | _ => none
theorem ord_one (c : Nat) : ordV [.str ⟨⟨[c]⟩⟩] = some (.int c) := rfl
theorem get_int (dd : List (Int × Str)) (i : Int) : getV dd (.int i) = some (match dd.lookup i with | some v => .str v | none => .none) := rfl
theorem isnot_none : cmpV .IsNot .none .none = some false := rfl
theorem isnot_str (s : Str) : cmpV .IsNot (.str s) .none = some true := rfl
theorem flat_str (s : Str) : flatV (.str s) = some (.str s) := rfl
theorem putS_two (a b : Slot) (sv : Slot) : putS [a, b] 1 sv = some [a, sv] := rfl
set_option tactic.hygienic true in
theorem map_eq (avs : List AV) (r : AV) (h : b3V avs = some r) : callV map_.1 nMap.length 1 avs = some r := by
  unfold b3V at h
  split at h
  · next c =>
    cases h
    have e0 : callV map_.1 nMap.length 1 [.str ⟨⟨[c]⟩⟩] = (map_.1 [.val (.str ⟨⟨[c]⟩⟩), .unset]).bind fun r => match r.1 with
      | .ret a => if a.firm = true then some a else none
      | .next => some .none
      | _ => none := by unfold callV; rw [if_pos (by simp [firmL, AV.firm])]; rfl
    have lo := lower_str ⟨⟨[c]⟩⟩ (by show 1 < 100000; decide)
    rw [e0]
    simp only [map_, pk, seqF, ifF, retF, setF, consV, read_val, Option.bind_some, Option.map_some, List.getElem?_cons_zero, List.getElem?_cons_succ, ord_one, get_int]
    unfold b3
    cases hd : data1.lookup (c : Int) with
    | none => simp [AV.firm, putS_two, read_val, isnot_none, truth_bool, lo, flat_str]
    | some v => simp [AV.firm, putS_two, read_val, isnot_str, truth_bool, flat_str]
  · cases h
theorem map_fn (G : Gl) (o : Ok1 G) : Fn G "map_table_b3" 1 b3V :=
  Ok1.contract map_ok (rec_mem "map_table_b3" (by kernel_rfl)).1 (rec_mem "map_table_b3" (by kernel_rfl)).2 map_ map_eq G o

end Mine
end

section
open PySem PySem.W PyProof.Rows
set_option Elab.async false
set_option tactic.hygienic false
set_option maxRecDepth 100000
set_option autoImplicit false
set_option linter.unusedVariables false
set_option linter.unusedSimpArgs false


namespace Mine
theorem no_inter {env : Env} {sc : List (Str × NameKind)} (ef : EnvF env sc) : interactive env = false := by
  unfold interactive; rw [ef.kind]; rfl
theorem seqF_next {f g : SF} {sl sl' : List Slot} (h : f sl = some (.next, sl')) : seqF f g sl = g sl' := by unfold seqF; rw [h]; rfl
theorem seqF_ret {f g : SF} {sl sl' : List Slot} {a : AV} (h : f sl = some (.ret a, sl')) : seqF f g sl = some (.ret a, sl') := by unfold seqF; rw [h]; rfl
theorem call_ret {f : SF} {n np : Nat} {avs : List AV} {a : AV} {sl' : List Slot} (h1 : avs.length = np) (h2 : firmL avs = true) (h : f (avs.map .val ++ List.replicate (n - np) .unset) = some (.ret a, sl')) (ha : a.firm = true) : callV f n np avs = some a := by
  unfold callV; rw [if_pos ⟨h1, h2⟩, h]; show (if a.firm = true then _ else _) = _; rw [if_pos ha]
theorem flat_ints (l : List Int) : (l.map AV.int).all AV.flat = true := by
  induction l with
  | nil => rfl
  | cons a l ih => simp [AV.flat]
end Mine
end

section
open PySem PySem.W PyProof.Rows
set_option Elab.async false
set_option tactic.hygienic false
set_option maxRecDepth 100000
set_option autoImplicit false
set_option linter.unusedVariables false


namespace Mine
end Mine
end

section
open PySem PySem.W PyProof.Rows
set_option Elab.async false
set_option tactic.hygienic false
set_option maxRecDepth 100000
set_option autoImplicit false
set_option linter.unusedVariables false
set_option linter.unusedSimpArgs false


namespace Mine
noncomputable def dDiv : DefRec := recAt "_div2n1n"
noncomputable def nDiv : List Str := ["a", "b", "n"]
set_option maxHeartbeats 2000000 in
noncomputable def div_ : {f : SF // ∀ G, Ok1 G → SsS G 0 nDiv dDiv.scope.names dDiv.body f} :=
    pk fun G o => SsS.cons (StS.ite (fun W => TsS.cmp (EvS.bin (EvS.bits (EvS.var (i := 0) (by rfl) (by decide +kernel) (by decide +kernel)) (fun zq => by rfl) (by decide +kernel)) (EvS.var (i := 2) (by rfl) (by decide +kernel) (by decide +kernel))) (EvS.gint (i := 4000) (by decide +kernel) (by rw [o.q]; kernel_rfl) (by decide +kernel)) (by rfl))
      (SsS.cons (StS.retNew fun W => EvB.divmod (by decide +kernel) (o.noName _ (by kernel_rfl)) (EvL.cons (EvS.var (i := 0) (by rfl) (by decide +kernel) (by decide +kernel)) (EvL.cons (EvS.var (i := 1) (by rfl) (by decide +kernel) (by decide +kernel)) EvL.nil (by rfl)) (by rfl)) (by rfl) (fun zq zq => by rfl)) SsS.nil) SsS.nil)
     SsS.never
theorem div_ok : DefOk dDiv nDiv nDiv where
  bind := fun pm code doc vals h => by
    obtain ⟨a, b, c, rfl⟩ := vlen3 h
    kernel_rfl
  pre := rfl
  nodup := by decide +kernel
  kinds := by decide +kernel
  free := by decide +kernel
  co := by kernel_rfl
  gen := by kernel_rfl
  fn := by kernel_rfl
noncomputable def divV : List AV → Option AV
  | [.int a, .int b, .int n] => if (Builtin.Int.intBits a : Int) - n ≤ 4000 ∧ b ≠ 0 ∧ small b = true then some (.tup [.int (a.fdiv b), .int (a.fmod b)]) else none
  | _ => none
set_option tactic.hygienic true in
theorem div_eq (avs : List AV) (r : AV) (h : divV avs = some r) : callV div_.1 nDiv.length nDiv.length avs = some r := by
  unfold divV at h
  split at h
  · next a b n =>
    split at h
    · next hc =>
      cases h
      refine call_ret (sl' := [.val (.int a), .val (.int b), .val (.int n)]) rfl (by simp [firmL, AV.firm]) ?_ (by simp [firmL, AV.firm])
      show div_.1 [.val (.int a), .val (.int b), .val (.int n)] = _
      simp only [div_, pk]
      have d : divmodV [.int a, .int b] = some (.tup [.int (a.fdiv b), .int (a.fmod b)]) := by
        show (if b ≠ 0 ∧ small b = true then _ else _) = _
        rw [if_pos hc.2]
      have c : cmpV .LtE (.int ((Builtin.Int.intBits a : Int) - n)) (.int 4000) = some true := by
        show some (decide _) = _
        rw [decide_eq_true hc.1]
      refine seqF_ret (sl' := [.val (.int a), .val (.int b), .val (.int n)]) ?_
      show ((Option.map AV.bool (cmpV .LtE (.int ((Builtin.Int.intBits a : Int) - n)) (.int 4000))).bind fun x => (truth x).bind fun b' => if b' = true then _ else _) = _
      rw [c]
      show seqF (retF fun sl => ((consV (fun sl => sl[0]?.bind Slot.read) (consV (fun sl => sl[1]?.bind Slot.read) fun x => some []) sl).bind divmodV).bind flatLV) (fun sl => some (Fl.next, sl)) [.val (.int a), .val (.int b), .val (.int n)] = _
      refine seqF_ret ?_
      show (((divmodV [.int a, .int b]).bind flatLV).map _) = _
      rw [d]
      rfl
    · cases h
  · cases h
theorem div_fn (G : Gl) (o : Ok1 G) : Fn G "_div2n1n" 1 divV :=
  Ok1.contract div_ok (rec_mem "_div2n1n" (by kernel_rfl)).1 (rec_mem "_div2n1n" (by kernel_rfl)).2 div_ div_eq G o

end Mine
end

section
open PySem PySem.W PyProof.Rows
set_option Elab.async false
set_option tactic.hygienic false
set_option maxRecDepth 100000
set_option autoImplicit false
set_option linter.unusedVariables false
namespace Mine
theorem SsE.cons {env : Env} {G : Gl} {k : Nat} {names : List Str} {sc : List (Str × NameKind)} {st : Stmt} {r : List Stmt} {f g : SF} (h : StS G k names sc st f) (hr : SsE env G k names sc r g) : SsE env G k names sc (st :: r) (seqF f g) := by
  intro A W s sl m os va ro ef eo x fl sl' hf Q hQ
  obtain ⟨⟨fl1, sl1⟩, h1, h2⟩ := Option.bind_eq_some_iff.mp hf
  refine wpAny_execs_cons (h A W env s sl m os va ro ef eo x fl1 sl1 h1 _ fun W' s' m' os' va' flow mv st' fr => ?_)
  cases fl1 with
  | next =>
    cases (show flow = .next from fr)
    exact hr A W' s' sl1 m' os' va' ro ef eo st' fl sl' h2 Q fun W'' s'' m'' os'' va'' flow mv' => hQ W'' s'' m'' os'' va'' flow (mv.trans mv')
  | ret a => obtain ⟨v, rfl, rv⟩ := fr; cases h2; exact hQ W' s' m' os' va' _ mv st' ⟨v, rfl, rv⟩
  | brk => cases (show flow = .brk from fr); cases h2; exact hQ W' s' m' os' va' _ mv st' rfl
  | cont => cases (show flow = .cont from fr); cases h2; exact hQ W' s' m' os' va' _ mv st' rfl
noncomputable def pkE {d : DefRec} {k : Nat} {names : List Str} {f : SF} (h : ∀ G env, Ok1 G → CallEnvOf G d env → SsE env G k names d.scope.names d.body f) : {f : SF // ∀ G env, Ok1 G → CallEnvOf G d env → SsE env G k names d.scope.names d.body f} := ⟨f, h⟩
theorem Ok1.contractE {lvl : Nat} {d : DefRec} {ps names : List Str} {g : Str} (D : DefOk d ps names) (hm : d ∈ recsOf q1) (hg : d.name = g) (b : {f : SF // ∀ G env, Ok1 G → CallEnvOf G d env → SsE env G lvl names d.scope.names d.body f}) {fn : List AV → Option AV}
    (he : ∀ avs r, fn avs = some r → callV b.1 names.length ps.length avs = some r) (G : Gl) (o : Ok1 G) : Fn G g (lvl + 1) fn := by
  have F := Fn.of' (G := G) (by rw [o.q]; exact hm) D (fun h hk env ce => b.2 (G.at h hk) env (o.at h hk) ce)
  rw [hg] at F
  exact ⟨F.place, fun a hm A s vs avs r ro kk H tb rl hf Q hQ => F.runs a hm A s vs avs r ro kk H tb rl (he avs r hf) Q hQ⟩
theorem CallEnvOf.defEnv {G : Gl} {d : DefRec} {env : Env} {name q : Str} {pos : Pos} (ce : CallEnvOf G d env) (hn : d.name = name) (hk : (env.kindOf "inner" == some .globalExplicit) = false) (hq : name ++ ".<locals>." ++ "inner" = q) (hp : innerPos (.stmts d.body) = some pos) : DefEnv G name q pos env := by
  obtain ⟨e1, c, a, o, fd, h1, h2, h3, h4, h5, h6⟩ := ce
  refine ⟨?_, c, a, o, fd, h1, by rw [← hn]; exact h2, h3, h4, h5, by rw [h6]; exact hp⟩
  unfold qualnameIn
  rw [hk, e1, hn]
  exact hq
noncomputable def dI2D : DefRec := recAt "_int2digits"
theorem CallEnvOf.kind {G : Gl} {d : DefRec} {env : Env} {sc} (ef : EnvF env sc) (x : Str) (h : (sc.lookup x == some .globalExplicit) = false) : (env.kindOf x == some .globalExplicit) = false := by unfold Env.kindOf; rw [ef.names]; exact h
set_option maxHeartbeats 2000000 in
noncomputable def i2d_ : {f : SF // ∀ G env, Ok1 G → CallEnvOf G dI2D env → SsE env G 30 oNames dI2D.scope.names dI2D.body f} :=
    pkE fun G env o ce => SsE.cons (StS.assignNew (md := 1) (i := 2) (by decide) (by rfl) (fun W => EvB.rep (EvS.list (EvL.cons EvS.int EvL.nil (by rfl))) (EvS.bin (EvS.bin (EvS.bin (EvS.bits (EvS.var (i := 0) (by rfl) (by decide +kernel) (by decide +kernel)) (fun zq => by rfl) (by decide +kernel)) (EvS.var (i := 1) (by rfl) (by decide +kernel) (by decide +kernel))) EvS.int) (EvS.var (i := 1) (by rfl) (by decide +kernel) (by decide +kernel)))) (fun zq => by rfl))
      (fun A W s sl m os va ro ef => i2d_tail (lvl := 0) (by exact .mk) (by rfl) (by rfl) (by rfl) (by rfl) (fun zq zq zq zq zq zq zq => by rfl) (fun zq => by rfl) (ce.defEnv (by rfl) (CallEnvOf.kind (G := G) (d := dI2D) ef _ (by decide +kernel)) (by rfl) (by rfl)) (o.noName _ (by kernel_rfl)) (by decide +kernel) (by decide +kernel) (by decide +kernel) (by decide +kernel) (by decide +kernel) A W s sl m os va ro ef)
theorem i2d_ok : DefOk dI2D ["a", "n"] oNames where
  bind := fun pm code doc vals h => by
    obtain ⟨a, b, rfl⟩ := vlen2 h
    kernel_rfl
  pre := rfl
  nodup := by decide +kernel
  kinds := by decide +kernel
  free := by decide +kernel
  co := by kernel_rfl
  gen := by kernel_rfl
  fn := by kernel_rfl
noncomputable def ndig (a n : Int) : Nat := (Builtin.Int.intBits a + n.toNat - 1) / n.toNat
noncomputable def i2dV : List AV → Option AV
  | [.int a, .int n] => if 0 ≤ a ∧ 1 ≤ n ∧ n.toNat * ndig a n ≤ 4000 ∧ ndig a n ≤ 30 ∧ n < 100000 then some (.lst (intL ((dgs n.toNat (ndig a n) a.toNat).map Int.ofNat))) else none
  | _ => none
theorem lt_bits (a : Int) (ha : 0 ≤ a) : a.toNat < 2 ^ Builtin.Int.intBits a := by
  unfold Builtin.Int.intBits
  by_cases h : a = 0
  · subst h; decide
  · rw [if_neg (by simpa using h)]
    have : a.natAbs = a.toNat := by lia
    rw [this]
    exact Nat.lt_log2_self
theorem ndig_le (a n : Int) (hn : 1 ≤ n) : Builtin.Int.intBits a ≤ n.toNat * ndig a n := by
  unfold ndig
  have h1 : 1 ≤ n.toNat := by lia
  generalize Builtin.Int.intBits a = b
  generalize n.toNat = n at *
  have := Nat.div_add_mod (b + n - 1) n
  have h2 := Nat.mod_lt (b + n - 1) h1
  lia
set_option tactic.hygienic true in
theorem i2d_eq (avs : List AV) (r : AV) (h : i2dV avs = some r) : callV i2d_.1 oNames.length 2 avs = some r := by
  unfold i2dV at h
  split at h
  · next a n =>
    split at h
    · next hc =>
      cases h
      obtain ⟨ha, hn, h1, h2, h3⟩ := hc
      have hnd : ndig a n * 1 < 1000000 := by lia
      have e0 : ((Builtin.Int.intBits a : Int) + n - 1).fdiv n = (ndig a n : Int) := by
        rw [Int.fdiv_eq_ediv_of_nonneg _ (by lia)]
        unfold ndig
        rw [Int.natCast_ediv]
        congr 1 <;> lia
      have hsn : small n = true := by
        have : n = ((n.toNat : Nat) : Int) := by lia
        rw [this]; exact small_nat (by lia)
      have e1 : binV .FloorDiv (.int ((Builtin.Int.intBits a : Int) + n - 1)) (.int n) = some (.int (ndig a n)) := by
        show ((if n ≠ 0 ∧ small n = true then some (((Builtin.Int.intBits a : Int) + n - 1).fdiv n) else none).map AV.int) = _
        rw [if_pos ⟨by lia, hsn⟩, e0]; rfl
      have e2 : repV (.lst [.int 0]) (.int (ndig a n)) = some (.lst (intL (List.replicate (ndig a n) 0))) := by
        show (if [AV.int 0].length * ((ndig a n : Nat) : Int).toNat < 1000000 ∧ ((ndig a n : Nat) : Int) < 1000000 ∧ -1000000 < ((ndig a n : Nat) : Int) then some (AV.lst (List.replicate ((ndig a n : Nat) : Int).toNat [AV.int 0]).flatten) else none) = _
        rw [if_pos ⟨by simp; lia, by lia, by lia⟩, Int.toNat_natCast]
        congr 2
        induction ndig a n with
        | zero => rfl
        | succ k ih => rw [List.replicate_succ, List.flatten_cons, ih, List.replicate_succ]; rfl
      have e3 : numsOnly (.lst (intL (List.replicate (ndig a n) 0))) = some (intL (List.replicate (ndig a n) 0)) := by
        show (if (asInts (intL (List.replicate (ndig a n) 0))).isSome = true then _ else _) = _
        rw [show asInts (intL (List.replicate (ndig a n) 0)) = some (List.replicate (ndig a n) 0) from asInts_map _]; rfl
      refine call_ret (sl' := [.val (.int a), .val (.int n), .mls (resI2D a n (intL (List.replicate (ndig a n) 0)) (List.replicate (ndig a n) 0)), .unset]) rfl (by simp [firmL, AV.firm]) ?_ (firm_intL _)
      show i2d_.1 [.val (.int a), .val (.int n), .unset, .unset] = _
      have hres : resI2D a n (intL (List.replicate (ndig a n) 0)) (List.replicate (ndig a n) 0) = intL ((dgs n.toNat (ndig a n) a.toNat).map Int.ofNat) := by
        unfold resI2D
        rw [List.length_replicate]
        split
        · next h =>
          subst h
          have : ndig 0 n = 0 := by
            unfold ndig
            rw [show Builtin.Int.intBits 0 = 0 from rfl, Nat.zero_add]
            exact Nat.div_eq_of_lt (by lia)
          rw [this]; rfl
        · rfl
      refine (seqF_next (sl' := [.val (.int a), .val (.int n), .mls (intL (List.replicate (ndig a n) 0)), .unset]) ?_).trans ?_
      · show ((((binV .FloorDiv (.int ((Builtin.Int.intBits a : Int) + n - 1)) (.int n)).bind fun b => repV (.lst [.int 0]) b).bind numsOnly).bind _) = _
        rw [e1, Option.bind_some, e2, Option.bind_some, e3, Option.bind_some, if_pos (firm_intL _)]
        rfl
      · show ((asInts (intL (List.replicate (ndig a n) 0))).bind fun ds => _) = _
        rw [show asInts (intL (List.replicate (ndig a n) 0)) = some (List.replicate (ndig a n) 0) from asInts_map _, Option.bind_some, List.length_replicate]
        rw [if_pos ⟨ha, hn, Nat.lt_of_lt_of_le (lt_bits a ha) (Nat.pow_le_pow_right (by decide) (ndig_le a n hn)), h1, h2⟩, hres]
    · cases h
  · cases h
theorem i2d_fn (G : Gl) (o : Ok1 G) : Fn G "_int2digits" 31 i2dV :=
  Ok1.contractE i2d_ok (rec_mem "_int2digits" (by kernel_rfl)).1 (rec_mem "_int2digits" (by kernel_rfl)).2 i2d_ i2d_eq G o

end Mine
end

section
open PySem PySem.W PyProof.Rows
set_option Elab.async false
set_option tactic.hygienic false
set_option maxRecDepth 100000
set_option autoImplicit false
set_option linter.unusedVariables false
namespace Mine
noncomputable def dD2I : DefRec := recAt "_digits2int"
set_option maxHeartbeats 2000000 in
noncomputable def d2i_ : {f : SF // ∀ G env, Ok1 G → CallEnvOf G dD2I env → SsE env G 30 dNames dD2I.scope.names dD2I.body f} :=
    pkE fun G env o ce => (fun A W s sl m os va ro ef => d2i_tail (by exact .mk) (by rfl) (by rfl) (by rfl) (by rfl) (fun zq zq zq zq zq zq => by rfl) (fun zq => by rfl) (ce.defEnv (by rfl) (CallEnvOf.kind (G := G) (d := dD2I) ef _ (by decide +kernel)) (by rfl) (by rfl)) (o.noName _ (by kernel_rfl)) (by decide +kernel) (by decide +kernel) (by decide +kernel) (by decide +kernel) A W s sl m os va ro ef)
theorem d2i_ok : DefOk dD2I ["digits", "n"] dNames where
  bind := fun pm code doc vals h => by
    obtain ⟨a, b, rfl⟩ := vlen2 h
    kernel_rfl
  pre := rfl
  nodup := by decide +kernel
  kinds := by decide +kernel
  free := by decide +kernel
  co := by kernel_rfl
  gen := by kernel_rfl
  fn := by kernel_rfl
noncomputable def d2iV : List AV → Option AV
  | [.lst xs, .int n] => (asInts xs).bind fun ds => if (ds.all fun d => decide (0 ≤ d ∧ d.toNat < 2 ^ n.toNat)) = true ∧ 1 ≤ n ∧ n.toNat * ds.length ≤ 3999 ∧ ds.length ≤ 30 then some (.int ((undgs n.toNat (ds.map Int.toNat) : Nat) : Int)) else none
  | _ => none
set_option tactic.hygienic true in
theorem d2i_eq (avs : List AV) (r : AV) (h : d2iV avs = some r) : callV d2i_.1 dNames.length 2 avs = some r := by
  unfold d2iV at h
  split at h
  · next xs n =>
    obtain ⟨ds, h0, h⟩ := Option.bind_eq_some_iff.mp h
    split at h
    · next hc =>
      cases h
      have hf : firmL [AV.lst xs, .int n] = true := by rw [asInts_intL h0]; simp only [firmL, AV.firm]; rw [firm_intL]; rfl
      refine call_ret (sl' := [.val (.lst xs), .val (.int n), .unset]) rfl hf ?_ rfl
      show ((asInts xs).bind fun ds => _) = _
      rw [h0, Option.bind_some, if_pos hc]
    · cases h
  · cases h
theorem d2i_fn (G : Gl) (o : Ok1 G) : Fn G "_digits2int" 31 d2iV :=
  Ok1.contractE d2i_ok (rec_mem "_digits2int" (by kernel_rfl)).1 (rec_mem "_digits2int" (by kernel_rfl)).2 d2i_ d2i_eq G o

end Mine
end

section
open PySem PySem.W PyProof.Rows
set_option Elab.async false
set_option tactic.hygienic false
set_option maxRecDepth 100000
set_option autoImplicit false
set_option linter.unusedVariables false
namespace Mine
noncomputable def dDmp : DefRec := recAt "_divmod_pos"
noncomputable def nDmp : List Str := ["a", "b", "n", "a_digits", "r", "q_digits", "a_digit", "q_digit", "q"]
set_option maxHeartbeats 4000000 in
noncomputable def dmp_ : {f : SF // ∀ G, Ok1 G → SsS G 31 nDmp dDmp.scope.names dDmp.body f} :=
    pk fun G o => (SsS.cons (StS.assign (i := 2) (by rfl) (fun W => (EvS.bits (EvS.var (i := 1) (by rfl) (by decide +kernel) (by decide +kernel)) (fun zq => by rfl) (by decide +kernel))) (fun zq => by rfl))
 (SsS.cons (StS.assign (i := 3) (by rfl) (fun W => (EvS.call (i2d_fn G o) (by decide) (by decide +kernel) (by decide +kernel) (EvL.cons (EvS.var (i := 0) (by rfl) (by decide +kernel) (by decide +kernel)) (EvL.cons (EvS.var (i := 2) (by rfl) (by decide +kernel) (by decide +kernel)) EvL.nil (by rfl)) (by rfl)) (by rfl))) (fun zq => by rfl))
 (SsS.cons (StS.assign (i := 4) (by rfl) (fun W => EvS.int) (fun zq => by rfl))
 (SsS.cons (StS.assignNew (md := 1) (i := 5) (by decide) (by rfl) (fun W => (EvB.list EvL.nil)) (fun zq => by rfl))
 (SsS.cons (StS.for (i := 6) (by rfl) (fun W => (EvI.rev (by decide +kernel) (o.noName _ (by kernel_rfl)) (EvS.var (i := 3) (by rfl) (by decide +kernel) (by decide +kernel)) (by rfl)))
 (SsS.cons (StS.unpack (is := [7, 4]) (xs := [(_, _), (_, _)]) (by rfl) (by rfl) (fun W => (EvS.call (div_fn G o) (by decide) (by decide +kernel) (by decide +kernel) (EvL.cons (EvS.bin (EvS.bin (EvS.var (i := 4) (by rfl) (by decide +kernel) (by decide +kernel)) (EvS.var (i := 2) (by rfl) (by decide +kernel) (by decide +kernel))) (EvS.var (i := 6) (by rfl) (by decide +kernel) (by decide +kernel))) (EvL.cons (EvS.var (i := 1) (by rfl) (by decide +kernel) (by decide +kernel)) (EvL.cons (EvS.var (i := 2) (by rfl) (by decide +kernel) (by decide +kernel)) EvL.nil (by rfl)) (by rfl)) (by rfl)) (by rfl))) (fun zq => by rfl) (fun zq => by rfl))
 (SsS.cons (StS.append (i := 5) (by rfl) (by decide +kernel) (fun W => (EvS.var (i := 7) (by rfl) (by decide +kernel) (by decide +kernel))) (by rfl) (by decide +kernel) (fun env ef => no_inter ef))
 SsS.nil)) (fun zq zq => by rfl))
 (SsS.cons (StS.reverse (i := 5) (by rfl) (by decide +kernel) (by decide +kernel) (fun env ef => no_inter ef))
 (SsS.cons (StS.assign (i := 8) (by rfl) (fun W => (EvS.call (d2i_fn G o) (by decide) (by decide +kernel) (by decide +kernel) (EvL.cons (EvS.var (i := 5) (by rfl) (by decide +kernel) (by decide +kernel)) (EvL.cons (EvS.var (i := 2) (by rfl) (by decide +kernel) (by decide +kernel)) EvL.nil (by rfl)) (by rfl)) (by rfl))) (fun zq => by rfl))
 (SsS.cons (StS.retNew fun W => (EvB.tuple (EvL.cons (EvS.var (i := 8) (by rfl) (by decide +kernel) (by decide +kernel)) (EvL.cons (EvS.var (i := 4) (by rfl) (by decide +kernel) (by decide +kernel)) EvL.nil (by rfl)) (by rfl))))
 SsS.nil))))))))
theorem dmp_ok : DefOk dDmp ["a", "b"] nDmp where
  bind := fun pm code doc vals h => by
    obtain ⟨a, b, rfl⟩ := vlen2 h
    kernel_rfl
  pre := rfl
  nodup := by decide +kernel
  kinds := by decide +kernel
  free := by decide +kernel
  co := by kernel_rfl
  gen := by kernel_rfl
  fn := by kernel_rfl
noncomputable abbrev nat (a : Nat) : AV := .int (a : Int)
noncomputable abbrev nats (l : List Nat) : List AV := intL (l.map Int.ofNat)
theorem setF_eq {i : Nat} {f : List Slot → Option AV} {sl sl' : List Slot} {av : AV} (h : f sl = some av) (hf : av.firm = true) (hp : putS sl i (.val av) = some sl') : setF i f sl = some (.next, sl') := by
  unfold setF; rw [h, Option.bind_some, if_pos hf, hp]; rfl
theorem unpackF_eq {is : List Nat} {f : List Slot → Option (List AV)} {sl sl' : List Slot} {xs : List AV} (h : f sl = some xs) (hp : putMany sl is xs = some sl') : unpackF is f sl = some (.next, sl') := by
  unfold unpackF; rw [h, Option.bind_some, hp]; rfl
theorem forF_next {i : Nat} {f : SF} {x : AV} {r : List AV} {sl sl1 sl2 : List Slot} (hx : x.firm = true) (hp : putS sl i (.val x) = some sl1) (hf : f sl1 = some (.next, sl2)) : forF i f (x :: r) sl = forF i f r sl2 := by
  rw [forF, if_pos hx, hp, Option.bind_some, hf]; rfl
theorem forF_ret {i : Nat} {f : SF} {x a : AV} {r : List AV} {sl sl1 sl2 : List Slot} (hx : x.firm = true) (hp : putS sl i (.val x) = some sl1) (hf : f sl1 = some (.ret a, sl2)) : forF i f (x :: r) sl = some (.ret a, sl2) := by
  rw [forF, if_pos hx, hp, Option.bind_some, hf]; rfl
theorem asInts_nats (l : List Nat) : asInts (nats l) = some (l.map Int.ofNat) := asInts_map _
theorem freeze_intL (l : List Int) : freezeL (intL l) = intL l := by
  induction l with
  | nil => rfl
  | cons a l ih => show freezeL (.int a :: intL l) = _; unfold freezeL; rw [ih]; rfl
theorem map_ofNat_toNat (l : List Nat) : (l.map Int.ofNat).map Int.toNat = l := by
  induction l with
  | nil => rfl
  | cons a l ih => simp only [List.map_cons, ih]; rfl
theorem bits_lt {x k : Nat} (h : x < 2 ^ k) : Builtin.Int.intBits (x : Int) ≤ k := by
  unfold Builtin.Int.intBits
  split
  · exact Nat.zero_le _
  · next h0 =>
    have hx : x ≠ 0 := fun e => h0 (by rw [e]; rfl)
    show x.log2 + 1 ≤ k
    exact (Nat.log2_lt hx).mpr h
theorem div_nat (v b n : Nat) (hb : 0 < b) (hs : small (b : Int) = true) (hv : v < 2 ^ (n + n)) (hn : n ≤ 4000) : divV [nat v, nat b, nat n] = some (.tup [nat (v / b), nat (v % b)]) := by
  show (if (Builtin.Int.intBits (v : Int) : Int) - (n : Int) ≤ 4000 ∧ (b : Int) ≠ 0 ∧ small (b : Int) = true then some (AV.tup [.int ((v : Int).fdiv b), .int ((v : Int).fmod b)]) else none) = _
  have := bits_lt hv
  rw [if_pos ⟨by lia, by lia, hs⟩, Int.fdiv_eq_ediv_of_nonneg _ (Int.natCast_nonneg b), Int.fmod_eq_emod_of_nonneg _ (Int.natCast_nonneg b)]
  rfl
theorem for_dmp (n b : Nat) (hb : 0 < b) (B : SF) (A0 : AV) (L : List AV)
    (hB : ∀ (r d : Nat) (qs : List Nat) (sv : Slot), r < b → d < 2 ^ n → qs.length < 5000 → B [.val A0, .val (nat b), .val (nat n), .val (.lst L), .val (nat r), .mls (nats qs), .val (nat d), sv, .unset] =
      some (.next, [.val A0, .val (nat b), .val (nat n), .val (.lst L), .val (nat ((r * 2 ^ n + d) % b)), .mls (nats (qs ++ [(r * 2 ^ n + d) / b])), .val (nat d), .val (nat ((r * 2 ^ n + d) / b)), .unset])) :
    ∀ (l : List Nat) (r : Nat) (qs : List Nat) (sv6 sv7 : Slot), r < b → (∀ d ∈ l, d < 2 ^ n) → qs.length + l.length < 5000 → ∃ sv6' sv7', forF 6 B (nats l) [.val A0, .val (nat b), .val (nat n), .val (.lst L), .val (nat r), .mls (nats qs), sv6, sv7, .unset] =
      some (.next, [.val A0, .val (nat b), .val (nat n), .val (.lst L), .val (nat (ldiv n b l r qs).1), .mls (nats (ldiv n b l r qs).2), sv6', sv7', .unset])
  | [], r, qs, sv6, sv7, _, _, _ => ⟨sv6, sv7, rfl⟩
  | d :: l, r, qs, sv6, sv7, hr, hl, hq => by
    simp only [List.length_cons] at hq
    obtain ⟨s6, s7, e⟩ := for_dmp n b hb B A0 L hB l ((r * 2 ^ n + d) % b) (qs ++ [(r * 2 ^ n + d) / b]) (.val (nat d)) (.val (nat ((r * 2 ^ n + d) / b))) (Nat.mod_lt _ hb) (fun x hx => hl x (List.mem_cons_of_mem _ hx)) (by simp; lia)
    refine ⟨s6, s7, ?_⟩
    exact (forF_next rfl rfl (hB r d qs sv7 hr (hl d List.mem_cons_self) (by lia))).trans e
noncomputable def dmpV : List AV → Option AV
  | [.int a, .int b] => if 0 ≤ a ∧ 1 ≤ b ∧ small b = true ∧ Builtin.Int.intBits b * ndig a (Builtin.Int.intBits b) ≤ 3999 ∧ ndig a (Builtin.Int.intBits b) ≤ 30 ∧ Builtin.Int.intBits b ≤ 3900 then some (.tup [nat (a.toNat / b.toNat), nat (a.toNat % b.toNat)]) else none
  | _ => none
theorem dmp_nat (a b : Nat) (hb : 0 < b) (hs : small (b : Int) = true) (h1 : Builtin.Int.intBits (b : Int) * ndig a (Builtin.Int.intBits (b : Int)) ≤ 3999) (h2 : ndig a (Builtin.Int.intBits (b : Int)) ≤ 30) (h3 : Builtin.Int.intBits (b : Int) ≤ 3900) :
    ∃ sl', dmp_.1 [.val (nat a), .val (nat b), .unset, .unset, .unset, .unset, .unset, .unset, .unset] = some (.ret (.tup [nat (a / b), nat (a % b)]), sl') := by
  have hbn : b < 2 ^ Builtin.Int.intBits (b : Int) := lt_bits (b : Int) (Int.natCast_nonneg b)
  generalize hN : Builtin.Int.intBits (b : Int) = n at *
  have hn1 : 1 ≤ n := by
    rcases Nat.eq_zero_or_pos n with h | h
    · rw [h] at hbn; simp at hbn; lia
    · exact h
  have hla : a < 2 ^ (n * ndig a n) := Nat.lt_of_lt_of_le (lt_bits (a : Int) (Int.natCast_nonneg a)) (Nat.pow_le_pow_right (by decide) (ndig_le a n (by lia)))
  have hdl : ∀ d ∈ dgs n (ndig a n) a, d < 2 ^ n := by
    intro d hd
    have key : ∀ m x, ∀ d ∈ dgs n m x, d < 2 ^ n := by
      intro m
      induction m with
      | zero => intro x d h; cases h
      | succ m ih =>
        intro x d h
        rcases List.mem_cons.mp h with rfl | h
        · exact Nat.mod_lt _ (Nat.two_pow_pos _)
        · exact ih _ d h
    exact key _ _ d hd
  generalize hds : dgs n (ndig a n) a = ds at *
  have hdlen : ds.length = ndig a n := by rw [← hds, dgs_len]
  have spec := ldiv_spec n b hb ds.reverse 0 [] 0 (by simp) (by simp [undgs]) (by simp) (fun d hd => hdl d (by simpa using hd))
  have hval : undgs n ds = a := by rw [← hds]; exact undgs_dgs n _ _ hla
  rw [List.reverse_reverse, hval] at spec
  simp only [Nat.mul_zero, Nat.add_zero, List.length_nil, Nat.zero_add, List.length_reverse] at spec
  obtain ⟨sp1, sp2, sp3, sp4⟩ := spec
  have i2 : i2dV [nat a, nat n] = some (.lst (nats ds)) := by
    show (if (0 : Int) ≤ (a : Int) ∧ (1 : Int) ≤ (n : Int) ∧ ((n : Int)).toNat * ndig a n ≤ 4000 ∧ ndig a n ≤ 30 ∧ (n : Int) < 100000 then some (AV.lst (intL ((dgs ((n : Int)).toNat (ndig a n) ((a : Int)).toNat).map Int.ofNat))) else none) = _
    rw [if_pos ⟨by lia, by lia, by rw [Int.toNat_natCast]; lia, h2, by lia⟩, Int.toNat_natCast, Int.toNat_natCast, hds]
  obtain ⟨s6, s7, loop⟩ := for_dmp n b hb (seqF (unpackF [7, 4] fun sl => (((consV (fun sl => ((((sl[4]?.bind Slot.read).bind fun a => (sl[2]?.bind Slot.read).bind fun b => binV .LShift a b)).bind fun a => (sl[6]?.bind Slot.read).bind fun b => binV .Add a b)) (consV (fun sl => sl[1]?.bind Slot.read) (consV (fun sl => sl[2]?.bind Slot.read) fun zq => some []))) sl).bind fun avs => divV (freezeL avs)).bind tupOf)
      (seqF (appendF 5 fun sl => sl[7]?.bind Slot.read) fun sl => some (.next, sl))) (nat a) (nats ds) (fun r d qs sv hr hd hq => by
        have hv : r * 2 ^ n + d < 2 ^ (n + n) := by
          have : (r + 1) * 2 ^ n ≤ 2 ^ n * 2 ^ n := Nat.mul_le_mul_right _ (by lia)
          rw [Nat.add_mul, Nat.one_mul] at this
          rw [Nat.pow_add]; lia
        have e1 : binV .LShift (nat r) (nat n) = some (nat (r * 2 ^ n)) := by
          show (if (small (r : Int) && decide ((0 : Int) ≤ (n : Int)) && decide ((n : Int) < 10000000)) = true then some ((r : Int) * 2 ^ ((n : Int)).toNat) else none).map AV.int = _
          rw [if_pos (by rw [small_of_lt (Nat.lt_trans hr hbn) (by lia), decide_eq_true (Int.natCast_nonneg _), decide_eq_true (by lia)]; rfl), Int.toNat_natCast]
          show some (AV.int _) = some (AV.int _)
          rw [Int.natCast_mul, Int.natCast_pow]; rfl
        have e2 : binV .Add (nat (r * 2 ^ n)) (nat d) = some (nat (r * 2 ^ n + d)) := by
          show some (AV.int (((r * 2 ^ n : Nat) : Int) + (d : Int))) = _
          rw [← Int.natCast_add]
        have e3 := div_nat (r * 2 ^ n + d) b n hb hs hv (by lia)
        refine (seqF_next (sl' := [.val (nat a), .val (nat b), .val (nat n), .val (.lst (nats ds)), .val (nat ((r * 2 ^ n + d) % b)), .mls (nats qs), .val (nat d), .val (nat ((r * 2 ^ n + d) / b)), .unset]) ?_).trans ?_
        · refine unpackF_eq (xs := [nat ((r * 2 ^ n + d) / b), nat ((r * 2 ^ n + d) % b)]) ?_ rfl
          show ((((binV .LShift (nat r) (nat n)).bind fun a => binV .Add a (nat d)).bind fun v => some [v, nat b, nat n]).bind fun avs => divV (freezeL avs)).bind tupOf = _
          rw [e1, Option.bind_some, e2, Option.bind_some, Option.bind_some, show freezeL [nat (r * 2 ^ n + d), nat b, nat n] = [nat (r * 2 ^ n + d), nat b, nat n] from rfl, e3]
          rfl
        · refine (seqF_next (sl' := [.val (nat a), .val (nat b), .val (nat n), .val (.lst (nats ds)), .val (nat ((r * 2 ^ n + d) % b)), .mls (nats (qs ++ [(r * 2 ^ n + d) / b])), .val (nat d), .val (nat ((r * 2 ^ n + d) / b)), .unset]) ?_).trans rfl
          show (if _ ∧ (nats qs).length < 1000000 then some (Fl.next, _) else none) = _
          rw [if_pos ⟨rfl, by simp [nats, intL]; lia⟩]
          simp [nats, intL])
      ds.reverse 0 [] .unset .unset hb (fun d hd => hdl d (by simpa using hd)) (by simp; lia)
  have n2i : d2iV [.lst (nats (ldiv n b ds.reverse 0 []).2.reverse), nat n] = some (nat (a / b)) := by
    show ((asInts (nats (ldiv n b ds.reverse 0 []).2.reverse)).bind fun ds => _) = _
    rw [asInts_nats, Option.bind_some, map_ofNat_toNat, Int.toNat_natCast, sp2, if_pos]
    refine ⟨?_, by lia, ?_, ?_⟩
    · rw [List.all_eq_true]
      intro x hx
      obtain ⟨q, hq, rfl⟩ := List.mem_map.mp hx
      refine decide_eq_true ⟨Int.natCast_nonneg q, ?_⟩
      show q < _
      exact sp3 q (by simpa using hq)
    · rw [List.length_map, List.length_reverse, sp4, hdlen]; exact h1
    · rw [List.length_map, List.length_reverse, sp4, hdlen]; exact h2
  refine ⟨[.val (nat a), .val (nat b), .val (nat n), .val (.lst (nats ds)), .val (nat (a % b)), .mls (nats (ldiv n b ds.reverse 0 []).2.reverse), s6, s7, .val (nat (a / b))], ?_⟩
  rw [sp1] at loop
  unfold dmp_ pk
  dsimp only
  refine (seqF_next (sl' := [.val (nat a), .val (nat b), .val (nat n), .unset, .unset, .unset, .unset, .unset, .unset]) ?_).trans ?_
  · refine setF_eq (av := nat n) ?_ rfl rfl
    show some (AV.int (Builtin.Int.intBits (b : Int) : Int)) = _
    rw [hN]
  refine (seqF_next (sl' := [.val (nat a), .val (nat b), .val (nat n), .val (.lst (nats ds)), .unset, .unset, .unset, .unset, .unset]) ?_).trans ?_
  · exact setF_eq (av := .lst (nats ds)) i2 (firm_intL _) rfl
  refine (seqF_next (sl' := [.val (nat a), .val (nat b), .val (nat n), .val (.lst (nats ds)), .val (nat 0), .unset, .unset, .unset, .unset]) ?_).trans ?_
  · exact setF_eq (av := nat 0) rfl rfl rfl
  refine (seqF_next (sl' := [.val (nat a), .val (nat b), .val (nat n), .val (.lst (nats ds)), .val (nat 0), .mls (nats []), .unset, .unset, .unset]) rfl).trans ?_
  refine (seqF_next (sl' := [.val (nat a), .val (nat b), .val (nat n), .val (.lst (nats ds)), .val (nat (a % b)), .mls (nats (ldiv n b ds.reverse 0 []).2), s6, s7, .unset]) ?_).trans ?_
  · show forF 6 _ (nats ds).reverse _ = _
    rw [show (nats ds).reverse = nats ds.reverse by simp [nats, intL]]
    exact loop
  refine (seqF_next (sl' := [.val (nat a), .val (nat b), .val (nat n), .val (.lst (nats ds)), .val (nat (a % b)), .mls (nats (ldiv n b ds.reverse 0 []).2.reverse), s6, s7, .unset]) ?_).trans ?_
  · show (if (nats (ldiv n b ds.reverse 0 []).2).length < 1000000 then some (Fl.next, _) else none) = _
    rw [if_pos (by simp [nats, intL, sp4, hdlen]; lia)]
    simp [nats, intL]
  refine (seqF_next (sl' := [.val (nat a), .val (nat b), .val (nat n), .val (.lst (nats ds)), .val (nat (a % b)), .mls (nats (ldiv n b ds.reverse 0 []).2.reverse), s6, s7, .val (nat (a / b))]) ?_).trans ?_
  · refine setF_eq (av := nat (a / b)) ?_ rfl rfl
    show d2iV [AV.lst (freezeL (nats (ldiv n b ds.reverse 0 []).2.reverse)), nat n] = _
    rw [show freezeL (nats (ldiv n b ds.reverse 0 []).2.reverse) = nats (ldiv n b ds.reverse 0 []).2.reverse from freeze_intL _]
    exact n2i
  · rfl
set_option tactic.hygienic true in
theorem dmp_eq (avs : List AV) (r : AV) (h : dmpV avs = some r) : callV dmp_.1 nDmp.length 2 avs = some r := by
  unfold dmpV at h
  split at h
  · next a b =>
    split at h
    · next hc =>
      cases h
      obtain ⟨ha, hb, hs, h1, h2, h3⟩ := hc
      have ea : ((a.toNat : Nat) : Int) = a := by lia
      have eb : ((b.toNat : Nat) : Int) = b := by lia
      obtain ⟨sl', e⟩ := dmp_nat a.toNat b.toNat (by lia) (by rw [eb]; exact hs) (by rw [eb, ea]; exact h1) (by rw [eb, ea]; exact h2) (by rw [eb]; exact h3)
      rw [show nat a.toNat = .int a by show AV.int _ = _; rw [ea], show nat b.toNat = .int b by show AV.int _ = _; rw [eb]] at e
      exact call_ret rfl rfl e rfl
    · cases h
  · cases h
theorem dmp_fn (G : Gl) (o : Ok1 G) : Fn G "_divmod_pos" 32 dmpV :=
  Ok1.contract dmp_ok (rec_mem "_divmod_pos" (by kernel_rfl)).1 (rec_mem "_divmod_pos" (by kernel_rfl)).2 dmp_ dmp_eq G o

end Mine
end

section
open PySem PySem.W PyProof.Rows
set_option Elab.async false
set_option tactic.hygienic false
set_option maxRecDepth 100000
set_option autoImplicit false
set_option linter.unusedVariables false
namespace Mine
noncomputable def dIdm : DefRec := recAt "int_divmod"
noncomputable def nIdm : List Str := ["a", "b", "q", "r"]
theorem idm_ok : DefOk dIdm ["a", "b"] nIdm where
  bind := fun pm code doc vals h => by
    obtain ⟨a, b, rfl⟩ := vlen2 h
    kernel_rfl
  pre := rfl
  nodup := by decide +kernel
  kinds := by decide +kernel
  free := by decide +kernel
  co := by kernel_rfl
  gen := by kernel_rfl
  fn := by kernel_rfl
set_option maxHeartbeats 4000000 in
noncomputable def idm1_ : {f : SF // ∀ G, Ok1 G → SsS G 32 nIdm dIdm.scope.names dIdm.body f} :=
    pk fun G o => (SsS.cons (StS.ite (fun W => (TsS.cmp (EvS.var (i := 1) (by rfl) (by decide +kernel) (by decide +kernel)) EvS.int (by rfl)))
 SsS.never
 (SsS.cons (StS.ite (fun W => (TsS.cmp (EvS.var (i := 1) (by rfl) (by decide +kernel) (by decide +kernel)) EvS.int (by rfl)))
 SsS.never
 (SsS.cons (StS.ite (fun W => (TsS.cmp (EvS.var (i := 0) (by rfl) (by decide +kernel) (by decide +kernel)) EvS.int (by rfl)))
 SsS.never
 (SsS.cons (StS.retNew fun W => (EvB.call (dmp_fn G o) (by decide) (by decide +kernel) (by decide +kernel) (EvL.cons (EvS.var (i := 0) (by rfl) (by decide +kernel) (by decide +kernel)) (EvL.cons (EvS.var (i := 1) (by rfl) (by decide +kernel) (by decide +kernel)) EvL.nil (by rfl)) (by rfl)) (by rfl)))
 SsS.nil))
 SsS.nil))
 SsS.nil))
 SsS.nil)
theorem ifF_true {c : List Slot → Option AV} {f g : SF} {sl : List Slot} {a : AV} (h : c sl = some a) (ht : truth a = some true) : ifF c f g sl = f sl := by unfold ifF; rw [h, Option.bind_some, ht]; rfl
theorem ifF_false {c : List Slot → Option AV} {f g : SF} {sl : List Slot} {a : AV} (h : c sl = some a) (ht : truth a = some false) : ifF c f g sl = g sl := by unfold ifF; rw [h, Option.bind_some, ht]; rfl
theorem eq0 (b : Int) : (Option.map AV.bool (cmpV .Eq (.int b) (.int 0))) = some (.bool (b == 0)) := rfl
theorem lt0 (b : Int) : (Option.map AV.bool (cmpV .Lt (.int b) (.int 0))) = some (.bool (decide (b < 0))) := rfl
noncomputable abbrev dmpOk (a b : Int) : Prop := small b = true ∧ Builtin.Int.intBits b * ndig a (Builtin.Int.intBits b) ≤ 3999 ∧ ndig a (Builtin.Int.intBits b) ≤ 30 ∧ Builtin.Int.intBits b ≤ 3900
theorem dmpV_eq {a b : Int} (ha : 0 ≤ a) (hb : 1 ≤ b) (h : dmpOk a b) : dmpV [.int a, .int b] = some (.tup [.int (a / b), .int (a % b)]) := by
  show (if 0 ≤ a ∧ 1 ≤ b ∧ small b = true ∧ Builtin.Int.intBits b * ndig a (Builtin.Int.intBits b) ≤ 3999 ∧ ndig a (Builtin.Int.intBits b) ≤ 30 ∧ Builtin.Int.intBits b ≤ 3900 then some (AV.tup [nat (a.toNat / b.toNat), nat (a.toNat % b.toNat)]) else none) = _
  rw [if_pos ⟨ha, hb, h⟩]
  congr 3
  · show AV.int _ = _
    rw [Int.natCast_ediv, Int.toNat_of_nonneg ha, Int.toNat_of_nonneg (by lia)]
  · congr 1
    show AV.int _ = _
    rw [Int.natCast_emod, Int.toNat_of_nonneg ha, Int.toNat_of_nonneg (by lia)]
noncomputable def idm1V : List AV → Option AV
  | [.int a, .int b] => if 0 ≤ a ∧ 1 ≤ b ∧ dmpOk a b then some (.tup [.int (a / b), .int (a % b)]) else none
  | _ => none
set_option tactic.hygienic true in
theorem idm1_eq (avs : List AV) (r : AV) (h : idm1V avs = some r) : callV idm1_.1 nIdm.length 2 avs = some r := by
  unfold idm1V at h
  split at h
  · next a b =>
    split at h
    · next hc =>
      cases h
      obtain ⟨ha, hb, hg⟩ := hc
      refine call_ret (sl' := [.val (.int a), .val (.int b), .unset, .unset]) rfl rfl ?_ rfl
      show idm1_.1 [.val (.int a), .val (.int b), .unset, .unset] = _
      unfold idm1_ pk
      dsimp only
      refine seqF_ret ((ifF_false (eq0 b) (by rw [show (b == 0) = false by simp; lia]; rfl)).trans (seqF_ret ((ifF_false (lt0 b) (by rw [decide_eq_false (by lia)]; rfl)).trans (seqF_ret ((ifF_false (lt0 a) (by rw [decide_eq_false (by lia)]; rfl)).trans (seqF_ret ?_))))))
      show ((((dmpV [.int a, .int b]).bind newOnly).bind flatLV).map _) = _
      rw [dmpV_eq ha hb hg]; rfl
    · cases h
  · cases h
theorem idm1_fn (G : Gl) (o : Ok1 G) : Fn G "int_divmod" 33 idm1V :=
  Ok1.contract idm_ok (rec_mem "int_divmod" (by kernel_rfl)).1 (rec_mem "int_divmod" (by kernel_rfl)).2 idm1_ idm1_eq G o
set_option maxHeartbeats 4000000 in
noncomputable def idm2_ : {f : SF // ∀ G, Ok1 G → SsS G 33 nIdm dIdm.scope.names dIdm.body f} :=
    pk fun G o => (SsS.cons (StS.ite (fun W => (TsS.cmp (EvS.var (i := 1) (by rfl) (by decide +kernel) (by decide +kernel)) EvS.int (by rfl)))
 SsS.never
 (SsS.cons (StS.ite (fun W => (TsS.cmp (EvS.var (i := 1) (by rfl) (by decide +kernel) (by decide +kernel)) EvS.int (by rfl)))
 SsS.never
 (SsS.cons (StS.ite (fun W => (TsS.cmp (EvS.var (i := 0) (by rfl) (by decide +kernel) (by decide +kernel)) EvS.int (by rfl)))
 (SsS.cons (StS.unpack (is := [2, 3]) (xs := [(_, _), (_, _)]) (by rfl) (by rfl) (fun W => (EvS.call (idm1_fn G o) (by decide) (by decide +kernel) (by decide +kernel) (EvL.cons (EvS.un (EvS.var (i := 0) (by rfl) (by decide +kernel) (by decide +kernel))) (EvL.cons (EvS.var (i := 1) (by rfl) (by decide +kernel) (by decide +kernel)) EvL.nil (by rfl)) (by rfl)) (by rfl))) (fun zq => by rfl) (fun zq => by rfl))
 (SsS.cons (StS.retNew fun W => (EvB.tuple (EvL.cons (EvS.un (EvS.var (i := 2) (by rfl) (by decide +kernel) (by decide +kernel))) (EvL.cons (EvS.bin (EvS.var (i := 1) (by rfl) (by decide +kernel) (by decide +kernel)) (EvS.un (EvS.var (i := 3) (by rfl) (by decide +kernel) (by decide +kernel)))) EvL.nil (by rfl)) (by rfl))))
 SsS.nil))
 (SsS.cons (StS.retNew fun W => (EvB.call (dmp_fn G o) (by decide) (by decide +kernel) (by decide +kernel) (EvL.cons (EvS.var (i := 0) (by rfl) (by decide +kernel) (by decide +kernel)) (EvL.cons (EvS.var (i := 1) (by rfl) (by decide +kernel) (by decide +kernel)) EvL.nil (by rfl)) (by rfl)) (by rfl)))
 SsS.nil))
 SsS.nil))
 SsS.nil))
 SsS.nil)

noncomputable def idm2V : List AV → Option AV
  | [.int a, .int b] => if 1 ≤ b ∧ dmpOk (if a < 0 then -a - 1 else a) b then some (.tup [.int (a / b), .int (a % b)]) else none
  | _ => none
theorem neg_div {a b : Int} (hb : 1 ≤ b) : a / b = -((-a - 1) / b) - 1 ∧ a % b = b + (-((-a - 1) % b) - 1) := by
  have h1 := Int.mul_ediv_add_emod (-a - 1) b
  have h2 := Int.emod_nonneg (-a - 1) (show b ≠ 0 by lia)
  have h3 := Int.emod_lt_of_pos (-a - 1) (show 0 < b by lia)
  refine (Int.ediv_emod_unique (by lia)).mpr ⟨?_, by lia, by lia⟩
  have e : b * (-((-a - 1) / b) - 1) = -(b * ((-a - 1) / b)) - b := by rw [Int.mul_sub, Int.mul_neg, Int.mul_one]
  rw [e]; lia
set_option tactic.hygienic true in
theorem idm2_eq (avs : List AV) (r : AV) (h : idm2V avs = some r) : callV idm2_.1 nIdm.length 2 avs = some r := by
  unfold idm2V at h
  split at h
  · next a b =>
    by_cases hc : 1 ≤ b ∧ dmpOk (if a < 0 then -a - 1 else a) b
    · rw [if_pos hc] at h
      cases h
      obtain ⟨hb, hg⟩ := hc
      by_cases ha : a < 0
      · rw [if_pos ha] at hg
        obtain ⟨e1, e2⟩ := neg_div (a := a) hb
        refine call_ret (sl' := [.val (.int a), .val (.int b), .val (.int ((-a - 1) / b)), .val (.int ((-a - 1) % b))]) rfl rfl ?_ rfl
        show idm2_.1 [.val (.int a), .val (.int b), .unset, .unset] = _
        unfold idm2_ pk
        dsimp only
        refine seqF_ret ((ifF_false (eq0 b) (by rw [show (b == 0) = false by simp; lia]; rfl)).trans (seqF_ret ((ifF_false (lt0 b) (by rw [decide_eq_false (by lia)]; rfl)).trans (seqF_ret ((ifF_true (lt0 a) (by rw [decide_eq_true (by lia)]; rfl)).trans ?_)))))
        refine (seqF_next (sl' := [.val (.int a), .val (.int b), .val (.int ((-a - 1) / b)), .val (.int ((-a - 1) % b))]) ?_).trans ?_
        · refine unpackF_eq (xs := [.int ((-a - 1) / b), .int ((-a - 1) % b)]) ?_ rfl
          show (idm1V [.int (-a - 1), .int b]).bind tupOf = _
          show (if 0 ≤ -a - 1 ∧ 1 ≤ b ∧ dmpOk (-a - 1) b then some (AV.tup [.int ((-a - 1) / b), .int ((-a - 1) % b)]) else none).bind tupOf = _
          rw [if_pos ⟨by lia, hb, hg⟩]; rfl
        · refine seqF_ret ?_
          rw [e1, e2]; rfl
      · rw [if_neg ha] at hg
        refine call_ret (sl' := [.val (.int a), .val (.int b), .unset, .unset]) rfl rfl ?_ rfl
        show idm2_.1 [.val (.int a), .val (.int b), .unset, .unset] = _
        unfold idm2_ pk
        dsimp only
        refine seqF_ret ((ifF_false (eq0 b) (by rw [show (b == 0) = false by simp; lia]; rfl)).trans (seqF_ret ((ifF_false (lt0 b) (by rw [decide_eq_false (by lia)]; rfl)).trans (seqF_ret ((ifF_false (lt0 a) (by rw [decide_eq_false (by lia)]; rfl)).trans (seqF_ret ?_))))))
        show ((((dmpV [.int a, .int b]).bind newOnly).bind flatLV).map _) = _
        rw [dmpV_eq (by lia) hb hg]; rfl
    · rw [if_neg hc] at h; cases h
  · cases h
theorem idm2_fn (G : Gl) (o : Ok1 G) : Fn G "int_divmod" 34 idm2V :=
  Ok1.contract idm_ok (rec_mem "int_divmod" (by kernel_rfl)).1 (rec_mem "int_divmod" (by kernel_rfl)).2 idm2_ idm2_eq G o
set_option maxHeartbeats 4000000 in
noncomputable def idm3_ : {f : SF // ∀ G, Ok1 G → SsS G 34 nIdm dIdm.scope.names dIdm.body f} :=
    pk fun G o => (SsS.cons (StS.ite (fun W => (TsS.cmp (EvS.var (i := 1) (by rfl) (by decide +kernel) (by decide +kernel)) EvS.int (by rfl)))
 SsS.never
 (SsS.cons (StS.ite (fun W => (TsS.cmp (EvS.var (i := 1) (by rfl) (by decide +kernel) (by decide +kernel)) EvS.int (by rfl)))
 (SsS.cons (StS.unpack (is := [2, 3]) (xs := [(_, _), (_, _)]) (by rfl) (by rfl) (fun W => (EvS.call (idm2_fn G o) (by decide) (by decide +kernel) (by decide +kernel) (EvL.cons (EvS.un (EvS.var (i := 0) (by rfl) (by decide +kernel) (by decide +kernel))) (EvL.cons (EvS.un (EvS.var (i := 1) (by rfl) (by decide +kernel) (by decide +kernel))) EvL.nil (by rfl)) (by rfl)) (by rfl))) (fun zq => by rfl) (fun zq => by rfl))
 (SsS.cons (StS.retNew fun W => (EvB.tuple (EvL.cons (EvS.var (i := 2) (by rfl) (by decide +kernel) (by decide +kernel)) (EvL.cons (EvS.un (EvS.var (i := 3) (by rfl) (by decide +kernel) (by decide +kernel))) EvL.nil (by rfl)) (by rfl))))
 SsS.nil))
 (SsS.cons (StS.ite (fun W => (TsS.cmp (EvS.var (i := 0) (by rfl) (by decide +kernel) (by decide +kernel)) EvS.int (by rfl)))
 (SsS.cons (StS.unpack (is := [2, 3]) (xs := [(_, _), (_, _)]) (by rfl) (by rfl) (fun W => (EvS.call (idm2_fn G o) (by decide) (by decide +kernel) (by decide +kernel) (EvL.cons (EvS.un (EvS.var (i := 0) (by rfl) (by decide +kernel) (by decide +kernel))) (EvL.cons (EvS.var (i := 1) (by rfl) (by decide +kernel) (by decide +kernel)) EvL.nil (by rfl)) (by rfl)) (by rfl))) (fun zq => by rfl) (fun zq => by rfl))
 (SsS.cons (StS.retNew fun W => (EvB.tuple (EvL.cons (EvS.un (EvS.var (i := 2) (by rfl) (by decide +kernel) (by decide +kernel))) (EvL.cons (EvS.bin (EvS.var (i := 1) (by rfl) (by decide +kernel) (by decide +kernel)) (EvS.un (EvS.var (i := 3) (by rfl) (by decide +kernel) (by decide +kernel)))) EvL.nil (by rfl)) (by rfl))))
 SsS.nil))
 (SsS.cons (StS.retNew fun W => (EvB.call (dmp_fn G o) (by decide) (by decide +kernel) (by decide +kernel) (EvL.cons (EvS.var (i := 0) (by rfl) (by decide +kernel) (by decide +kernel)) (EvL.cons (EvS.var (i := 1) (by rfl) (by decide +kernel) (by decide +kernel)) EvL.nil (by rfl)) (by rfl)) (by rfl)))
 SsS.nil))
 SsS.nil))
 SsS.nil))
 SsS.nil)

noncomputable abbrev idmOk (a b : Int) : Prop := b ≠ 0 ∧ dmpOk (if (if b < 0 then -a else a) < 0 then -(if b < 0 then -a else a) - 1 else (if b < 0 then -a else a)) (if b < 0 then -b else b)
noncomputable def idmV : List AV → Option AV
  | [.int a, .int b] => if idmOk a b then some (.tup [.int (a.fdiv b), .int (a.fmod b)]) else none
  | _ => none
theorem neg_fdiv {a b : Int} (hb : b < 0) : a.fdiv b = -a / -b ∧ a.fmod b = -(-a % -b) := by
  have h1 : a.fdiv b = -a / -b := by
    rw [← Int.neg_fdiv_neg, Int.fdiv_eq_ediv_of_nonneg _ (by lia)]
  refine ⟨h1, ?_⟩
  have h2 := Int.mul_fdiv_add_fmod a b
  have h3 := Int.mul_ediv_add_emod (-a) (-b)
  rw [h1] at h2
  rw [Int.neg_mul] at h3
  lia
set_option tactic.hygienic true in
theorem idm3_eq (avs : List AV) (r : AV) (h : idmV avs = some r) : callV idm3_.1 nIdm.length 2 avs = some r := by
  unfold idmV at h
  split at h
  · next a b =>
    split at h
    · next hc =>
      cases h
      obtain ⟨hb0, hg⟩ := hc
      by_cases hb : b < 0
      · simp only [if_pos hb] at hg
        obtain ⟨e1, e2⟩ := neg_fdiv (a := a) hb
        refine call_ret (sl' := [.val (.int a), .val (.int b), .val (.int (-a / -b)), .val (.int (-a % -b))]) rfl rfl ?_ rfl
        show idm3_.1 [.val (.int a), .val (.int b), .unset, .unset] = _
        unfold idm3_ pk
        dsimp only
        refine seqF_ret ((ifF_false (eq0 b) (by rw [show (b == 0) = false by simp; lia]; rfl)).trans (seqF_ret ((ifF_true (lt0 b) (by rw [decide_eq_true (by lia)]; rfl)).trans ?_)))
        refine (seqF_next (sl' := [.val (.int a), .val (.int b), .val (.int (-a / -b)), .val (.int (-a % -b))]) ?_).trans ?_
        · refine unpackF_eq (xs := [.int (-a / -b), .int (-a % -b)]) ?_ rfl
          show (if 1 ≤ -b ∧ dmpOk (if -a < 0 then -(-a) - 1 else -a) (-b) then some (AV.tup [.int (-a / -b), .int (-a % -b)]) else none).bind tupOf = _
          rw [if_pos ⟨by lia, hg⟩]; rfl
        · refine seqF_ret ?_
          rw [e1, e2]; rfl
      · simp only [if_neg hb] at hg
        have hb1 : 1 ≤ b := by lia
        have e1 : a.fdiv b = a / b := Int.fdiv_eq_ediv_of_nonneg _ (by lia)
        have e2 : a.fmod b = a % b := Int.fmod_eq_emod_of_nonneg _ (by lia)
        by_cases ha : a < 0
        · rw [if_pos ha] at hg
          obtain ⟨e3, e4⟩ := neg_div (a := a) hb1
          refine call_ret (sl' := [.val (.int a), .val (.int b), .val (.int ((-a - 1) / b)), .val (.int ((-a - 1) % b))]) rfl rfl ?_ rfl
          show idm3_.1 [.val (.int a), .val (.int b), .unset, .unset] = _
          unfold idm3_ pk
          dsimp only
          refine seqF_ret ((ifF_false (eq0 b) (by rw [show (b == 0) = false by simp; lia]; rfl)).trans (seqF_ret ((ifF_false (lt0 b) (by rw [decide_eq_false (by lia)]; rfl)).trans (seqF_ret ((ifF_true (lt0 a) (by rw [decide_eq_true (by lia)]; rfl)).trans ?_)))))
          refine (seqF_next (sl' := [.val (.int a), .val (.int b), .val (.int ((-a - 1) / b)), .val (.int ((-a - 1) % b))]) ?_).trans ?_
          · refine unpackF_eq (xs := [.int ((-a - 1) / b), .int ((-a - 1) % b)]) ?_ rfl
            show (if 1 ≤ b ∧ dmpOk (if -a - 1 < 0 then -(-a - 1) - 1 else -a - 1) b then some (AV.tup [.int ((-a - 1) / b), .int ((-a - 1) % b)]) else none).bind tupOf = _
            rw [if_neg (show ¬ -a - 1 < 0 by lia), if_pos ⟨by lia, hg⟩]; rfl
          · refine seqF_ret ?_
            rw [e1, e2, e3, e4]; rfl
        · rw [if_neg ha] at hg
          refine call_ret (sl' := [.val (.int a), .val (.int b), .unset, .unset]) rfl rfl ?_ rfl
          show idm3_.1 [.val (.int a), .val (.int b), .unset, .unset] = _
          unfold idm3_ pk
          dsimp only
          refine seqF_ret ((ifF_false (eq0 b) (by rw [show (b == 0) = false by simp; lia]; rfl)).trans (seqF_ret ((ifF_false (lt0 b) (by rw [decide_eq_false (by lia)]; rfl)).trans (seqF_ret ((ifF_false (lt0 a) (by rw [decide_eq_false (by lia)]; rfl)).trans (seqF_ret ?_))))))
          show ((((dmpV [.int a, .int b]).bind newOnly).bind flatLV).map _) = _
          rw [dmpV_eq (by lia) hb1 hg, e1, e2]; rfl
    · cases h
  · cases h
theorem idm_fn (G : Gl) (o : Ok1 G) : Fn G "int_divmod" 35 idmV :=
  Ok1.contract idm_ok (rec_mem "int_divmod" (by kernel_rfl)).1 (rec_mem "int_divmod" (by kernel_rfl)).2 idm3_ idm3_eq G o

end Mine
end

section
open PySem PySem.W PyProof.Rows
set_option Elab.async false
set_option tactic.hygienic false
set_option maxRecDepth 100000
set_option autoImplicit false
set_option linter.unusedVariables false
namespace Mine
noncomputable def dLev : DefRec := recAt "_levenshtein_distance"
noncomputable def nLev : List Str := ["a", "b", "max_cost", "pre", "post", "row", "result", "bindex", "bchar", "distance", "minimum", "index", "substitute", "insert_delete"]
set_option maxHeartbeats 4000000 in
noncomputable def lev_ : {f : SF // ∀ G, Ok1 G → SsS G 1 nLev dLev.scope.names dLev.body f} :=
    pk fun G o => (SsS.cons (StS.ite (fun W => (TsS.cmp (EvS.var (i := 0) (by rfl) (by decide +kernel) (by decide +kernel)) (EvS.var (i := 1) (by rfl) (by decide +kernel) (by decide +kernel)) (by rfl)))
 (SsS.cons (StS.ret fun W => EvS.int)
 SsS.nil)
 SsS.nil)
 (SsS.cons (StS.assign (i := 3) (by rfl) (fun W => EvS.int) (fun zq => by rfl))
 (SsS.cons (StS.while 30 (fun W => (TsS.and (TsS.value (EvS.slice (EvS.var (i := 0) (by rfl) (by decide +kernel) (by decide +kernel)) (EvP.yes (EvS.var (i := 3) (by rfl) (by decide +kernel) (by decide +kernel))) EvP.no (by rfl)) (fun zq zq => by rfl)) (TsS.and (TsS.value (EvS.slice (EvS.var (i := 1) (by rfl) (by decide +kernel) (by decide +kernel)) (EvP.yes (EvS.var (i := 3) (by rfl) (by decide +kernel) (by decide +kernel))) EvP.no (by rfl)) (fun zq zq => by rfl)) (TsS.one (TsS.cmp (EvS.idx (EvS.var (i := 0) (by rfl) (by decide +kernel) (by decide +kernel)) (EvS.var (i := 3) (by rfl) (by decide +kernel) (by decide +kernel)) (by rfl)) (EvS.idx (EvS.var (i := 1) (by rfl) (by decide +kernel) (by decide +kernel)) (EvS.var (i := 3) (by rfl) (by decide +kernel) (by decide +kernel)) (by rfl)) (by rfl))))))
 (SsS.cons (StS.aug (i := 3) (by rfl) (fun W => EvS.int))
 SsS.nil))
 (SsS.cons (StS.assign (i := 0) (by rfl) (fun W => (EvS.slice (EvS.var (i := 0) (by rfl) (by decide +kernel) (by decide +kernel)) (EvP.yes (EvS.var (i := 3) (by rfl) (by decide +kernel) (by decide +kernel))) EvP.no (by rfl))) (fun zq => by rfl))
 (SsS.cons (StS.assign (i := 1) (by rfl) (fun W => (EvS.slice (EvS.var (i := 1) (by rfl) (by decide +kernel) (by decide +kernel)) (EvP.yes (EvS.var (i := 3) (by rfl) (by decide +kernel) (by decide +kernel))) EvP.no (by rfl))) (fun zq => by rfl))
 (SsS.cons (StS.assign (i := 4) (by rfl) (fun W => EvS.int) (fun zq => by rfl))
 (SsS.cons (StS.while 30 (fun W => (TsS.and (TsS.value (EvS.slice (EvS.var (i := 0) (by rfl) (by decide +kernel) (by decide +kernel)) EvP.no (EvP.yes (EvS.or (EvS.var (i := 4) (by rfl) (by decide +kernel) (by decide +kernel)) (EvS.one EvS.none))) (by rfl)) (fun zq zq => by rfl)) (TsS.and (TsS.value (EvS.slice (EvS.var (i := 1) (by rfl) (by decide +kernel) (by decide +kernel)) EvP.no (EvP.yes (EvS.or (EvS.var (i := 4) (by rfl) (by decide +kernel) (by decide +kernel)) (EvS.one EvS.none))) (by rfl)) (fun zq zq => by rfl)) (TsS.one (TsS.cmp (EvS.idx (EvS.var (i := 0) (by rfl) (by decide +kernel) (by decide +kernel)) (EvS.bin (EvS.var (i := 4) (by rfl) (by decide +kernel) (by decide +kernel)) EvS.int) (by rfl)) (EvS.idx (EvS.var (i := 1) (by rfl) (by decide +kernel) (by decide +kernel)) (EvS.bin (EvS.var (i := 4) (by rfl) (by decide +kernel) (by decide +kernel)) EvS.int) (by rfl)) (by rfl))))))
 (SsS.cons (StS.aug (i := 4) (by rfl) (fun W => EvS.int))
 SsS.nil))
 (SsS.cons (StS.assign (i := 0) (by rfl) (fun W => (EvS.slice (EvS.var (i := 0) (by rfl) (by decide +kernel) (by decide +kernel)) EvP.no (EvP.yes (EvS.or (EvS.var (i := 4) (by rfl) (by decide +kernel) (by decide +kernel)) (EvS.one EvS.none))) (by rfl))) (fun zq => by rfl))
 (SsS.cons (StS.assign (i := 1) (by rfl) (fun W => (EvS.slice (EvS.var (i := 1) (by rfl) (by decide +kernel) (by decide +kernel)) EvP.no (EvP.yes (EvS.or (EvS.var (i := 4) (by rfl) (by decide +kernel) (by decide +kernel)) (EvS.one EvS.none))) (by rfl))) (fun zq => by rfl))
 (SsS.cons (StS.ite (fun W => (TsS.or (TsS.not (TsS.value (EvS.var (i := 0) (by rfl) (by decide +kernel) (by decide +kernel)) (fun zq zq => by rfl))) (TsS.one (TsS.not (TsS.value (EvS.var (i := 1) (by rfl) (by decide +kernel) (by decide +kernel)) (fun zq zq => by rfl))))))
 (SsS.cons (StS.ret fun W => (EvS.bin (EvS.gint (i := 2) (by decide +kernel) (by rw [o.q]; kernel_rfl) (by decide +kernel)) (EvS.bin (EvS.len (by decide +kernel) (o.noName _ (by kernel_rfl)) (EvL.cons (EvS.var (i := 0) (by rfl) (by decide +kernel) (by decide +kernel)) EvL.nil (by rfl)) (by rfl)) (EvS.len (by decide +kernel) (o.noName _ (by kernel_rfl)) (EvL.cons (EvS.var (i := 1) (by rfl) (by decide +kernel) (by decide +kernel)) EvL.nil (by rfl)) (by rfl)))))
 SsS.nil)
 SsS.nil)
 (SsS.cons (StS.ite (fun W => (TsS.or (TsS.cmp (EvS.len (by decide +kernel) (o.noName _ (by kernel_rfl)) (EvL.cons (EvS.var (i := 0) (by rfl) (by decide +kernel) (by decide +kernel)) EvL.nil (by rfl)) (by rfl)) (EvS.gint (i := 40) (by decide +kernel) (by rw [o.q]; kernel_rfl) (by decide +kernel)) (by rfl)) (TsS.one (TsS.cmp (EvS.len (by decide +kernel) (o.noName _ (by kernel_rfl)) (EvL.cons (EvS.var (i := 1) (by rfl) (by decide +kernel) (by decide +kernel)) EvL.nil (by rfl)) (by rfl)) (EvS.gint (i := 40) (by decide +kernel) (by rw [o.q]; kernel_rfl) (by decide +kernel)) (by rfl)))))
 (SsS.cons (StS.ret fun W => (EvS.bin (EvS.var (i := 2) (by rfl) (by decide +kernel) (by decide +kernel)) EvS.int))
 SsS.nil)
 SsS.nil)
 (SsS.cons (StS.ite (fun W => (TsS.cmp (EvS.len (by decide +kernel) (o.noName _ (by kernel_rfl)) (EvL.cons (EvS.var (i := 1) (by rfl) (by decide +kernel) (by decide +kernel)) EvL.nil (by rfl)) (by rfl)) (EvS.len (by decide +kernel) (o.noName _ (by kernel_rfl)) (EvL.cons (EvS.var (i := 0) (by rfl) (by decide +kernel) (by decide +kernel)) EvL.nil (by rfl)) (by rfl)) (by rfl)))
 SsS.never
 SsS.nil)
 (SsS.cons (StS.ite (fun W => (TsS.cmp (EvS.bin (EvS.bin (EvS.len (by decide +kernel) (o.noName _ (by kernel_rfl)) (EvL.cons (EvS.var (i := 1) (by rfl) (by decide +kernel) (by decide +kernel)) EvL.nil (by rfl)) (by rfl)) (EvS.len (by decide +kernel) (o.noName _ (by kernel_rfl)) (EvL.cons (EvS.var (i := 0) (by rfl) (by decide +kernel) (by decide +kernel)) EvL.nil (by rfl)) (by rfl))) (EvS.gint (i := 2) (by decide +kernel) (by rw [o.q]; kernel_rfl) (by decide +kernel))) (EvS.var (i := 2) (by rfl) (by decide +kernel) (by decide +kernel)) (by rfl)))
 (SsS.cons (StS.ret fun W => (EvS.bin (EvS.var (i := 2) (by rfl) (by decide +kernel) (by decide +kernel)) EvS.int))
 SsS.nil)
 SsS.nil)
 (SsS.cons (StS.assignNew (md := 1) (i := 5) (by decide) (by rfl) (fun W => (EvB.listRange (by decide +kernel) (o.noName _ (by kernel_rfl)) (by decide +kernel) (o.noName _ (by kernel_rfl)) (EvL.cons (EvS.gint (i := 2) (by decide +kernel) (by rw [o.q]; kernel_rfl) (by decide +kernel)) (EvL.cons (EvS.bin (EvS.gint (i := 2) (by decide +kernel) (by rw [o.q]; kernel_rfl) (by decide +kernel)) (EvS.bin (EvS.len (by decide +kernel) (o.noName _ (by kernel_rfl)) (EvL.cons (EvS.var (i := 0) (by rfl) (by decide +kernel) (by decide +kernel)) EvL.nil (by rfl)) (by rfl)) EvS.int)) (EvL.cons (EvS.gint (i := 2) (by decide +kernel) (by rw [o.q]; kernel_rfl) (by decide +kernel)) EvL.nil (by rfl)) (by rfl)) (by rfl)) (by rfl) (fun zq zq => by rfl))) (fun zq => by rfl))
 (SsS.cons (StS.assign (i := 6) (by rfl) (fun W => EvS.int) (fun zq => by rfl))
 (SsS.cons (StS.for (i := 7) (by rfl) (fun W => (EvI.range (by decide +kernel) (o.noName _ (by kernel_rfl)) (EvL.cons (EvS.len (by decide +kernel) (o.noName _ (by kernel_rfl)) (EvL.cons (EvS.var (i := 1) (by rfl) (by decide +kernel) (by decide +kernel)) EvL.nil (by rfl)) (by rfl)) EvL.nil (by rfl)) (by rfl) (fun zq zq => by rfl)))
 (SsS.cons (StS.assign (i := 8) (by rfl) (fun W => (EvS.idx (EvS.var (i := 1) (by rfl) (by decide +kernel) (by decide +kernel)) (EvS.var (i := 7) (by rfl) (by decide +kernel) (by decide +kernel)) (by rfl))) (fun zq => by rfl))
 (SsS.cons (StS.assign2 (i := 9) (j := 6) (by rfl) (by rfl) (fun W => (EvS.bin (EvS.var (i := 7) (by rfl) (by decide +kernel) (by decide +kernel)) (EvS.gint (i := 2) (by decide +kernel) (by rw [o.q]; kernel_rfl) (by decide +kernel)))) (fun zq => by rfl))
 (SsS.cons (StS.assign (i := 10) (by rfl) (fun W => EvS.int) (fun zq => by rfl))
 (SsS.cons (StS.for (i := 11) (by rfl) (fun W => (EvI.range (by decide +kernel) (o.noName _ (by kernel_rfl)) (EvL.cons (EvS.len (by decide +kernel) (o.noName _ (by kernel_rfl)) (EvL.cons (EvS.var (i := 0) (by rfl) (by decide +kernel) (by decide +kernel)) EvL.nil (by rfl)) (by rfl)) EvL.nil (by rfl)) (by rfl) (fun zq zq => by rfl)))
 (SsS.cons (StS.assign (i := 12) (by rfl) (fun W => (EvS.bin (EvS.var (i := 9) (by rfl) (by decide +kernel) (by decide +kernel)) (EvS.call (sub_fn G o) (by decide) (by decide +kernel) (by decide +kernel) (EvL.cons (EvS.var (i := 8) (by rfl) (by decide +kernel) (by decide +kernel)) (EvL.cons (EvS.idx (EvS.var (i := 0) (by rfl) (by decide +kernel) (by decide +kernel)) (EvS.var (i := 11) (by rfl) (by decide +kernel) (by decide +kernel)) (by rfl)) EvL.nil (by rfl)) (by rfl)) (by rfl)))) (fun zq => by rfl))
 (SsS.cons (StS.assign (i := 9) (by rfl) (fun W => (EvS.idx (EvS.var (i := 5) (by rfl) (by decide +kernel) (by decide +kernel)) (EvS.var (i := 11) (by rfl) (by decide +kernel) (by decide +kernel)) (by rfl))) (fun zq => by rfl))
 (SsS.cons (StS.assign (i := 13) (by rfl) (fun W => (EvS.bin (EvS.min (by decide +kernel) (o.noName _ (by kernel_rfl)) (EvL.cons (EvS.var (i := 6) (by rfl) (by decide +kernel) (by decide +kernel)) (EvL.cons (EvS.var (i := 9) (by rfl) (by decide +kernel) (by decide +kernel)) EvL.nil (by rfl)) (by rfl)) (by rfl) (fun zq zq => by rfl)) (EvS.gint (i := 2) (by decide +kernel) (by rw [o.q]; kernel_rfl) (by decide +kernel)))) (fun zq => by rfl))
 (SsS.cons (StS.assign (i := 6) (by rfl) (fun W => (EvS.min (by decide +kernel) (o.noName _ (by kernel_rfl)) (EvL.cons (EvS.var (i := 13) (by rfl) (by decide +kernel) (by decide +kernel)) (EvL.cons (EvS.var (i := 12) (by rfl) (by decide +kernel) (by decide +kernel)) EvL.nil (by rfl)) (by rfl)) (by rfl) (fun zq zq => by rfl))) (fun zq => by rfl))
 (SsS.cons (StS.setItem (i := 5) (by rfl) (by decide +kernel) (fun W => (EvS.var (i := 11) (by rfl) (by decide +kernel) (by decide +kernel))) (fun W => (EvS.var (i := 6) (by rfl) (by decide +kernel) (by decide +kernel))) (fun zq => by rfl))
 (SsS.cons (StS.ite (fun W => (TsS.cmp (EvS.var (i := 6) (by rfl) (by decide +kernel) (by decide +kernel)) (EvS.var (i := 10) (by rfl) (by decide +kernel) (by decide +kernel)) (by rfl)))
 (SsS.cons (StS.assign (i := 10) (by rfl) (fun W => (EvS.var (i := 6) (by rfl) (by decide +kernel) (by decide +kernel))) (fun zq => by rfl))
 SsS.nil)
 SsS.nil)
 SsS.nil)))))) (fun zq zq => by rfl))
 (SsS.cons (StS.ite (fun W => (TsS.cmp (EvS.var (i := 10) (by rfl) (by decide +kernel) (by decide +kernel)) (EvS.var (i := 2) (by rfl) (by decide +kernel) (by decide +kernel)) (by rfl)))
 (SsS.cons (StS.ret fun W => (EvS.bin (EvS.var (i := 2) (by rfl) (by decide +kernel) (by decide +kernel)) EvS.int))
 SsS.nil)
 SsS.nil)
 SsS.nil))))) (fun zq zq => by rfl))
 (SsS.cons (StS.ret fun W => (EvS.var (i := 6) (by rfl) (by decide +kernel) (by decide +kernel)))
 SsS.nil)))))))))))))))))
theorem lev_ok : DefOk dLev ["a", "b", "max_cost"] nLev where
  bind := fun pm code doc vals h => by
    obtain ⟨a, b, c, rfl⟩ := vlen3 h
    kernel_rfl
  pre := rfl
  nodup := by decide +kernel
  kinds := by decide +kernel
  free := by decide +kernel
  co := by kernel_rfl
  gen := by kernel_rfl
  fn := by kernel_rfl

end Mine
end

section
open PySem PySem.W PyProof.Rows
set_option Elab.async false
set_option tactic.hygienic false
namespace Mine
noncomputable abbrev txt (l : List Nat) : Str := ⟨l.toArray⟩
theorem txt_len (l : List Nat) : (txt l).length = l.length := by show l.toArray.size = _; simp
theorem filterMap_range' (l : List Nat) : ∀ (k a : Nat), a + k ≤ l.length → (List.range' a k).filterMap (l.toArray[·]?) = (l.drop a).take k
  | 0, a, _ => by simp
  | k + 1, a, h => by
    have ha : a < l.length := by lia
    rw [List.range'_succ, List.filterMap_cons]
    have e : l.toArray[a]? = some l[a] := by simp [ha]
    rw [e]
    simp only []
    rw [filterMap_range' l k (a + 1) (by lia), List.drop_eq_getElem_cons ha, List.take_succ_cons]
theorem slice_idx (lo hi : Option Int) (n : Nat) : Builtin.Str.strSliceIndices lo hi 1 n = List.range' (lo.elim 0 (clipAt n)) (hi.elim n (clipAt n) - lo.elim 0 (clipAt n)) := by
  have e1 : ∀ (d : Nat) (v : Option Int), (match v with | none => (d : Int) | some i => (let i := if i < 0 then i + (n : Int) else i; if (1 : Int) > 0 then max 0 (min i (n : Int)) else max (-1) (min i ((n : Int) - 1)))) = ((v.elim d (clipAt n) : Nat) : Int) := by
    intro d v
    cases v with
    | none => rfl
    | some i => show _ = ((clipAt n i : Nat) : Int); rw [clipAt_cast]; rfl
  have e0 := e1 0 lo
  have e2 := e1 n hi
  unfold Builtin.Str.strSliceIndices
  simp only [show (1 : Int) > 0 by decide, if_true] at *
  have : sliceRange ((lo.elim 0 (clipAt n) : Nat) : Int) ((hi.elim n (clipAt n) : Nat) : Int) 1 = List.range' (lo.elim 0 (clipAt n)) (hi.elim n (clipAt n) - lo.elim 0 (clipAt n)) := by
    generalize lo.elim 0 (clipAt n) = a
    generalize hi.elim n (clipAt n) = b
    unfold sliceRange
    simp only [show (1 : Int) > 0 by decide, if_true]
    have hc : (if (a : Int) < (b : Int) then ((b : Int) - a + 1 - 1) / 1 else 0).toNat = b - a := by
      split
      · rw [Int.ediv_one]; lia
      · lia
    rw [hc, List.range'_eq_map_range]
    refine List.map_congr_left fun k zq => ?_
    lia
  rw [← this]
  congr 1
theorem txt_slice (l : List Nat) (lo hi : Option Int) : Txt.slice (txt l) lo hi = txt ((l.drop (lo.elim 0 (clipAt l.length))).take (hi.elim l.length (clipAt l.length) - lo.elim 0 (clipAt l.length))) := by
  have hle : ∀ i, clipAt l.length i ≤ l.length := fun i => by have := clipAt_cast l.length i; lia
  have ha : lo.elim 0 (clipAt l.length) ≤ l.length := by cases lo with | none => exact Nat.zero_le _ | some i => exact hle i
  have hb : hi.elim l.length (clipAt l.length) ≤ l.length := by cases hi with | none => exact Nat.le_refl _ | some i => exact hle i
  unfold Txt.slice
  rw [txt_len, slice_idx]
  generalize lo.elim 0 (clipAt l.length) = a at *
  generalize hi.elim l.length (clipAt l.length) = b at *
  split
  · next h =>
    simp only [List.length_range', beq_self_eq_true, Bool.true_and, beq_iff_eq] at h
    have h1 : a = 0 ∨ l.length = 0 := by lia
    have : (l.drop a).take (b - a) = l := by
      rcases h1 with h1 | h1
      · subst h1; rw [List.drop_zero]; exact List.take_of_length_le (by lia)
      · have : l = [] := List.length_eq_zero_iff.mp h1
        subst this; simp
    rw [this]
  · next h =>
    show (⟨(List.filterMap (l.toArray[·]?) _).toArray⟩ : Str) = _
    by_cases hab : a ≤ b
    · rw [filterMap_range' l (b - a) a (by lia)]
    · rw [show b - a = 0 by lia]; simp
end Mine
end

section
open PySem
set_option Elab.async false
set_option tactic.hygienic false
namespace Mine
noncomputable def inn : List Nat → List Nat → Nat → Nat → Nat → List Nat × Nat × Nat
  | c :: cs, d :: row, dist, res, mn =>
    let r := min (min res d + 2) (dist + c)
    let q := inn cs row d r (if r < mn then r else mn)
    (r :: q.1, q.2)
  | _, _, _, res, mn => ([], res, mn)
noncomputable def BIGN : Nat := 9223372036854775807
noncomputable def levOuter (c : Nat → Nat → Nat) (as : List Nat) (mx : Nat) : List Nat → Nat → List Nat → Nat → Nat
  | [], _, _, res => res
  | b :: bs, j, row, _ =>
    let q := inn (as.map (c b)) row (2 * j) (2 * j) BIGN
    if mx < q.2.2 then mx + 1 else levOuter c as mx bs (j + 1) q.1 q.2.1
noncomputable def levDP (c : Nat → Nat → Nat) (as bs : List Nat) (mx : Nat) : Nat := levOuter c as mx bs 0 ((List.range as.length).map fun i => 2 + 2 * i) 0

noncomputable def cpl : List Nat → List Nat → Nat
  | x :: a, y :: b => if x = y then cpl a b + 1 else 0
  | _, _ => 0
noncomputable def lev (c : Nat → Nat → Nat) (a b : List Nat) (mx : Nat) : Nat :=
  if a = b then 0 else
    let p := cpl a b
    let a1 := a.drop p
    let b1 := b.drop p
    let q := cpl a1.reverse b1.reverse
    levDP c (a1.take (a1.length - q)) (b1.take (b1.length - q)) mx

noncomputable def sumTo (w : Nat → Nat) : Nat → Nat
  | 0 => 0
  | n + 1 => sumTo w n + w n
noncomputable def F (w : Nat → Nat) (i j : Nat) : Nat := sumTo w (min i j) + 2 * (i - j) + 2 * (j - i)
theorem F_low (w : Nat → Nat) (i d : Nat) : F w i (i + d) = sumTo w i + 2 * d := by
  unfold F
  rw [Nat.min_eq_left (Nat.le_add_right i d), Nat.sub_eq_zero_of_le (Nat.le_add_right i d), Nat.add_sub_cancel_left]; rfl
theorem F_high (w : Nat → Nat) (j d : Nat) : F w (j + d) j = sumTo w j + 2 * d := by
  unfold F
  rw [Nat.min_eq_right (Nat.le_add_right j d), Nat.sub_eq_zero_of_le (Nat.le_add_right j d), Nat.add_sub_cancel_left]; rfl
theorem min3 {a b c r : Nat} (h1 : b ≤ a) (h2 : b + 2 = r) (h3 : r ≤ c) : min (min a b + 2) c = r := by rw [Nat.min_eq_right h1, h2, Nat.min_eq_left h3]
theorem min3' {a b c r : Nat} (h1 : a ≤ b) (h2 : a + 2 = r) (h3 : r ≤ c) : min (min a b + 2) c = r := by rw [Nat.min_eq_left h1, h2, Nat.min_eq_left h3]
theorem F_step (w : Nat → Nat) (hw : ∀ i, w i ≤ 2) (i j : Nat) : min (min (F w i (j + 1)) (F w (i + 1) j) + 2) (F w i j + (if i = j then w j else 2)) = F w (i + 1) (j + 1) := by
  have hs : ∀ k, sumTo w (k + 1) = sumTo w k + w k := fun zq => rfl
  rcases Nat.lt_trichotomy i j with h | h | h
  · obtain ⟨d, rfl⟩ : ∃ d, j = i + 1 + d := ⟨j - (i + 1), by lia⟩
    rw [F_low w (i + 1) d, show i + 1 + d + 1 = i + 1 + (d + 1) from rfl, F_low w (i + 1) (d + 1), show i + 1 + (d + 1) = i + (d + 2) by lia, F_low, show i + 1 + d = i + (d + 1) by lia, F_low, if_neg (by lia), hs]
    have := hw i
    exact min3 (by lia) (by lia) (by lia)
  · subst h
    rw [F_low w i 1, F_high w i 1, if_pos rfl, show F w i i = sumTo w i + 2 * 0 from F_low w i 0, show F w (i + 1) (i + 1) = sumTo w (i + 1) + 2 * 0 from F_low w (i + 1) 0, hs, Nat.min_self]
    have := hw i
    exact Nat.min_eq_right (by lia)
  · obtain ⟨d, rfl⟩ : ∃ d, i = j + 1 + d := ⟨i - (j + 1), by lia⟩
    rw [F_high w (j + 1) d, show j + 1 + d + 1 = j + 1 + (d + 1) from rfl, F_high w (j + 1) (d + 1), show j + 1 + (d + 1) = j + (d + 2) by lia, F_high, show j + 1 + d = j + (d + 1) by lia, F_high, if_neg (by lia), hs]
    have := hw j
    exact min3' (by lia) (by lia) (by lia)
noncomputable def Wd (w : Nat → Nat) (j i k : Nat) : List Nat := (List.range' i k).map fun t => if t = j then w j else 2
noncomputable def Rw (w : Nat → Nat) (i k j : Nat) : List Nat := (List.range' i k).map fun t => F w (t + 1) j
theorem inn_spec (w : Nat → Nat) (hw : ∀ i, w i ≤ 2) (j k : Nat) : ∀ i mn : Nat, ∃ m', inn (Wd w j i k) (Rw w i k j) (F w i j) (F w i (j + 1)) mn = (Rw w i k (j + 1), F w (i + k) (j + 1), m') ∧ m' ≤ mn ∧ (i ≤ j → j < i + k → m' ≤ F w (j + 1) (j + 1)) := by
  induction k with
  | zero => exact fun i mn => ⟨mn, rfl, Nat.le_refl _, fun h1 h2 => absurd h2 (Nat.not_lt.mpr h1)⟩
  | succ k ih =>
    intro i mn
    obtain ⟨m', e, h3, h4⟩ := ih (i + 1) (if F w (i + 1) (j + 1) < mn then F w (i + 1) (j + 1) else mn)
    have e0 : inn (Wd w j i (k + 1)) (Rw w i (k + 1) j) (F w i j) (F w i (j + 1)) mn = (let r := min (min (F w i (j + 1)) (F w (i + 1) j) + 2) (F w i j + (if i = j then w j else 2)); let q := inn (Wd w j (i + 1) k) (Rw w (i + 1) k j) (F w (i + 1) j) r (if r < mn then r else mn); (r :: q.1, q.2)) := rfl
    rw [F_step w hw i j] at e0
    rw [show i + (k + 1) = i + 1 + k by lia]
    refine ⟨m', by rw [e0]; dsimp only; rw [e]; rfl, Nat.le_trans h3 (by split <;> lia), fun a b => ?_⟩
    by_cases h : i = j
    · subst h
      refine Nat.le_trans h3 ?_
      split
      · exact Nat.le_refl _
      · next h => exact Nat.not_lt.mp h
    · exact h4 (by lia) b
theorem sumTo_mono (w : Nat → Nat) {i j : Nat} (h : i ≤ j) : sumTo w i ≤ sumTo w j := by
  induction h with
  | refl => exact Nat.le_refl _
  | step _ ih => exact Nat.le_trans ih (Nat.le_add_right _ _)
theorem F_zero (w : Nat → Nat) (j : Nat) : F w 0 j = 2 * j := by rw [show F w 0 j = F w 0 (0 + j) by rw [Nat.zero_add], F_low]; simp [sumTo]
theorem F_diag (w : Nat → Nat) (j : Nat) : F w j j = sumTo w j := F_low w j 0
theorem min_same {a b c : Nat} (h : c ≤ 2) : min (min (a + 2) b + 2) (a + c) = min (min a b + 2) (a + c) := by
  rcases Nat.le_total b a with q | q
  · rw [Nat.min_eq_right q, Nat.min_eq_right (Nat.le_add_right_of_le q)]
  · rw [Nat.min_eq_left q, Nat.min_eq_right (Nat.add_le_add_left h a), Nat.min_eq_right]
    exact Nat.le_trans (Nat.add_le_add_left h a) (Nat.add_le_add_right (Nat.le_min.mpr ⟨Nat.le_add_right .., q⟩) 2)
theorem inn_row (w : Nat → Nat) (hw : ∀ i, w i ≤ 2) (j n : Nat) (hj : j ≤ n) : ∃ m', inn (Wd w j 0 (n + 1)) (Rw w 0 (n + 1) j) (2 * j) (2 * j) BIGN = (Rw w 0 (n + 1) (j + 1), F w (n + 1) (j + 1), m') ∧ m' ≤ sumTo w (j + 1) := by
  have first : min (min (2 * j) (F w 1 j) + 2) (2 * j + if 0 = j then w j else 2) = F w 1 (j + 1) := by
    have := F_step w hw 0 j
    rw [F_zero, F_zero] at this
    have hle : (if 0 = j then w j else 2) ≤ 2 := by
      split
      · exact hw j
      · exact Nat.le_refl _
    rw [Nat.zero_add, Nat.mul_add, min_same hle] at this
    exact this
  obtain ⟨m', e, h3, h4⟩ := inn_spec w hw j n 1 (if F w 1 (j + 1) < BIGN then F w 1 (j + 1) else BIGN)
  have e0 : inn (Wd w j 0 (n + 1)) (Rw w 0 (n + 1) j) (2 * j) (2 * j) BIGN = (let r := min (min (2 * j) (F w 1 j) + 2) (2 * j + if 0 = j then w j else 2); let q := inn (Wd w j 1 n) (Rw w 1 n j) (F w 1 j) r (if r < BIGN then r else BIGN); (r :: q.1, q.2)) := rfl
  rw [first] at e0
  rw [Nat.add_comm 1 n] at e
  refine ⟨m', by rw [e0]; dsimp only; rw [e]; rfl, ?_⟩
  rw [← F_diag]
  by_cases h : j = 0
  · subst h
    refine Nat.le_trans h3 ?_
    split
    · exact Nat.le_refl _
    · next h => exact Nat.not_lt.mp h
  · exact h4 (by lia) (by lia)
theorem levOuter_spec (c : Nat → Nat → Nat) (as : List Nat) (w : Nat → Nat) (hw : ∀ i, w i ≤ 2) (mx : Nat) (hmx : sumTo w as.length ≤ mx) (bs : List Nat) :
    ∀ (j res : Nat), j + bs.length = as.length → (bs = [] → res = sumTo w as.length) → (∀ k b, bs[k]? = some b → as.map (c b) = Wd w (j + k) 0 as.length) →
      levOuter c as mx bs j (Rw w 0 as.length j) res = sumTo w as.length := by
  induction bs with
  | nil => exact fun j res zq hr zq => hr rfl
  | cons b bs ih =>
    intro j res hl _ hc
    rw [List.length_cons] at hl
    obtain ⟨n, hn⟩ : ∃ n, as.length = n + 1 := ⟨j + bs.length, hl.symm⟩
    obtain ⟨m', e, hm⟩ := inn_row w hw j n (by lia)
    rw [← hn] at e
    have hs : sumTo w (j + 1) ≤ mx := Nat.le_trans (sumTo_mono w (by lia)) hmx
    have e0 : levOuter c as mx (b :: bs) j (Rw w 0 as.length j) res = (let q := inn (as.map (c b)) (Rw w 0 as.length j) (2 * j) (2 * j) BIGN; if mx < q.2.2 then mx + 1 else levOuter c as mx bs (j + 1) q.1 q.2.1) := rfl
    rw [e0, hc 0 b rfl, Nat.add_zero, e]
    dsimp only
    rw [if_neg (Nat.not_lt.mpr (Nat.le_trans hm hs))]
    refine ih (j + 1) _ (by lia) (fun e => ?_) (fun k b' hk => ?_)
    · subst e
      rw [show j + 1 = as.length from hl]; exact F_diag w _
    · rw [show j + 1 + k = j + (k + 1) by lia]; exact hc (k + 1) b' hk
theorem levDP_spec (c : Nat → Nat → Nat) (as bs : List Nat) (w : Nat → Nat) (hw : ∀ i, w i ≤ 2) (mx : Nat) (hmx : sumTo w as.length ≤ mx) (hl : bs.length = as.length)
    (hc : ∀ i j a b, as[i]? = some a → bs[j]? = some b → c b a = if i = j then w j else 2) : levDP c as bs mx = sumTo w as.length := by
  unfold levDP
  have e : ((List.range as.length).map fun i => 2 + 2 * i) = Rw w 0 as.length 0 := by
    unfold Rw
    rw [List.range_eq_range']
    refine List.map_congr_left fun t zq => ?_
    unfold F; simp [sumTo]; lia
  rw [e]
  refine levOuter_spec c as w hw mx hmx bs 0 0 (by lia) (fun e => ?_) (fun k b hk => ?_)
  · subst e
    rw [← hl]; rfl
  · unfold Wd
    refine List.ext_getElem? fun i => ?_
    rw [List.getElem?_map, List.getElem?_map]
    by_cases hi : i < as.length
    · rw [List.getElem?_eq_getElem hi, List.getElem?_range' hi]
      simp only [Option.map_some, Option.some.injEq, Nat.zero_add, Nat.one_mul]
      have := hc i k as[i] b (List.getElem?_eq_getElem hi) hk
      rw [this]
    · rw [List.getElem?_eq_none (by lia), List.getElem?_eq_none (by simp; lia)]; rfl
structure WApart (c : Nat → Nat → Nat) (a b : List Nat) (w : Nat → Nat) : Prop where
  len : b.length = a.length
  two : ∀ i, w i ≤ 2
  at' : ∀ i j x y, a[i]? = some x → b[j]? = some y → c y x = if i = j then w j else 2
  zero : ∀ i x y, a[i]? = some x → b[i]? = some y → (x = y ↔ w i = 0)
theorem cpl_spec : ∀ (a b : List Nat), cpl a b ≤ a.length ∧ cpl a b ≤ b.length ∧ (∀ i, i < cpl a b → a[i]? = b[i]?) ∧ ∀ x y, a[cpl a b]? = some x → b[cpl a b]? = some y → x ≠ y
  | [], b => by simp [cpl]
  | x :: a, [] => by simp [cpl]
  | x :: a, y :: b => by
    unfold cpl
    split
    · next h =>
      obtain ⟨h1, h2, h3, h4⟩ := cpl_spec a b
      refine ⟨by simp; lia, by simp; lia, fun i hi => ?_, fun u v hu hv => ?_⟩
      · cases i with
        | zero => simp [h]
        | succ i => simpa using h3 i (by lia)
      · exact h4 u v (by simpa using hu) (by simpa using hv)
    · next h => exact ⟨Nat.zero_le _, Nat.zero_le _, fun i hi => absurd hi (by lia), fun u v hu hv => by simp at hu hv; rw [← hu, ← hv]; exact h⟩
theorem WApart.drop {c a b w} (x : WApart c a b w) (p : Nat) : WApart c (a.drop p) (b.drop p) (fun i => w (p + i)) where
  len := by simp [x.len]
  two := fun i => x.two _
  at' := fun i j u v hu hv => by
    rw [List.getElem?_drop] at hu hv
    rw [x.at' _ _ u v hu hv]
    by_cases h : i = j
    · rw [if_pos h, if_pos (by lia)]
    · rw [if_neg h, if_neg (by lia)]
  zero := fun i u v hu hv => by rw [List.getElem?_drop] at hu hv; exact x.zero _ u v hu hv
theorem WApart.take {c a b w} (x : WApart c a b w) (p : Nat) : WApart c (a.take p) (b.take p) w where
  len := by simp [x.len]
  two := x.two
  at' := fun i j u v hu hv => x.at' i j u v (by rw [List.getElem?_take] at hu; split at hu; exact hu; cases hu) (by rw [List.getElem?_take] at hv; split at hv; exact hv; cases hv)
  zero := fun i u v hu hv => x.zero i u v (by rw [List.getElem?_take] at hu; split at hu; exact hu; cases hu) (by rw [List.getElem?_take] at hv; split at hv; exact hv; cases hv)
theorem sumTo_add (w : Nat → Nat) (p : Nat) : ∀ n, sumTo w (p + n) = sumTo w p + sumTo (fun i => w (p + i)) n
  | 0 => rfl
  | n + 1 => by rw [← Nat.add_assoc]; simp only [sumTo, sumTo_add w p n]; lia
theorem sumTo_zero (w : Nat → Nat) : ∀ n, (∀ i, i < n → w i = 0) → sumTo w n = 0
  | 0, _ => rfl
  | n + 1, h => by simp only [sumTo, sumTo_zero w n fun i hi => h i (by lia), h n (by lia)]
theorem lev_spec (c : Nat → Nat → Nat) (a b : List Nat) (w : Nat → Nat) (mx : Nat) (x : WApart c a b w) (hmx : sumTo w a.length ≤ mx) : lev c a b mx = sumTo w a.length := by
  have hz : ∀ n, (∀ i, i < n → a[i]? = b[i]?) → n ≤ a.length → sumTo w n = 0 := fun n h hn => sumTo_zero w n fun i hi =>
    (x.zero i a[i] a[i] (List.getElem?_eq_getElem (by lia)) (by rw [← h i hi]; exact List.getElem?_eq_getElem (by lia))).mp rfl
  unfold lev
  split
  · next h => subst h; exact (hz a.length (fun zq zq => rfl) (Nat.le_refl _)).symm
  · dsimp only
    obtain ⟨p1, p2, p3, p4⟩ := cpl_spec a b
    generalize hp : cpl a b = p at *
    have x1 := x.drop p
    have s1 : sumTo w a.length = sumTo (fun i => w (p + i)) (a.drop p).length := by
      have := sumTo_add w p (a.length - p)
      rw [Nat.add_sub_cancel' p1, hz p p3 p1, Nat.zero_add] at this
      rw [this, List.length_drop]
    rw [s1] at hmx ⊢
    clear p4
    generalize a.drop p = a1 at *
    generalize b.drop p = b1 at *
    generalize (fun i => w (p + i)) = w1 at *
    obtain ⟨q1, q2, q3, q4⟩ := cpl_spec a1.reverse b1.reverse
    generalize cpl a1.reverse b1.reverse = q at *
    rw [List.length_reverse] at q1 q2
    have x2 := x1.take (a1.length - q)
    have hlen : (a1.take (a1.length - q)).length = a1.length - q := by rw [List.length_take]; exact Nat.min_eq_left (Nat.sub_le _ _)
    have s2 : sumTo w1 a1.length = sumTo w1 (a1.length - q) := by
      have := sumTo_add w1 (a1.length - q) q
      rw [Nat.sub_add_cancel q1] at this
      rw [this, sumTo_zero (fun i => w1 (a1.length - q + i)) q, Nat.add_zero]
      intro i hi
      have h1 : a1.length - q + i < a1.length := by lia
      have e := q3 (q - 1 - i) (by lia)
      rw [List.getElem?_reverse (by lia), List.getElem?_reverse (by have := x1.len; lia), x1.len, show a1.length - 1 - (q - 1 - i) = a1.length - q + i by lia] at e
      exact (x1.zero _ a1[a1.length - q + i] a1[a1.length - q + i] (List.getElem?_eq_getElem h1) (by rw [← e]; exact List.getElem?_eq_getElem h1)).mp rfl
    rw [x1.len]
    rw [s2] at hmx ⊢
    have := levDP_spec c (a1.take (a1.length - q)) (b1.take (a1.length - q)) w1 x2.two mx (by rw [hlen]; exact hmx) x2.len x2.at'
    rw [this, hlen]
end Mine
end

section
open PySem PySem.W PyProof.Rows
set_option Elab.async false
set_option tactic.hygienic false
set_option maxRecDepth 100000
set_option autoImplicit false
set_option linter.unusedVariables false
namespace Mine
theorem whileF_run {C : List Slot → Option AV} {f : SF} (st : Nat → List Slot) (N : Nat) (hC : ∀ p, p ≤ N → ∃ av, C (st p) = some av ∧ truth av = some (decide (p < N))) (hF : ∀ p, p < N → f (st p) = some (.next, st (p + 1))) :
    ∀ (fuel p : Nat), p ≤ N → N < p + fuel → whileF C f fuel (st p) = some (.next, st N)
  | 0, p, h, h' => absurd h' (by lia)
  | fuel + 1, p, h, h' => by
    obtain ⟨av, e1, e2⟩ := hC p h
    unfold whileF
    rw [e1, Option.bind_some, e2, Option.bind_some]
    by_cases hp : p < N
    · rw [decide_eq_true hp, if_pos rfl, hF p hp, Option.bind_some]
      exact whileF_run st N hC hF fuel (p + 1) hp (by lia)
    · rw [decide_eq_false hp, if_neg (by decide), show p = N by lia]
theorem forF_inv {i : Nat} {f : SF} (Inv : Nat → List Slot → Prop) (Ret : AV → Prop) (items : List AV)
    (h : ∀ k x sl, items[k]? = some x → Inv k sl → x.firm = true ∧ ∃ sl1, putS sl i (.val x) = some sl1 ∧ ((∃ sl2, f sl1 = some (.next, sl2) ∧ Inv (k + 1) sl2) ∨ ∃ v sl2, f sl1 = some (.ret v, sl2) ∧ Ret v)) :
    ∀ sl, Inv 0 sl → (∃ sl', forF i f items sl = some (.next, sl') ∧ Inv items.length sl') ∨ ∃ v sl', forF i f items sl = some (.ret v, sl') ∧ Ret v := by
  have key : ∀ (n k : Nat) sl, n = items.length - k → k ≤ items.length → Inv k sl → (∃ sl', forF i f (items.drop k) sl = some (.next, sl') ∧ Inv items.length sl') ∨ ∃ v sl', forF i f (items.drop k) sl = some (.ret v, sl') ∧ Ret v := by
    intro n
    induction n with
    | zero =>
      intro k sl h1 h2 iv
      rw [List.drop_eq_nil_of_le (by lia)]
      exact .inl ⟨sl, rfl, by rw [show items.length = k by lia]; exact iv⟩
    | succ n ih =>
      intro k sl h1 h2 iv
      have hk : k < items.length := by lia
      rw [List.drop_eq_getElem_cons hk]
      obtain ⟨hf, sl1, hp, h3⟩ := h k items[k] sl (List.getElem?_eq_getElem hk) iv
      rcases h3 with ⟨sl2, e, iv'⟩ | ⟨v, sl2, e, r⟩
      · rw [forF_next hf hp e]
        exact ih (k + 1) sl2 (by lia) (by lia) iv'
      · exact .inr ⟨v, sl2, forF_ret hf hp e, r⟩
  intro sl iv
  have := key items.length 0 sl (by lia) (Nat.zero_le _) iv
  rw [List.drop_zero] at this
  exact this
theorem sl_from (a : List Nat) (p : Nat) (hp : p ≤ a.length) (h : a.length < 1000000) : sliceV (.str (txt a)) (nat p) .none = some (.str (txt (a.drop p))) := by
  show (if (txt a).length < 1000000 then some (AV.str (Txt.slice (txt a) (some (p : Int)) none)) else none) = _
  rw [txt_len, if_pos h, txt_slice]
  simp only [Option.elim_some, Option.elim_none, clipAt_nat]
  rw [Nat.min_eq_left hp, List.take_of_length_le (by simp)]
noncomputable def postV (q : Nat) : AV := if q = 0 then .none else .int (-(q : Int))
theorem sl_to (a : List Nat) (q : Nat) (h : a.length < 1000000) : sliceV (.str (txt a)) .none (postV q) = some (.str (txt (a.take (a.length - q)))) := by
  unfold postV
  split
  · next h0 =>
    show (if (txt a).length < 1000000 then some (AV.str (Txt.slice (txt a) none none)) else none) = _
    rw [txt_len, if_pos h, txt_slice, h0]
    simp
  · next h0 =>
    show (if (txt a).length < 1000000 then some (AV.str (Txt.slice (txt a) none (some (-(q : Int))))) else none) = _
    rw [txt_len, if_pos h, txt_slice]
    simp only [Option.elim_some, Option.elim_none]
    rw [clipAt_neg _ _ (by lia)]
    simp
theorem truth_txt (l : List Nat) (h : l.length < 1000000) : truth (.str (txt l)) = some (decide (0 < l.length)) := by
  show (if (txt l).length < 1000000 then some (!((txt l).length == 0)) else none) = _
  rw [txt_len, if_pos h]
  congr 1
  cases l <;> simp
theorem cnd62' (j : Int) (h1 : -1000000 < j) (h2 : j < 1000000) : (decide (-(2 ^ 62) < j) && decide (j < 2 ^ 62)) = true := by
  have h3 : (1000000 : Int) ≤ 2 ^ 62 := by decide +kernel
  rw [decide_eq_true (Int.lt_of_lt_of_le h2 h3), decide_eq_true (Int.lt_of_le_of_lt (Int.neg_le_neg h3) h1)]; rfl
theorem idx_txt (a : List Nat) (p x : Nat) (hx : a[p]? = some x) (h : a.length < 1000000) : idxV (.str (txt a)) (nat p) = some (.str (txt [x])) := by
  have hp : p < a.length := (List.getElem?_eq_some_iff.mp hx).1
  have hc := cnd62' (p : Int) (by lia) (by lia)
  simp only [idxV, hc, if_true]
  have e : seqIndex? (p : Int) (txt a).length = some p := by
    rw [txt_len]; unfold seqIndex?
    simp; lia
  rw [e, Option.bind_some]
  have : (txt a).cps[p]? = some x := by show a.toArray[p]? = _; simpa using hx
  rw [this]; rfl
theorem idx_neg (a : List Nat) (q x : Nat) (hq : q < a.length) (hx : a[a.length - 1 - q]? = some x) (h : a.length < 1000000) : idxV (.str (txt a)) (.int (-(q : Int) - 1)) = some (.str (txt [x])) := by
  have hc := cnd62' (-(q : Int) - 1) (by lia) (by lia)
  simp only [idxV, hc, if_true]
  have e : seqIndex? (-(q : Int) - 1) (txt a).length = some (a.length - 1 - q) := by
    rw [txt_len]; unfold seqIndex?
    have hneg : -(q : Int) - 1 < 0 := by lia
    have h1 : (decide (0 ≤ -(q : Int) - 1 + (a.length : Int)) && decide (-(q : Int) - 1 + (a.length : Int) < (a.length : Int))) = true := by
      rw [decide_eq_true (by lia), decide_eq_true (by lia)]; rfl
    simp only [if_pos hneg]
    rw [if_pos h1]
    congr 1; lia
  rw [e, Option.bind_some]
  have : (txt a).cps[a.length - 1 - q]? = some x := by show a.toArray[_]? = _; simpa using hx
  rw [this]; rfl
theorem str1_eq (x y : Nat) : cmpV .Eq (.str (txt [x])) (.str (txt [y])) = some (decide (x = y)) := by
  show some (txt [x] == txt [y]) = _
  congr 1
  by_cases h : x = y
  · subst h; simp
  · rw [decide_eq_false h]
    rw [beq_eq_false_iff_ne]
    intro e
    have := congrArg (fun s : Str => s.cps) e
    simp at this
    exact h this

noncomputable def Ap (f : List Slot → Option AV) (sl : List Slot) : Option AV := f sl
theorem ap_var {i : Nat} {sl : List Slot} {v : AV} (h : sl[i]?.bind Slot.read = some v) : Ap (fun sl => sl[i]?.bind Slot.read) sl = some v := h
theorem ap_con {v : AV} {sl : List Slot} : Ap (fun zq => some v) sl = some v := rfl
theorem ap_cmp {op : CmpOp} {f g : List Slot → Option AV} {sl : List Slot} {u v : AV} {r : Bool} (hf : Ap f sl = some u) (hg : Ap g sl = some v) (h : cmpV op u v = some r) : Ap (fun sl => (f sl).bind fun a => (g sl).bind fun b => (cmpV op a b).map AV.bool) sl = some (.bool r) := by
  show ((Ap f sl).bind fun a => (Ap g sl).bind fun b => (cmpV op a b).map AV.bool) = _
  rw [hf, Option.bind_some, hg, Option.bind_some, h]; rfl
theorem ap_idx {f g : List Slot → Option AV} {sl : List Slot} {a i r : AV} (hf : Ap f sl = some a) (hg : Ap g sl = some i) (h : idxV a i = some r) : Ap (fun sl => (f sl).bind fun a => (g sl).bind fun b => idxV a b) sl = some r := by
  show ((Ap f sl).bind fun a => (Ap g sl).bind fun b => idxV a b) = _
  rw [hf, Option.bind_some, hg, Option.bind_some, h]
theorem ap_bin {op : Operator} {f g : List Slot → Option AV} {sl : List Slot} {a i r : AV} (hf : Ap f sl = some a) (hg : Ap g sl = some i) (h : binV op a i = some r) : Ap (fun sl => (f sl).bind fun a => (g sl).bind fun b => binV op a b) sl = some r := by
  show ((Ap f sl).bind fun a => (Ap g sl).bind fun b => binV op a b) = _
  rw [hf, Option.bind_some, hg, Option.bind_some, h]
theorem ap_slice {f g h : List Slot → Option AV} {sl : List Slot} {a b c r : AV} (hf : Ap f sl = some a) (hg : Ap g sl = some b) (hh : Ap h sl = some c) (e : sliceV a b c = some r) : Ap (fun sl => (f sl).bind fun a => (g sl).bind fun b => (h sl).bind fun c => sliceV a b c) sl = some r := by
  show ((Ap f sl).bind fun a => (Ap g sl).bind fun b => (Ap h sl).bind fun c => sliceV a b c) = _
  rw [hf, Option.bind_some, hg, Option.bind_some, hh, Option.bind_some, e]
theorem ap_fn {f : List Slot → Option (List AV)} {fn : List AV → Option AV} {sl : List Slot} {xs : List AV} {r : AV} (hf : f sl = some xs) (h : fn xs = some r) : Ap (fun sl => (f sl).bind fn) sl = some r := by
  show (f sl).bind fn = _
  rw [hf, Option.bind_some, h]
theorem cons_of {f : List Slot → Option AV} {g : List Slot → Option (List AV)} {sl : List Slot} {a : AV} {as : List AV} (hf : Ap f sl = some a) (hg : g sl = some as) : consV f g sl = some (a :: as) := by
  show (Ap f sl).bind (fun a => (g sl).map (a :: ·)) = _
  rw [hf, Option.bind_some, hg]; rfl
theorem setF_ap {i : Nat} {f : List Slot → Option AV} {sl sl' : List Slot} {av : AV} (h : Ap f sl = some av) (hf : av.firm = true) (hp : putS sl i (.val av) = some sl') : setF i f sl = some (.next, sl') := setF_eq h hf hp
theorem cond_pre {f1 f2 f3 : List Slot → Option AV} {sl : List Slot} (a b u v : List Nat) (p : Nat) (h1 : Ap f1 sl = some (.str (txt u))) (h2 : Ap f2 sl = some (.str (txt v))) (hu : u.length = a.length - p) (hv : v.length = b.length - p)
    (h3 : ∀ x y, a[p]? = some x → b[p]? = some y → Ap f3 sl = some (.bool (decide (x = y)))) (hp : p ≤ cpl a b) (ha : a.length < 1000000) (hb : b.length < 1000000) : ∃ av, andV f1 (andV f2 f3) sl = some av ∧ truth av = some (decide (p < cpl a b)) := by
  obtain ⟨c1, c2, c3, c4⟩ := cpl_spec a b
  show ∃ av, ((Ap f1 sl).bind fun a => (truth a).bind fun c => if c then ((Ap f2 sl).bind fun a => (truth a).bind fun c => if c then Ap f3 sl else some a) else some a) = some av ∧ _
  rw [h1, Option.bind_some, truth_txt u (by lia), Option.bind_some]
  by_cases q1 : 0 < u.length
  · rw [decide_eq_true q1, if_pos rfl, h2, Option.bind_some, truth_txt v (by lia), Option.bind_some]
    by_cases q2 : 0 < v.length
    · rw [decide_eq_true q2, if_pos rfl]
      have e1 : a[p]? = some a[p] := List.getElem?_eq_getElem (by lia)
      have e2 : b[p]? = some b[p] := List.getElem?_eq_getElem (by lia)
      refine ⟨_, h3 _ _ e1 e2, ?_⟩
      show some (decide _) = some (decide _)
      congr 1
      by_cases q : p < cpl a b
      · have := c3 p q
        rw [e1, e2] at this
        rw [decide_eq_true q, decide_eq_true (Option.some.inj this)]
      · have hpe : p = cpl a b := by lia
        rw [decide_eq_false q, decide_eq_false]
        have := c4 a[p] b[p] (by rw [← hpe]; exact e1) (by rw [← hpe]; exact e2)
        exact this
    · refine ⟨.str (txt v), by rw [decide_eq_false q2]; rfl, ?_⟩
      rw [truth_txt v (by lia), decide_eq_false q2, decide_eq_false (by lia)]
  · refine ⟨.str (txt u), by rw [decide_eq_false q1]; rfl, ?_⟩
    rw [truth_txt u (by lia), decide_eq_false q1, decide_eq_false (by lia)]

noncomputable def sc (x y : Nat) : Nat := if x = y then 0 else if Txt.lower (txt [x]) = Txt.lower (txt [y]) then 1 else 2
theorem sub_sc (x y : Nat) : subV [.str (txt [x]), .str (txt [y])] = some (nat (sc x y)) := by
  show (if (txt [x]).length < 100000 ∧ (txt [y]).length < 100000 then some (AV.int (if txt [x] = txt [y] then 0 else if Txt.lower (txt [x]) = Txt.lower (txt [y]) then 1 else 2)) else none) = _
  rw [if_pos ⟨by rw [txt_len]; show 1 < 100000; decide, by rw [txt_len]; show 1 < 100000; decide⟩]
  have : (txt [x] = txt [y]) ↔ x = y := by
    constructor
    · intro e
      have := congrArg (fun s : Str => s.cps) e
      simpa using this
    · rintro rfl; rfl
  unfold sc
  by_cases h : x = y
  · rw [if_pos (this.mpr h), if_pos h]; rfl
  · rw [if_neg (fun e => h (this.mp e)), if_neg h]
    split <;> rfl
theorem min_nat (x y : Nat) : minV [nat x, nat y] = some (nat (min x y)) := by
  show some (AV.int (if (y : Int) < (x : Int) then (y : Int) else (x : Int))) = some (AV.int ((min x y : Nat) : Int))
  congr 2
  split <;> lia
theorem countUp_nat (n : Nat) : countUp 0 (n : Int) = nats (List.range n) := by
  unfold countUp
  rw [show ((n : Int) - 0).toNat = n by lia]
  simp [nats, intL]
theorem range_nat (n : Nat) (h : n < 1000000) : rangeV [nat n] = some (nats (List.range n)) := by
  show (if -1000000 < (n : Int) ∧ (n : Int) < 1000000 then some (countUp 0 (n : Int)) else none) = _
  rw [if_pos ⟨by lia, by lia⟩, countUp_nat]
theorem nats_range_get {n k : Nat} {x : AV} (h : (nats (List.range n))[k]? = some x) : k < n ∧ x = nat k := by
  simp only [nats, intL, List.map_map, List.getElem?_map] at h
  obtain ⟨i, hi, rfl⟩ := Option.map_eq_some_iff.mp h
  have hk : k < n := by have := (List.getElem?_eq_some_iff.mp hi).1; simpa using this
  rw [List.getElem?_range hk] at hi
  cases hi
  exact ⟨hk, rfl⟩
theorem nats_len (l : List Nat) : (nats l).length = l.length := by simp [nats, intL]
theorem nats_get (l : List Nat) (i d : Nat) (h : l[i]? = some d) : (nats l)[i]? = some (nat d) := by simp [nats, intL, h]
theorem nats_set (l : List Nat) (i d : Nat) : (nats l).set i (nat d) = nats (l.set i d) := by simp [nats, intL, List.map_set]
noncomputable abbrev LS (a b : List Nat) (mx : Nat) (pre post row res bi bc dist mn ix sb ins : Slot) : List Slot := [.val (.str (txt a)), .val (.str (txt b)), .val (nat mx), pre, post, row, res, bi, bc, dist, mn, ix, sb, ins]

inductive LII (a b : List Nat) (mx : Nat) (pre post : Slot) (j y : Nat) (q : List Nat × Nat × Nat) : Nat → List Slot → Prop
  | mk (k : Nat) (rk : List Nat) (dk sk mn : Nat) (t11 t12 t13 : Slot) (hl : rk.length = a.length) (hi : q = (rk.take k ++ (inn ((a.map (sc y)).drop k) (rk.drop k) dk sk mn).1, (inn ((a.map (sc y)).drop k) (rk.drop k) dk sk mn).2)) :
      LII a b mx pre post j y q k (LS a b mx pre post (.mls (nats rk)) (.val (nat sk)) (.val (nat j)) (.val (.str (txt [y]))) (.val (nat dk)) (.val (nat mn)) t11 t12 t13)
theorem inn_next (c : Nat) (cs : List Nat) (d : Nat) (row : List Nat) (k dk sk mn : Nat) (hk : k < row.length) (hd : row.drop k = d :: row.drop (k + 1)) :
    ((row.take k ++ (inn (c :: cs) (d :: row.drop (k + 1)) dk sk mn).1, (inn (c :: cs) (d :: row.drop (k + 1)) dk sk mn).2) : List Nat × Nat × Nat) =
      ((row.set k (min (min sk d + 2) (dk + c))).take (k + 1) ++ (inn cs ((row.set k (min (min sk d + 2) (dk + c))).drop (k + 1)) d (min (min sk d + 2) (dk + c)) (if min (min sk d + 2) (dk + c) < mn then min (min sk d + 2) (dk + c) else mn)).1,
        (inn cs ((row.set k (min (min sk d + 2) (dk + c))).drop (k + 1)) d (min (min sk d + 2) (dk + c)) (if min (min sk d + 2) (dk + c) < mn then min (min sk d + 2) (dk + c) else mn)).2) := by
  rw [List.take_add_one, List.getElem?_set_self hk, List.take_set_of_le (Nat.le_refl _), List.drop_set_of_lt (Nat.lt_succ_self k), Option.toList_some, List.append_assoc]
  rfl
theorem lev_inner (B : SF) (a b : List Nat) (mx : Nat) (pre post : Slot) (j y : Nat)
    (hB : ∀ (i x d : Nat) (row : List Nat) (dist res mn : Nat) (s12 s13 : Slot), a[i]? = some x → row.length = a.length → row[i]? = some d →
      B (LS a b mx pre post (.mls (nats row)) (.val (nat res)) (.val (nat j)) (.val (.str (txt [y]))) (.val (nat dist)) (.val (nat mn)) (.val (nat i)) s12 s13) =
        some (.next, LS a b mx pre post (.mls (nats (row.set i (min (min res d + 2) (dist + sc y x))))) (.val (nat (min (min res d + 2) (dist + sc y x)))) (.val (nat j)) (.val (.str (txt [y]))) (.val (nat d))
          (.val (nat (if min (min res d + 2) (dist + sc y x) < mn then min (min res d + 2) (dist + sc y x) else mn))) (.val (nat i)) (.val (nat (dist + sc y x))) (.val (nat (min res d + 2)))))
    (row : List Nat) (dist res mn : Nat) (s11 s12 s13 : Slot) (hrow : row.length = a.length) :
    ∃ (dist' : Nat) (s11' s12' s13' : Slot), forF 11 B (nats (List.range a.length)) (LS a b mx pre post (.mls (nats row)) (.val (nat res)) (.val (nat j)) (.val (.str (txt [y]))) (.val (nat dist)) (.val (nat mn)) s11 s12 s13) =
      some (.next, LS a b mx pre post (.mls (nats (inn (a.map (sc y)) row dist res mn).1)) (.val (nat (inn (a.map (sc y)) row dist res mn).2.1)) (.val (nat j)) (.val (.str (txt [y]))) (.val (nat dist')) (.val (nat (inn (a.map (sc y)) row dist res mn).2.2)) s11' s12' s13')
      ∧ (inn (a.map (sc y)) row dist res mn).1.length = a.length := by
  obtain ⟨q, hq⟩ : ∃ q, inn (a.map (sc y)) row dist res mn = q := ⟨_, rfl⟩
  rw [hq]
  have main := forF_inv (i := 11) (f := B) (LII a b mx pre post j y q) (fun zq => False) (nats (List.range a.length)) (fun k x sl hx iv => ?_)
      (LS a b mx pre post (.mls (nats row)) (.val (nat res)) (.val (nat j)) (.val (.str (txt [y]))) (.val (nat dist)) (.val (nat mn)) s11 s12 s13) (.mk 0 row dist res mn s11 s12 s13 hrow hq.symm)
  · rcases main with ⟨sl', e, iv⟩ | ⟨_, _, _, f⟩
    · rw [nats_len, List.length_range] at iv
      obtain ⟨rk, dk, sk, mk, t11, t12, t13, hl, hi⟩ := iv
      rw [List.take_of_length_le (Nat.le_of_eq hl), List.drop_eq_nil_of_le (Nat.le_of_eq hl), List.drop_eq_nil_of_le (Nat.le_of_eq (List.length_map _))] at hi
      simp only [inn, List.append_nil] at hi
      rw [hi]
      exact ⟨dk, t11, t12, t13, e, hl⟩
    · exact f.elim
  · obtain ⟨rk, dk, sk, mk, t11, t12, t13, hl, hi⟩ := iv
    obtain ⟨hk, rfl⟩ := nats_range_get hx
    have hkl : k < rk.length := Nat.lt_of_lt_of_eq hk hl.symm
    refine ⟨rfl, _, rfl, .inl ⟨_, hB k a[k] rk[k] rk dk sk mk t12 t13 (List.getElem?_eq_getElem hk) hl (List.getElem?_eq_getElem hkl), .mk (k + 1) _ _ _ _ _ _ _ ((List.length_set ..).trans hl) ?_⟩⟩
    have d1 : (a.map (sc y)).drop k = sc y a[k] :: (a.map (sc y)).drop (k + 1) := by
      rw [List.drop_eq_getElem_cons (by rw [List.length_map]; exact hk), List.getElem_map]
    have d2 : rk.drop k = rk[k] :: rk.drop (k + 1) := List.drop_eq_getElem_cons hkl
    rw [hi, d1, d2, inn_next _ _ _ _ _ _ _ _ hkl d2]

end Mine
end

section
open PySem PySem.W PyProof.Rows
set_option Elab.async false
set_option tactic.hygienic false
set_option maxRecDepth 100000
set_option autoImplicit false
set_option linter.unusedVariables false
namespace Mine
theorem or_post {f g : List Slot → Option AV} {sl : List Slot} (q : Nat) (hf : f sl = some (.int (-(q : Int)))) (hg : g sl = some .none) : orV f g sl = some (postV q) := by
  unfold orV postV
  rw [hf, Option.bind_some]
  show (some (-(q : Int) != 0)).bind _ = _
  rw [Option.bind_some]
  by_cases h : q = 0
  · subst h; rw [if_neg (by decide), if_pos rfl, hg]
  · rw [if_pos (by rw [bne_iff_ne]; lia), if_neg h]
theorem lev_ends (a b : List Nat) (hl : b.length = a.length) (hne : a ≠ b) : 0 < (a.drop (cpl a b)).length - cpl (a.drop (cpl a b)).reverse (b.drop (cpl a b)).reverse := by
  obtain ⟨p1, p2, p3, _⟩ := cpl_spec a b
  generalize cpl a b = p at *
  obtain ⟨q1, q2, q3, _⟩ := cpl_spec (a.drop p).reverse (b.drop p).reverse
  generalize cpl (a.drop p).reverse (b.drop p).reverse = q at *
  refine Nat.pos_of_ne_zero fun h => hne ?_
  rw [List.length_reverse, List.length_drop] at q1
  rw [List.length_drop] at h
  obtain ⟨d, hd⟩ : ∃ d, a.length = p + d := ⟨a.length - p, (Nat.add_sub_cancel' p1).symm⟩
  have hd1 : a.length - p = d := by rw [hd, Nat.add_sub_cancel_left]
  rw [hd1] at q1 h
  have hq : q = d := Nat.le_antisymm q1 (Nat.le_of_sub_eq_zero h)
  refine List.ext_getElem? fun i => ?_
  rcases Nat.lt_or_ge i p with hi | hi
  · exact p3 i hi
  · obtain ⟨t, rfl⟩ := Nat.exists_eq_add_of_le hi
    rcases Nat.lt_or_ge t d with ht | ht
    · obtain ⟨r, rfl⟩ := Nat.exists_eq_add_of_le ht
      have hr : r < t.succ + r := Nat.lt_add_of_pos_left (Nat.succ_pos t)
      have e := q3 r (by rw [hq]; exact hr)
      rw [List.getElem?_reverse (by rw [List.length_drop, hd1]; exact hr), List.getElem?_reverse (by rw [List.length_drop, hl, hd1]; exact hr), List.getElem?_drop, List.getElem?_drop, List.length_drop, List.length_drop, hl, hd1] at e
      rw [show t.succ + r - 1 - r = t by lia] at e
      exact e
    · rw [List.getElem?_eq_none (by rw [hd]; exact Nat.add_le_add_left ht p), List.getElem?_eq_none (by rw [hl, hd]; exact Nat.add_le_add_left ht p)]

theorem lo_cons (a : List Nat) (mx y : Nat) (bs : List Nat) (k : Nat) (row : List Nat) (res : Nat) : levOuter sc a mx (y :: bs) k row res = if mx < (inn (a.map (sc y)) row (2 * k) (2 * k) BIGN).2.2 then mx + 1 else levOuter sc a mx bs (k + 1) (inn (a.map (sc y)) row (2 * k) (2 * k) BIGN).1 (inn (a.map (sc y)) row (2 * k) (2 * k) BIGN).2.1 := rfl
noncomputable def RowOk (B : SF) (a b : List Nat) (mx : Nat) (pre post : Slot) : Prop :=
  ∀ (j y : Nat) (row : List Nat) (res : Nat) (s8 s9 s10 s11 s12 s13 : Slot), b[j]? = some y → row.length = a.length →
      ∃ (dist' : Nat) (s11' s12' s13' : Slot), B (LS a b mx pre post (.mls (nats row)) (.val (nat res)) (.val (nat j)) s8 s9 s10 s11 s12 s13) =
        (if mx < (inn (a.map (sc y)) row (2 * j) (2 * j) BIGN).2.2 then some (.ret (nat (mx + 1)), LS a b mx pre post (.mls (nats (inn (a.map (sc y)) row (2 * j) (2 * j) BIGN).1)) (.val (nat (inn (a.map (sc y)) row (2 * j) (2 * j) BIGN).2.1)) (.val (nat j)) (.val (.str (txt [y]))) (.val (nat dist')) (.val (nat (inn (a.map (sc y)) row (2 * j) (2 * j) BIGN).2.2)) s11' s12' s13')
         else some (.next, LS a b mx pre post (.mls (nats (inn (a.map (sc y)) row (2 * j) (2 * j) BIGN).1)) (.val (nat (inn (a.map (sc y)) row (2 * j) (2 * j) BIGN).2.1)) (.val (nat j)) (.val (.str (txt [y]))) (.val (nat dist')) (.val (nat (inn (a.map (sc y)) row (2 * j) (2 * j) BIGN).2.2)) s11' s12' s13'))
        ∧ (inn (a.map (sc y)) row (2 * j) (2 * j) BIGN).1.length = a.length
inductive LOI (a b : List Nat) (mx : Nat) (pre post : Slot) (v : Nat) : Nat → List Slot → Prop
  | mk (k : Nat) (row : List Nat) (res : Nat) (t7 t8 t9 t10 t11 t12 t13 : Slot) (hl : row.length = a.length) (hv : v = levOuter sc a mx (b.drop k) k row res) : LOI a b mx pre post v k (LS a b mx pre post (.mls (nats row)) (.val (nat res)) t7 t8 t9 t10 t11 t12 t13)
theorem lev_outer (B : SF) (a b : List Nat) (mx : Nat) (pre post : Slot) (hl : b.length = a.length)
    (hB : RowOk B a b mx pre post)
    (row0 : List Nat) (hrow : row0.length = a.length) (s7 s8 s9 s10 s11 s12 s13 : Slot) :
    ∃ fl sl', forF 7 B (nats (List.range b.length)) (LS a b mx pre post (.mls (nats row0)) (.val (nat 0)) s7 s8 s9 s10 s11 s12 s13) = some (fl, sl') ∧ (fl = .ret (nat (levOuter sc a mx b 0 row0 0)) ∨ fl = .next ∧ sl'[6]? = some (.val (nat (levOuter sc a mx b 0 row0 0)))) := by
  obtain ⟨v0, hv0⟩ : ∃ v0, levOuter sc a mx b 0 row0 0 = v0 := ⟨_, rfl⟩
  rw [hv0]
  have main := forF_inv (i := 7) (f := B) (LOI a b mx pre post v0) (fun v => v = nat v0) (nats (List.range b.length)) (fun k x sl hx iv => ?_) (LS a b mx pre post (.mls (nats row0)) (.val (nat 0)) s7 s8 s9 s10 s11 s12 s13) (.mk 0 row0 0 s7 s8 s9 s10 s11 s12 s13 hrow hv0.symm)
  · rcases main with ⟨sl', e, iv⟩ | ⟨v, sl', e, rfl⟩
    · rw [nats_len, List.length_range] at iv
      refine ⟨_, sl', e, .inr ⟨rfl, ?_⟩⟩
      obtain ⟨row, res, t7, t8, t9, t10, t11, t12, t13, hl', hv⟩ := iv
      rw [List.drop_eq_nil_of_le (Nat.le_refl _)] at hv
      rw [hv]; rfl
    · exact ⟨_, sl', e, .inl rfl⟩
  · obtain ⟨hk, rfl⟩ := nats_range_get hx
    obtain ⟨row, res, t7, t8, t9, t10, t11, t12, t13, hl', hv⟩ := iv
    obtain ⟨d', u11, u12, u13, e, hlen⟩ := hB k b[k] row res t8 t9 t10 t11 t12 t13 (List.getElem?_eq_getElem hk) hl'
    refine ⟨rfl, _, rfl, ?_⟩
    rw [List.drop_eq_getElem_cons hk, lo_cons] at hv
    split at e
    · next h =>
      rw [if_pos h] at hv
      exact .inr ⟨_, _, e, by rw [hv]⟩
    · next h =>
      rw [if_neg h] at hv
      exact .inl ⟨_, e, .mk (k + 1) _ _ _ _ _ _ _ _ _ hlen hv⟩
theorem ex_next {f g : SF} {sl sl1 : List Slot} {v : Fl} (h : f sl = some (.next, sl1)) (h2 : ∃ sl', g sl1 = some (v, sl')) : ∃ sl', seqF f g sl = some (v, sl') := by rw [seqF_next h]; exact h2
theorem ex_ret {f g : SF} {sl : List Slot} {a : AV} (h : ∃ sl', f sl = some (.ret a, sl')) : ∃ sl', seqF f g sl = some (.ret a, sl') := by obtain ⟨sl', h⟩ := h; exact ⟨sl', seqF_ret h⟩
theorem ex_false {c : List Slot → Option AV} {f g h : SF} {sl : List Slot} {a : AV} {v : Fl} (hc : c sl = some a) (ht : truth a = some false) (hg : g sl = some (.next, sl)) (h2 : ∃ sl', h sl = some (v, sl')) : ∃ sl', seqF (ifF c f g) h sl = some (v, sl') :=
  ex_next ((ifF_false hc ht).trans hg) h2
theorem ap_orpost {f g : List Slot → Option AV} {sl : List Slot} (q : Nat) (hf : Ap f sl = some (.int (-(q : Int)))) (hg : Ap g sl = some .none) : Ap (orV f g) sl = some (postV q) := or_post q hf hg
theorem ap_not {f : List Slot → Option AV} {sl : List Slot} {a : AV} {b : Bool} (hf : Ap f sl = some a) (h : truth a = some b) : Ap (fun sl => (f sl).bind (unV .Not)) sl = some (.bool (!b)) := by
  show (Ap f sl).bind (unV .Not) = _
  rw [hf, Option.bind_some]
  show (truth a).map _ = _
  rw [h]; rfl
theorem ap_or_ff {f g : List Slot → Option AV} {sl : List Slot} {r : AV} (hf : Ap f sl = some (.bool false)) (hg : Ap g sl = some r) : Ap (orV f g) sl = some r := by
  show (Ap f sl).bind (fun a => (truth a).bind fun c => if c then some a else Ap g sl) = _
  rw [hf, Option.bind_some]; exact hg
theorem gt_int (x y : Int) : cmpV .Gt (.int x) (.int y) = some (decide (y < x)) := rfl
theorem lt_int (x y : Int) : cmpV .Lt (.int x) (.int y) = some (decide (x < y)) := rfl
theorem newF_of {i : Nat} {f : List Slot → Option (List AV)} {sl sl' : List Slot} {l : List Nat} (h : f sl = some (nats l)) (hp : putS sl i (.mls (nats l)) = some sl') : newF 1 i f sl = some (.next, sl') := by
  unfold newF
  rw [h, Option.bind_some, if_pos (firm_intL _)]
  show (putS sl i (.mls (nats l))).map _ = _
  rw [hp]; rfl
theorem nums_nats (l : List Nat) : numsOnly (.lst (nats l)) = some (nats l) := by
  show (if (asInts (nats l)).isSome = true then some (nats l) else none) = _
  rw [asInts_nats]; rfl
theorem mul_int (x y : Int) (hx : small x = true) (hy : small y = true) : binV .Mult (.int x) (.int y) = some (.int (x * y)) := by
  show (if (small x && small y) = true then some (x * y) else none).map AV.int = _
  rw [if_pos (by rw [hx, hy]; rfl)]; rfl
theorem small_i (x : Int) (h0 : 0 ≤ x) (h : x < 10000000) : small x = true := by
  have : x = ((x.toNat : Nat) : Int) := by lia
  rw [this]; exact small_nat (by lia)
theorem for_of {i : Nat} {fi : List Slot → Option (List AV)} {B : SF} {sl : List Slot} {xs : List AV} {r : Option (Fl × List Slot)} (h : fi sl = some xs) (hr : forF i B xs sl = r) : (fun sl => (fi sl).bind fun xs => forF i B xs sl) sl = r := by
  show ((fi sl).bind fun xs => forF i B xs sl) = _
  rw [h, Option.bind_some, hr]
theorem ap_call {fn : List AV → Option AV} {f : List Slot → Option (List AV)} {sl : List Slot} {xs : List AV} {r : AV} (hf : f sl = some xs) (hz : freezeL xs = xs) (h : fn xs = some r) : Ap (fun sl => (f sl).bind fun avs => fn (freezeL avs)) sl = some r := by
  show (f sl).bind (fun avs => fn (freezeL avs)) = _
  rw [hf, Option.bind_some, hz, h]
theorem setItem_of {i : Nat} {fi fe : List Slot → Option AV} {sl : List Slot} {l : List Nat} {j d : Nat} (hl : sl[i]?.bind mls? = some (nats l)) (hi : Ap fi sl = some (nat j)) (he : Ap fe sl = some (nat d)) (hj : j < l.length) (h : l.length < 1000000) : setItemF i fi fe sl = some (.next, sl.set i (.mls (nats (l.set j d)))) := by
  show (Ap fe sl).bind (fun v => (Ap fi sl).bind fun j => _) = _
  rw [he, Option.bind_some, hi, Option.bind_some]
  simp only [hl]
  rw [if_pos ⟨rfl, Int.natCast_nonneg j, by rw [nats_len]; lia, by rw [nats_len]; exact h⟩, Int.toNat_natCast, nats_set]
theorem idx_nats (l : List Nat) (j d : Nat) (h : l.length < 1000000) (hd : l[j]? = some d) : idxV (.mut (nats l)) (nat j) = some (nat d) := by
  have hj : j < l.length := (List.getElem?_eq_some_iff.mp hd).1
  have hcnd := cnd62 j (by lia)
  simp only [idxV, AV.any?, hcnd, if_true, Int.toNat_natCast]
  exact nats_get l j d hd
theorem ex_of {v : Fl} {f : SF} {sl sl' : List Slot} (h : f sl = some (v, sl')) : ∃ sl', f sl = some (v, sl') := ⟨sl', h⟩
theorem range_of {f : List Slot → Option (List AV)} {sl : List Slot} {xs ys : List AV} (hf : f sl = some xs) (h : rangeV xs = some ys) : (fun sl => (f sl).bind rangeV) sl = some ys := by
  show (f sl).bind rangeV = _
  rw [hf, Option.bind_some, h]
theorem lev_row (B2 : SF) (fi : List Slot → Option (List AV)) (a b : List Nat) (mx : Nat) (pre post : Slot) (j y : Nat) (row : List Nat) (s11 s12 s13 : Slot) (hrow : row.length = a.length)
    (hfi : ∀ dist res mn, fi (LS a b mx pre post (.mls (nats row)) (.val (nat res)) (.val (nat j)) (.val (.str (txt [y]))) (.val (nat dist)) (.val (nat mn)) s11 s12 s13) = some (nats (List.range a.length)))
    (hB : ∀ (i x d : Nat) (row : List Nat) (dist res mn : Nat) (s12 s13 : Slot), a[i]? = some x → row.length = a.length → row[i]? = some d →
      B2 (LS a b mx pre post (.mls (nats row)) (.val (nat res)) (.val (nat j)) (.val (.str (txt [y]))) (.val (nat dist)) (.val (nat mn)) (.val (nat i)) s12 s13) =
        some (.next, LS a b mx pre post (.mls (nats (row.set i (min (min res d + 2) (dist + sc y x))))) (.val (nat (min (min res d + 2) (dist + sc y x)))) (.val (nat j)) (.val (.str (txt [y]))) (.val (nat d))
          (.val (nat (if min (min res d + 2) (dist + sc y x) < mn then min (min res d + 2) (dist + sc y x) else mn))) (.val (nat i)) (.val (nat (dist + sc y x))) (.val (nat (min res d + 2)))))
    (c : List Slot → Option AV) (fr : SF) (hc : ∀ (row' : List Nat) (res' dist' mn' : Nat) (t11 t12 t13 : Slot), Ap c (LS a b mx pre post (.mls (nats row')) (.val (nat res')) (.val (nat j)) (.val (.str (txt [y]))) (.val (nat dist')) (.val (nat mn')) t11 t12 t13) = some (.bool (decide (mx < mn'))))
    (hr : ∀ (row' : List Nat) (res' dist' mn' : Nat) (t11 t12 t13 : Slot), fr (LS a b mx pre post (.mls (nats row')) (.val (nat res')) (.val (nat j)) (.val (.str (txt [y]))) (.val (nat dist')) (.val (nat mn')) t11 t12 t13) = some (.ret (nat (mx + 1)), LS a b mx pre post (.mls (nats row')) (.val (nat res')) (.val (nat j)) (.val (.str (txt [y]))) (.val (nat dist')) (.val (nat mn')) t11 t12 t13)) :
    ∃ (dist' : Nat) (s11' s12' s13' : Slot), seqF (fun sl => (fi sl).bind fun xs => forF 11 B2 xs sl) (seqF (ifF c fr fun sl => some (.next, sl)) fun sl => some (.next, sl)) (LS a b mx pre post (.mls (nats row)) (.val (nat (2 * j))) (.val (nat j)) (.val (.str (txt [y]))) (.val (nat (2 * j))) (.val (nat BIGN)) s11 s12 s13) =
        (if mx < (inn (a.map (sc y)) row (2 * j) (2 * j) BIGN).2.2 then some (.ret (nat (mx + 1)), LS a b mx pre post (.mls (nats (inn (a.map (sc y)) row (2 * j) (2 * j) BIGN).1)) (.val (nat (inn (a.map (sc y)) row (2 * j) (2 * j) BIGN).2.1)) (.val (nat j)) (.val (.str (txt [y]))) (.val (nat dist')) (.val (nat (inn (a.map (sc y)) row (2 * j) (2 * j) BIGN).2.2)) s11' s12' s13')
         else some (.next, LS a b mx pre post (.mls (nats (inn (a.map (sc y)) row (2 * j) (2 * j) BIGN).1)) (.val (nat (inn (a.map (sc y)) row (2 * j) (2 * j) BIGN).2.1)) (.val (nat j)) (.val (.str (txt [y]))) (.val (nat dist')) (.val (nat (inn (a.map (sc y)) row (2 * j) (2 * j) BIGN).2.2)) s11' s12' s13'))
        ∧ (inn (a.map (sc y)) row (2 * j) (2 * j) BIGN).1.length = a.length := by
  obtain ⟨dist', s11', s12', s13', e, hlen⟩ := lev_inner B2 a b mx pre post j y hB row (2 * j) (2 * j) BIGN s11 s12 s13 hrow
  refine ⟨dist', s11', s12', s13', ?_, hlen⟩
  rw [seqF_next (for_of (hfi _ _ _) e)]
  by_cases h : mx < (inn (a.map (sc y)) row (2 * j) (2 * j) BIGN).2.2
  · rw [if_pos h]
    exact seqF_ret ((ifF_true (hc _ _ _ _ _ _ _) (by rw [decide_eq_true h]; rfl)).trans (hr _ _ _ _ _ _ _))
  · rw [if_neg h]
    exact seqF_next ((ifF_false (hc _ _ _ _ _ _ _) (by rw [decide_eq_false h]; rfl)).trans rfl)
theorem ex4_next {f g : SF} {sl sl1 : List Slot} {R : Nat → Slot → Slot → Slot → Option (Fl × List Slot)} {P : Prop} (h : f sl = some (.next, sl1)) (h2 : ∃ (d : Nat) (s t u : Slot), g sl1 = R d s t u ∧ P) : ∃ (d : Nat) (s t u : Slot), seqF f g sl = R d s t u ∧ P := by rw [seqF_next h]; exact h2
theorem assign2_ap {i j : Nat} {f : List Slot → Option AV} {sl sl' : List Slot} {a : AV} (h : Ap f sl = some a) (hp : putMany sl [i, j] [a, a] = some sl') : (fun sl => (f sl).bind fun a => (putMany sl [i, j] [a, a]).map fun sl' => ((Fl.next : Fl), sl')) sl = some (.next, sl') := by
  show (Ap f sl).bind (fun a => (putMany sl [i, j] [a, a]).map fun sl' => ((Fl.next : Fl), sl')) = _
  rw [h, Option.bind_some, hp]; rfl
theorem newF_ap {i : Nat} {f : List Slot → Option AV} {sl sl' : List Slot} {l : List Nat} (h : Ap f sl = some (.lst (nats l))) (hp : putS sl i (.mls (nats l)) = some sl') : newF 1 i (fun sl => (f sl).bind numsOnly) sl = some (.next, sl') := by
  refine newF_of ?_ hp
  show (Ap f sl).bind numsOnly = _
  rw [h, Option.bind_some, nums_nats]
theorem lev_end (B : SF) (fi : List Slot → Option (List AV)) (a b : List Nat) (mx : Nat) (pre post : Slot) (hl : b.length = a.length)
    (hfi : fi (LS a b mx pre post (.mls (nats ((List.range a.length).map fun i => 2 + 2 * i))) (.val (nat 0)) .unset .unset .unset .unset .unset .unset .unset) = some (nats (List.range b.length)))
    (hB : RowOk B a b mx pre post) :
    ∃ sl', seqF (fun sl => (fi sl).bind fun xs => forF 7 B xs sl) (seqF (retF fun sl => (sl[6]?.bind Slot.read).bind flatV) fun sl => some (.next, sl)) (LS a b mx pre post (.mls (nats ((List.range a.length).map fun i => 2 + 2 * i))) (.val (nat 0)) .unset .unset .unset .unset .unset .unset .unset) = some (.ret (nat (levDP sc a b mx)), sl') := by
  obtain ⟨fl, sl', e, rfl | ⟨rfl, h6⟩⟩ := lev_outer B a b mx pre post hl hB ((List.range a.length).map fun i => 2 + 2 * i) (by simp) .unset .unset .unset .unset .unset .unset .unset
  · exact ex_ret ⟨_, for_of hfi e⟩
  · refine ex_next (for_of hfi e) (ex_ret ⟨sl', ?_⟩)
    show (((sl'[6]?.bind Slot.read).bind flatV).map fun a => (Fl.ret a, sl')) = _
    rw [h6]; rfl
theorem lenV_txt (l : List Nat) (h : l.length < 1000000) : lenV [.str (txt l)] = some (nat l.length) := by
  show (if (txt l).length < 1000000 then some (AV.int ((txt l).length : Nat)) else none) = _
  rw [txt_len, if_pos h]
theorem gt_nat (x y : Nat) : cmpV .Gt (nat x) (nat y) = some (decide (y < x)) := by
  show some (decide ((y : Int) < (x : Int))) = _
  congr 1
  exact decide_eq_decide.mpr Int.ofNat_lt
theorem lt_nat (x y : Nat) : cmpV .Lt (nat x) (nat y) = some (decide (x < y)) := by
  show some (decide ((x : Int) < (y : Int))) = _
  congr 1
  exact decide_eq_decide.mpr Int.ofNat_lt
theorem row_nat (m : Nat) (hm : 1 ≤ m) (h : m < 1000) : listRangeV [.int 2, .int (2 * ((m : Int) + 1)), .int 2] = some (.lst (nats ((List.range m).map fun i => 2 + 2 * i))) := by
  show (if -1000000 < (2 : Int) ∧ (2 : Int) < 2 * ((m : Int) + 1) ∧ 2 * ((m : Int) + 1) < 1000000 ∧ (0 : Int) < 2 ∧ (2 : Int) < 1000000 then some (AV.lst (stepUp 2 (2 * ((m : Int) + 1)) 2)) else none) = _
  rw [if_pos ⟨by lia, by lia, by lia, by lia, by lia⟩]
  unfold stepUp
  rw [show ((2 * ((m : Int) + 1) - 2 - 1) / 2 + 1).toNat = m by lia]
  simp only [nats, intL, List.map_map]
  congr 2
  refine List.map_congr_left fun i zq => ?_
  show AV.int _ = AV.int _
  congr 1
  show (2 : Int) + (i : Int) * 2 = ((2 + 2 * i : Nat) : Int)
  lia
noncomputable abbrev LU (a b : List Nat) (mx : Nat) (pre post : Slot) : List Slot := LS a b mx pre post .unset .unset .unset .unset .unset .unset .unset .unset .unset
set_option maxHeartbeats 4000000 in
theorem lev_run (a b : List Nat) (mx : Nat) (hl : b.length = a.length) (hn : a.length ≤ 20) : ∃ sl', lev_.1 (LU a b mx .unset .unset) = some (.ret (nat (lev sc a b mx)), sl') := by
  unfold lev_ pk
  dsimp only
  by_cases hab : a = b
  · subst hab
    have h0 : lev sc a a mx = 0 := by unfold lev; rw [if_pos rfl]
    rw [h0]
    refine ex_ret ⟨_, (ifF_true (a := .bool true) ?_ rfl).trans (seqF_ret rfl)⟩
    show (cmpV .Eq (.str (txt a)) (.str (txt a))).map AV.bool = _
    rw [eq_strs, beq_self_eq_true]; rfl
  have hne : (txt a == txt b) = false := by
    rw [beq_eq_false_iff_ne]
    intro e
    have := congrArg (fun s : Str => s.cps) e
    simp at this
    exact hab this
  have hends := lev_ends a b hl hab
  have hlev : lev sc a b mx = levDP sc ((a.drop (cpl a b)).take ((a.drop (cpl a b)).length - cpl (a.drop (cpl a b)).reverse (b.drop (cpl a b)).reverse)) ((b.drop (cpl a b)).take ((b.drop (cpl a b)).length - cpl (a.drop (cpl a b)).reverse (b.drop (cpl a b)).reverse)) mx := by
    unfold lev; rw [if_neg hab]
  obtain ⟨p1, p2, _, _⟩ := cpl_spec a b
  have ha1 : (a.drop (cpl a b)).length ≤ 20 := by rw [List.length_drop]; lia
  have hl1 : (b.drop (cpl a b)).length = (a.drop (cpl a b)).length := by rw [List.length_drop, List.length_drop, hl]
  rw [hlev]
  refine ex_false (a := .bool false) ?_ rfl rfl ?_
  · show (cmpV .Eq (.str (txt a)) (.str (txt b))).map AV.bool = _
    rw [eq_strs, hne]; rfl
  refine ex_next (sl1 := LU a b mx (.val (nat 0)) .unset) rfl ?_
  refine ex_next (sl1 := LU a b mx (.val (nat (cpl a b))) .unset) ?_ ?_
  · refine whileF_run (fun p => LU a b mx (.val (nat p)) .unset) (cpl a b) (fun p hp => ?_) (fun p hp => rfl) 30 0 (Nat.zero_le _) (by lia)
    refine cond_pre a b (a.drop p) (b.drop p) p ?_ ?_ (by rw [List.length_drop]) (by rw [List.length_drop]) (fun x y hx hy => ?_) hp (by lia) (by lia)
    · exact ap_slice (ap_var rfl) (ap_var rfl) ap_con (sl_from a p (by lia) (by lia))
    · exact ap_slice (ap_var rfl) (ap_var rfl) ap_con (sl_from b p (by lia) (by lia))
    · exact ap_cmp (ap_idx (ap_var rfl) (ap_var rfl) (idx_txt a p x hx (by lia))) (ap_idx (ap_var rfl) (ap_var rfl) (idx_txt b p y hy (by lia))) (str1_eq x y)
  refine ex_next (sl1 := LU (a.drop (cpl a b)) b mx (.val (nat (cpl a b))) .unset) ?_ ?_
  · exact setF_eq (av := .str (txt (a.drop (cpl a b)))) (sl_from a (cpl a b) p1 (by lia)) rfl rfl
  refine ex_next (sl1 := LU (a.drop (cpl a b)) (b.drop (cpl a b)) mx (.val (nat (cpl a b))) .unset) ?_ ?_
  · exact setF_eq (av := .str (txt (b.drop (cpl a b)))) (sl_from b (cpl a b) p2 (by lia)) rfl rfl
  clear hlev p1 p2 hl hn hab hne
  generalize a.drop (cpl a b) = a1 at *
  generalize b.drop (cpl a b) = b1 at *
  generalize cpl a b = p at *
  obtain ⟨q1, q2, _, _⟩ := cpl_spec a1.reverse b1.reverse
  rw [List.length_reverse] at q1 q2
  refine ex_next (sl1 := LU a1 b1 mx (.val (nat p)) (.val (.int (-((0 : Nat) : Int))))) rfl ?_
  refine ex_next (sl1 := LU a1 b1 mx (.val (nat p)) (.val (.int (-((cpl a1.reverse b1.reverse : Nat) : Int))))) ?_ ?_
  · refine whileF_run (fun q => LU a1 b1 mx (.val (nat p)) (.val (.int (-(q : Int))))) (cpl a1.reverse b1.reverse) (fun q hq => ?_) (fun q hq => ?_) 30 0 (Nat.zero_le _) (by lia)
    · refine cond_pre a1.reverse b1.reverse (a1.take (a1.length - q)) (b1.take (b1.length - q)) q ?_ ?_ (by rw [List.length_take, List.length_reverse]; lia) (by rw [List.length_take, List.length_reverse]; lia) (fun x y hx hy => ?_) hq (by rw [List.length_reverse]; lia) (by rw [List.length_reverse]; lia)
      · exact ap_slice (ap_var rfl) ap_con (ap_orpost q (ap_var rfl) ap_con) (sl_to a1 q (by lia))
      · exact ap_slice (ap_var rfl) ap_con (ap_orpost q (ap_var rfl) ap_con) (sl_to b1 q (by lia))
      · have ha : q < a1.length := by have := (List.getElem?_eq_some_iff.mp hx).1; rw [List.length_reverse] at this; exact this
        have hb : q < b1.length := by lia
        rw [List.getElem?_reverse ha] at hx
        rw [List.getElem?_reverse hb] at hy
        exact ap_cmp (ap_idx (ap_var rfl) (ap_bin (ap_var rfl) ap_con rfl) (idx_neg a1 q x ha hx (by lia))) (ap_idx (ap_var rfl) (ap_bin (ap_var rfl) ap_con rfl) (idx_neg b1 q y hb hy (by lia))) (str1_eq x y)
    · show some (Fl.next, LU a1 b1 mx (.val (nat p)) (.val (.int (-(q : Int) - 1)))) = some (Fl.next, LU a1 b1 mx (.val (nat p)) (.val (.int (-((q + 1 : Nat) : Int)))))
      rw [show -(q : Int) - 1 = -((q + 1 : Nat) : Int) by lia]
  generalize cpl a1.reverse b1.reverse = q at *
  refine ex_next (sl1 := LU (a1.take (a1.length - q)) b1 mx (.val (nat p)) (.val (.int (-(q : Int))))) ?_ ?_
  · exact setF_ap (ap_slice (ap_var rfl) ap_con (ap_orpost q (ap_var rfl) ap_con) (sl_to a1 q (by lia))) rfl rfl
  refine ex_next (sl1 := LU (a1.take (a1.length - q)) (b1.take (b1.length - q)) mx (.val (nat p)) (.val (.int (-(q : Int))))) ?_ ?_
  · exact setF_ap (ap_slice (ap_var rfl) ap_con (ap_orpost q (ap_var rfl) ap_con) (sl_to b1 q (by lia))) rfl rfl
  have hl2 : (b1.take (b1.length - q)).length = (a1.take (a1.length - q)).length := by rw [List.length_take, List.length_take, hl1]
  have hm1 : 1 ≤ (a1.take (a1.length - q)).length := by rw [List.length_take]; lia
  have hm2 : (a1.take (a1.length - q)).length ≤ 20 := by rw [List.length_take]; lia
  generalize a1.take (a1.length - q) = a2 at *
  generalize b1.take (b1.length - q) = b2 at *
  clear hends ha1 hl1 q1 q2
  generalize (Slot.val (nat p)) = pre at *
  generalize (Slot.val (AV.int (-(q : Int)))) = post at *
  refine ex_false (a := .bool false) ?_ rfl rfl ?_
  · exact ap_or_ff (ap_not (b := true) (ap_var rfl) (by rw [truth_txt a2 (by lia), decide_eq_true (by lia)])) (ap_not (b := true) (ap_var rfl) (by rw [truth_txt b2 (by lia), decide_eq_true (by lia)]))
  refine ex_false (a := .bool false) ?_ rfl rfl ?_
  · refine ap_or_ff (ap_cmp (ap_fn (cons_of (ap_var rfl) rfl) (lenV_txt a2 (by lia))) ap_con ((gt_int _ _).trans ?_)) (ap_cmp (ap_fn (cons_of (ap_var rfl) rfl) (lenV_txt b2 (by lia))) ap_con ((gt_int _ _).trans ?_))
    · rw [decide_eq_false (by lia)]
    · rw [decide_eq_false (by lia)]
  refine ex_false (a := .bool false) ?_ rfl rfl ?_
  · refine ap_cmp (ap_fn (cons_of (ap_var rfl) rfl) (lenV_txt b2 (by lia))) (ap_fn (cons_of (ap_var rfl) rfl) (lenV_txt a2 (by lia))) ((lt_int _ _).trans ?_)
    rw [decide_eq_false (by lia)]
  refine ex_false (a := .bool false) ?_ rfl rfl ?_
  · refine ap_cmp (ap_bin (ap_bin (a := nat b2.length) (i := nat a2.length) (r := .int 0) (ap_fn (cons_of (ap_var rfl) rfl) (lenV_txt b2 (by lia))) (ap_fn (cons_of (ap_var rfl) rfl) (lenV_txt a2 (by lia))) ?_) ap_con (mul_int _ _ (small_i _ (by lia) (by lia)) (small_i _ (by lia) (by lia)))) (ap_var rfl) ((gt_int _ _).trans ?_)
    · show some (AV.int ((b2.length : Int) - (a2.length : Int))) = _
      rw [show (b2.length : Int) - (a2.length : Int) = 0 by lia]
    · rw [decide_eq_false (by lia)]
  refine ex_next (sl1 := LS a2 b2 mx pre post (.mls (nats ((List.range a2.length).map fun i => 2 + 2 * i))) .unset .unset .unset .unset .unset .unset .unset .unset) ?_ ?_
  · exact newF_ap (ap_fn (cons_of ap_con (cons_of (ap_bin ap_con (ap_bin (ap_fn (cons_of (ap_var rfl) rfl) (lenV_txt a2 (by lia))) ap_con rfl) (mul_int _ _ (small_i _ (by lia) (by lia)) (small_i _ (by lia) (by lia)))) (cons_of ap_con rfl))) (row_nat a2.length hm1 (by lia))) rfl
  refine ex_next (sl1 := LS a2 b2 mx pre post (.mls (nats ((List.range a2.length).map fun i => 2 + 2 * i))) (.val (nat 0)) .unset .unset .unset .unset .unset .unset .unset) rfl ?_
  refine lev_end _ _ a2 b2 mx pre post hl2 ?_ ?_
  · exact range_of (cons_of (ap_fn (cons_of (ap_var rfl) rfl) (lenV_txt b2 (by lia))) rfl) (range_nat b2.length (by lia))
  · intro j y row res s8 s9 s10 s11 s12 s13 hy hrow
    have hj : j < b2.length := (List.getElem?_eq_some_iff.mp hy).1
    refine ex4_next (sl1 := LS a2 b2 mx pre post (.mls (nats row)) (.val (nat res)) (.val (nat j)) (.val (.str (txt [y]))) s9 s10 s11 s12 s13) ?_ ?_
    · exact setF_ap (ap_idx (ap_var rfl) (ap_var rfl) (idx_txt b2 j y hy (by lia))) rfl rfl
    refine ex4_next (sl1 := LS a2 b2 mx pre post (.mls (nats row)) (.val (nat (2 * j))) (.val (nat j)) (.val (.str (txt [y]))) (.val (nat (2 * j))) s10 s11 s12 s13) ?_ ?_
    · refine assign2_ap (a := nat (2 * j)) (ap_bin (ap_var rfl) ap_con ?_) rfl
      rw [mul_int _ _ (small_nat (by lia)) (small_i _ (by lia) (by lia))]
      show some (AV.int _) = some (AV.int _)
      congr 2
      lia
    refine ex4_next (sl1 := LS a2 b2 mx pre post (.mls (nats row)) (.val (nat (2 * j))) (.val (nat j)) (.val (.str (txt [y]))) (.val (nat (2 * j))) (.val (nat BIGN)) s11 s12 s13) rfl ?_
    refine lev_row _ _ a2 b2 mx pre post j y row s11 s12 s13 hrow (fun dist res mn => ?_) ?_ _ _ ?_ ?_
    · exact range_of (cons_of (ap_fn (cons_of (ap_var rfl) rfl) (lenV_txt a2 (by lia))) rfl) (range_nat a2.length (by lia))
    · intro i x d row dist res mn s12 s13 hx hrow hd
      have hi : i < a2.length := (List.getElem?_eq_some_iff.mp hx).1
      refine (seqF_next (sl' := LS a2 b2 mx pre post (.mls (nats row)) (.val (nat res)) (.val (nat j)) (.val (.str (txt [y]))) (.val (nat dist)) (.val (nat mn)) (.val (nat i)) (.val (nat (dist + sc y x))) s13) ?_).trans ?_
      · refine setF_ap (ap_bin (ap_var rfl) (ap_call (cons_of (ap_var rfl) (cons_of (ap_idx (ap_var rfl) (ap_var rfl) (idx_txt a2 i x hx (by lia))) rfl)) rfl (sub_sc y x)) ?_) rfl rfl
        rfl
      refine (seqF_next (sl' := LS a2 b2 mx pre post (.mls (nats row)) (.val (nat res)) (.val (nat j)) (.val (.str (txt [y]))) (.val (nat d)) (.val (nat mn)) (.val (nat i)) (.val (nat (dist + sc y x))) s13) ?_).trans ?_
      · exact setF_ap (ap_idx (ap_var rfl) (ap_var rfl) (idx_nats row i d (by lia) hd)) rfl rfl
      refine (seqF_next (sl' := LS a2 b2 mx pre post (.mls (nats row)) (.val (nat res)) (.val (nat j)) (.val (.str (txt [y]))) (.val (nat d)) (.val (nat mn)) (.val (nat i)) (.val (nat (dist + sc y x))) (.val (nat (min res d + 2)))) ?_).trans ?_
      · exact setF_ap (ap_bin (ap_fn (cons_of (ap_var rfl) (cons_of (ap_var rfl) rfl)) (min_nat res d)) ap_con rfl) rfl rfl
      refine (seqF_next (sl' := LS a2 b2 mx pre post (.mls (nats row)) (.val (nat (min (min res d + 2) (dist + sc y x)))) (.val (nat j)) (.val (.str (txt [y]))) (.val (nat d)) (.val (nat mn)) (.val (nat i)) (.val (nat (dist + sc y x))) (.val (nat (min res d + 2)))) ?_).trans ?_
      · exact setF_ap (ap_fn (cons_of (ap_var rfl) (cons_of (ap_var rfl) rfl)) (min_nat (min res d + 2) (dist + sc y x))) rfl rfl
      generalize min (min res d + 2) (dist + sc y x) = r
      refine (seqF_next (sl' := LS a2 b2 mx pre post (.mls (nats (row.set i r))) (.val (nat r)) (.val (nat j)) (.val (.str (txt [y]))) (.val (nat d)) (.val (nat mn)) (.val (nat i)) (.val (nat (dist + sc y x))) (.val (nat (min res d + 2)))) ?_).trans ?_
      · exact setItem_of (l := row) (j := i) (d := r) rfl (ap_var rfl) (ap_var rfl) (by lia) (by lia)
      by_cases h : r < mn
      · rw [if_pos h]
        exact seqF_next ((ifF_true (ap_cmp (ap_var rfl) (ap_var rfl) (lt_nat r mn)) (by rw [decide_eq_true h]; rfl)).trans (seqF_next rfl))
      · rw [if_neg h]
        exact seqF_next ((ifF_false (ap_cmp (ap_var rfl) (ap_var rfl) (lt_nat r mn)) (by rw [decide_eq_false h]; rfl)).trans rfl)
    · intro row' res' dist' mn' t11 t12 t13
      exact ap_cmp (ap_var rfl) (ap_var rfl) (gt_nat _ _)
    · intro row' res' dist' mn' t11 t12 t13
      exact seqF_ret rfl
noncomputable def levV : List AV → Option AV
  | [.str x, .str y, .int m] => if y.length = x.length ∧ x.length ≤ 20 ∧ 0 ≤ m then some (nat (lev sc x.cps.toList y.cps.toList m.toNat)) else none
  | _ => none
set_option tactic.hygienic true in
theorem lev_eq (avs : List AV) (r : AV) (h : levV avs = some r) : callV lev_.1 nLev.length 3 avs = some r := by
  unfold levV at h
  split at h
  · next x y m =>
    split at h
    · next hc =>
      cases h
      obtain ⟨h1, h2, h3⟩ := hc
      have ex : txt x.cps.toList = x := by cases x; simp [txt]
      have ey : txt y.cps.toList = y := by cases y; simp [txt]
      have lx : x.cps.toList.length = x.length := by rw [Array.length_toList]; rfl
      have ly : y.cps.toList.length = y.length := by rw [Array.length_toList]; rfl
      obtain ⟨sl', e⟩ := lev_run x.cps.toList y.cps.toList m.toNat (by rw [lx, ly]; exact h1) (by rw [lx]; exact h2)
      rw [LU, LS, ex, ey, show nat m.toNat = .int m by show AV.int _ = _; rw [Int.toNat_of_nonneg h3]] at e
      exact call_ret rfl rfl e rfl
    · cases h
  · cases h
theorem lev_fn (G : Gl) (o : Ok1 G) : Fn G "_levenshtein_distance" 2 levV :=
  Ok1.contract lev_ok (rec_mem "_levenshtein_distance" (by kernel_rfl)).1 (rec_mem "_levenshtein_distance" (by kernel_rfl)).2 lev_ lev_eq G o

end Mine
end

section
open PySem PySem.W PyProof.Rows
set_option Elab.async false
set_option tactic.hygienic false
set_option maxRecDepth 100000
set_option autoImplicit false
set_option linter.unusedVariables false
namespace Mine
noncomputable def dTree : DefRec := recAt "_law_tree"
noncomputable def nTree : List Str := ["row", "size", "left", "upper", "order", "figure", "leaf"]
set_option maxHeartbeats 4000000 in
noncomputable def tree_ : {f : SF // ∀ G, Ok1 G → SsS G 0 nTree dTree.scope.names dTree.body f} :=
    pk fun G o => (SsS.cons (StS.assignComp (fr := false) (md := 1) (i := 2) [0] (by rfl) (by decide +kernel) (by rfl) (fun W => (EvI.range (by decide +kernel) (o.noName _ (by kernel_rfl)) (EvL.cons (EvS.var (i := 1) (by rfl) (by decide +kernel) (by decide +kernel)) EvL.nil (by rfl)) (by rfl) (fun zq zq => by rfl))) (fun W => TestsS.nil) (fun W => (EvS.b (EvS.bin EvS.int (EvS.count (EvS.var (i := 1) (by rfl) (by decide +kernel) (by decide +kernel)) (EvS.var (i := 0) (by rfl) (by decide +kernel) (by decide +kernel)) (by rfl) (fun zq => by rfl) (by decide +kernel))))) (by decide) (fun zq zq => by rfl))
 (SsS.cons (StS.assignNew (md := 1) (i := 3) (by decide) (by rfl) (fun W => (EvB.rep (EvS.list (EvL.cons (EvS.bin (EvS.var (i := 1) (by rfl) (by decide +kernel) (by decide +kernel)) EvS.int) EvL.nil (by rfl))) (EvS.var (i := 1) (by rfl) (by decide +kernel) (by decide +kernel)))) (fun zq => by rfl))
 (SsS.cons (StS.assignNew (md := 1) (i := 4) (by decide) (by rfl) (fun W => (EvB.list EvL.nil)) (fun zq => by rfl))
 (SsS.cons (StS.for (i := 5) (by rfl) (fun W => (EvI.list (EvS.bin (EvS.var (i := 0) (by rfl) (by decide +kernel) (by decide +kernel)) (EvS.list (EvL.cons (EvS.bin (EvS.var (i := 1) (by rfl) (by decide +kernel) (by decide +kernel)) EvS.int) EvL.nil (by rfl))))))
 (SsS.cons (StS.assign (i := 6) (by rfl) (fun W => (EvS.index (EvS.var (i := 2) (by rfl) (by decide +kernel) (by decide +kernel)) EvS.int (by rfl) (fun zq => by rfl) (by decide +kernel))) (fun zq => by rfl))
 (SsS.cons (StS.setItem (i := 3) (by rfl) (by decide +kernel) (fun W => (EvS.var (i := 6) (by rfl) (by decide +kernel) (by decide +kernel))) (fun W => (EvS.var (i := 5) (by rfl) (by decide +kernel) (by decide +kernel))) (fun zq => by rfl))
 (SsS.cons (StS.append (i := 4) (by rfl) (by decide +kernel) (fun W => (EvS.var (i := 6) (by rfl) (by decide +kernel) (by decide +kernel))) (by rfl) (by decide +kernel) (fun env ef => no_inter ef))
 (SsS.cons (StS.setItem (i := 2) (by rfl) (by decide +kernel) (fun W => (EvS.var (i := 6) (by rfl) (by decide +kernel) (by decide +kernel))) (fun W => EvS.int) (fun zq => by rfl))
 (SsS.cons (StS.augItem (i := 2) (by rfl) (by decide +kernel) (fun W => (EvS.var (i := 5) (by rfl) (by decide +kernel) (by decide +kernel))) (fun W => EvS.int) (by rfl))
 SsS.nil))))) (fun zq zq => by rfl))
 (SsS.cons (StS.retTup (i := 3) (j := 4) (by rfl) (by rfl) (by decide +kernel) (by decide +kernel))
 SsS.nil)))))
theorem tree_ok : DefOk dTree ["row", "size"] nTree where
  bind := fun pm code doc vals h => by
    obtain ⟨a, b, rfl⟩ := vlen2 h
    kernel_rfl
  pre := rfl
  nodup := by decide +kernel
  kinds := by decide +kernel
  free := by decide +kernel
  co := by kernel_rfl
  gen := by kernel_rfl
  fn := by kernel_rfl
theorem tree_fn (G : Gl) (o : Ok1 G) : Fn G "_law_tree" 1 (callV tree_.1 nTree.length 2) :=
  Ok1.contract tree_ok (rec_mem "_law_tree" (by kernel_rfl)).1 (rec_mem "_law_tree" (by kernel_rfl)).2 tree_ (fun zq zq h => h) G o
noncomputable def dWay : DefRec := recAt "_law_way"
noncomputable def nWay : List Str := ["upper", "knot", "way"]
set_option maxHeartbeats 4000000 in
noncomputable def way_ : {f : SF // ∀ G, Ok1 G → SsS G 0 nWay dWay.scope.names dWay.body f} :=
    pk fun G o => (SsS.cons (StS.assignNew (md := 1) (i := 2) (by decide) (by rfl) (fun W => (EvB.list EvL.nil)) (fun zq => by rfl))
 (SsS.cons (StS.while 10 (fun W => (TsS.cmp (EvS.var (i := 1) (by rfl) (by decide +kernel) (by decide +kernel)) (EvS.bin (EvS.len (by decide +kernel) (o.noName _ (by kernel_rfl)) (EvL.cons (EvS.var (i := 0) (by rfl) (by decide +kernel) (by decide +kernel)) EvL.nil (by rfl)) (by rfl)) EvS.int) (by rfl)))
 (SsS.cons (StS.append (i := 2) (by rfl) (by decide +kernel) (fun W => (EvS.var (i := 1) (by rfl) (by decide +kernel) (by decide +kernel))) (by rfl) (by decide +kernel) (fun env ef => no_inter ef))
 (SsS.cons (StS.assign (i := 1) (by rfl) (fun W => (EvS.idx (EvS.var (i := 0) (by rfl) (by decide +kernel) (by decide +kernel)) (EvS.var (i := 1) (by rfl) (by decide +kernel) (by decide +kernel)) (by rfl))) (fun zq => by rfl))
 SsS.nil)))
 (SsS.cons (StS.retOwn (i := 2) (by rfl) (by decide +kernel))
 SsS.nil)))
theorem way_ok : DefOk dWay ["upper", "knot"] nWay where
  bind := fun pm code doc vals h => by
    obtain ⟨a, b, rfl⟩ := vlen2 h
    kernel_rfl
  pre := rfl
  nodup := by decide +kernel
  kinds := by decide +kernel
  free := by decide +kernel
  co := by kernel_rfl
  gen := by kernel_rfl
  fn := by kernel_rfl
theorem way_fn (G : Gl) (o : Ok1 G) : Fn G "_law_way" 1 (callV way_.1 nWay.length 2) :=
  Ok1.contract way_ok (rec_mem "_law_way" (by kernel_rfl)).1 (rec_mem "_law_way" (by kernel_rfl)).2 way_ (fun zq zq h => h) G o
noncomputable def dBet : DefRec := recAt "_law_between"
noncomputable def nBet : List Str := ["apart", "u", "v"]
set_option maxHeartbeats 4000000 in
noncomputable def bet_ : {f : SF // ∀ G, Ok1 G → SsS G 0 nBet dBet.scope.names dBet.body f} :=
    pk fun G o => (SsS.cons (StS.retNew fun W => (EvB.comp (fr := false) [1, 2, 0] (by decide +kernel) (by rfl) (EvI.range (by decide +kernel) (o.noName _ (by kernel_rfl)) (EvL.cons (EvS.len (by decide +kernel) (o.noName _ (by kernel_rfl)) (EvL.cons (EvS.var (i := 0) (by rfl) (by decide +kernel) (by decide +kernel)) EvL.nil (by rfl)) (by rfl)) EvL.nil (by rfl)) (by rfl) (fun zq zq => by rfl)) (fun W => (TestsS.one (TsS.and (TsS.cmp (EvS.var (i := 0) (by rfl) (by decide +kernel) (by decide +kernel)) (EvS.var (i := 1) (by rfl) (by decide +kernel) (by decide +kernel)) (by rfl)) (TsS.and (TsS.cmp (EvS.var (i := 0) (by rfl) (by decide +kernel) (by decide +kernel)) (EvS.var (i := 2) (by rfl) (by decide +kernel) (by decide +kernel)) (by rfl)) (TsS.one (TsS.cmp (EvS.bin (EvS.idx (EvS.idx (EvS.var (i := 3) (by rfl) (by decide +kernel) (by decide +kernel)) (EvS.var (i := 1) (by rfl) (by decide +kernel) (by decide +kernel)) (by rfl)) (EvS.var (i := 0) (by rfl) (by decide +kernel) (by decide +kernel)) (by rfl)) (EvS.idx (EvS.idx (EvS.var (i := 3) (by rfl) (by decide +kernel) (by decide +kernel)) (EvS.var (i := 0) (by rfl) (by decide +kernel) (by decide +kernel)) (by rfl)) (EvS.var (i := 2) (by rfl) (by decide +kernel) (by decide +kernel)) (by rfl))) (EvS.idx (EvS.idx (EvS.var (i := 3) (by rfl) (by decide +kernel) (by decide +kernel)) (EvS.var (i := 1) (by rfl) (by decide +kernel) (by decide +kernel)) (by rfl)) (EvS.var (i := 2) (by rfl) (by decide +kernel) (by decide +kernel)) (by rfl)) (by rfl))))))) (fun W => (EvS.b (EvS.var (i := 0) (by rfl) (by decide +kernel) (by decide +kernel)))) (fun zq zq => by rfl)))
 SsS.nil)
theorem bet_ok : DefOk dBet ["apart", "u", "v"] nBet where
  bind := fun pm code doc vals h => by
    obtain ⟨a, b, c, rfl⟩ := vlen3 h
    kernel_rfl
  pre := rfl
  nodup := by decide +kernel
  kinds := by decide +kernel
  free := by decide +kernel
  co := by kernel_rfl
  gen := by kernel_rfl
  fn := by kernel_rfl
theorem bet_fn (G : Gl) (o : Ok1 G) : Fn G "_law_between" 1 (callV bet_.1 nBet.length 3) :=
  Ok1.contract bet_ok (rec_mem "_law_between" (by kernel_rfl)).1 (rec_mem "_law_between" (by kernel_rfl)).2 bet_ (fun zq zq h => h) G o
noncomputable def dBack : DefRec := recAt "_law_back"
noncomputable def nBack : List Str := ["apart", "size", "near", "row", "turn", "ends", "leaf", "figure"]
set_option maxHeartbeats 4000000 in
noncomputable def back_ : {f : SF // ∀ G, Ok1 G → SsS G 1 nBack dBack.scope.names dBack.body f} :=
    pk fun G o => (SsS.cons (StS.assign (i := 1) (by rfl) (fun W => (EvS.len (by decide +kernel) (o.noName _ (by kernel_rfl)) (EvL.cons (EvS.var (i := 0) (by rfl) (by decide +kernel) (by decide +kernel)) EvL.nil (by rfl)) (by rfl))) (fun zq => by rfl))
 (SsS.cons (StS.assignComp (fr := true) (md := 1) (i := 2) [1, 0] (by rfl) (by decide +kernel) (by rfl) (fun W => (EvI.range (by decide +kernel) (o.noName _ (by kernel_rfl)) (EvL.cons (EvS.var (i := 1) (by rfl) (by decide +kernel) (by decide +kernel)) EvL.nil (by rfl)) (by rfl) (fun zq zq => by rfl))) (fun W => TestsS.nil) (fun W => (EvB.comp (fr := false) [0, 2] (by decide +kernel) (by rfl) (EvI.range (by decide +kernel) (o.noName _ (by kernel_rfl)) (EvL.cons (EvS.var (i := 1) (by rfl) (by decide +kernel) (by decide +kernel)) EvL.nil (by rfl)) (by rfl) (fun zq zq => by rfl)) (fun W => (TestsS.one (TsS.and (TsS.cmp (EvS.var (i := 0) (by rfl) (by decide +kernel) (by decide +kernel)) (EvS.var (i := 1) (by rfl) (by decide +kernel) (by decide +kernel)) (by rfl)) (TsS.one (TsS.cmp (EvS.call (bet_fn G o) (by decide) (by decide +kernel) (by decide +kernel) (EvL.cons (EvS.var (i := 2) (by rfl) (by decide +kernel) (by decide +kernel)) (EvL.cons (EvS.var (i := 1) (by rfl) (by decide +kernel) (by decide +kernel)) (EvL.cons (EvS.var (i := 0) (by rfl) (by decide +kernel) (by decide +kernel)) EvL.nil (by rfl)) (by rfl)) (by rfl)) (by rfl)) (EvS.list EvL.nil) (by rfl)))))) (fun W => (EvS.b (EvS.var (i := 0) (by rfl) (by decide +kernel) (by decide +kernel)))) (fun zq zq => by rfl))) (by decide) (fun zq zq => by rfl))
 (SsS.cons (StS.assignNew (md := 1) (i := 3) (by decide) (by rfl) (fun W => (EvB.list EvL.nil)) (fun zq => by rfl))
 (SsS.cons (StS.for (i := 4) (by rfl) (fun W => (EvI.range (by decide +kernel) (o.noName _ (by kernel_rfl)) (EvL.cons (EvS.bin (EvS.var (i := 1) (by rfl) (by decide +kernel) (by decide +kernel)) EvS.int) EvL.nil (by rfl)) (by rfl) (fun zq zq => by rfl)))
 (SsS.cons (StS.assignComp (fr := false) (md := 0) (i := 5) [2] (by rfl) (by decide +kernel) (by rfl) (fun W => (EvI.range (by decide +kernel) (o.noName _ (by kernel_rfl)) (EvL.cons (EvS.var (i := 1) (by rfl) (by decide +kernel) (by decide +kernel)) EvL.nil (by rfl)) (by rfl) (fun zq zq => by rfl))) (fun W => (TestsS.one (TsS.cmp (EvS.len (by decide +kernel) (o.noName _ (by kernel_rfl)) (EvL.cons (EvS.idx (EvS.var (i := 1) (by rfl) (by decide +kernel) (by decide +kernel)) (EvS.var (i := 0) (by rfl) (by decide +kernel) (by decide +kernel)) (by rfl)) EvL.nil (by rfl)) (by rfl)) EvS.int (by rfl)))) (fun W => (EvS.b (EvS.var (i := 0) (by rfl) (by decide +kernel) (by decide +kernel)))) (by decide) (fun zq zq => by rfl))
 (SsS.cons (StS.ite (fun W => (TsS.cmp (EvS.var (i := 5) (by rfl) (by decide +kernel) (by decide +kernel)) (EvS.list EvL.nil) (by rfl)))
 (SsS.cons (StS.retOwn (i := 3) (by rfl) (by decide +kernel))
 SsS.nil)
 SsS.nil)
 (SsS.cons (StS.assign (i := 6) (by rfl) (fun W => (EvS.idx (EvS.var (i := 5) (by rfl) (by decide +kernel) (by decide +kernel)) EvS.int (by rfl))) (fun zq => by rfl))
 (SsS.cons (StS.assign (i := 7) (by rfl) (fun W => (EvS.idx (EvS.idx (EvS.var (i := 2) (by rfl) (by decide +kernel) (by decide +kernel)) (EvS.var (i := 6) (by rfl) (by decide +kernel) (by decide +kernel)) (by rfl)) EvS.int (by rfl))) (fun zq => by rfl))
 (SsS.cons (StS.append (i := 3) (by rfl) (by decide +kernel) (fun W => (EvS.var (i := 7) (by rfl) (by decide +kernel) (by decide +kernel))) (by rfl) (by decide +kernel) (fun env ef => no_inter ef))
 (SsS.cons (StS.setItem (i := 2) (by rfl) (by decide +kernel) (fun W => (EvS.var (i := 6) (by rfl) (by decide +kernel) (by decide +kernel))) (fun W => (EvS.list EvL.nil)) (fun zq => by rfl))
 (SsS.cons (StS.setItem (i := 2) (by rfl) (by decide +kernel) (fun W => (EvS.var (i := 7) (by rfl) (by decide +kernel) (by decide +kernel))) (fun W => (EvB.plain (EvB.comp (fr := false) [6] (by decide +kernel) (by rfl) (EvI.list (EvS.idx (EvS.var (i := 2) (by rfl) (by decide +kernel) (by decide +kernel)) (EvS.var (i := 7) (by rfl) (by decide +kernel) (by decide +kernel)) (by rfl))) (fun W => (TestsS.one (TsS.cmp (EvS.var (i := 0) (by rfl) (by decide +kernel) (by decide +kernel)) (EvS.var (i := 1) (by rfl) (by decide +kernel) (by decide +kernel)) (by rfl)))) (fun W => (EvS.b (EvS.var (i := 0) (by rfl) (by decide +kernel) (by decide +kernel)))) (fun zq zq => by rfl)))) (fun zq => by rfl))
 SsS.nil))))))) (fun zq zq => by rfl))
 (SsS.cons (StS.retOwn (i := 3) (by rfl) (by decide +kernel))
 SsS.nil)))))
theorem back_ok : DefOk dBack ["apart"] nBack where
  bind := fun pm code doc vals h => by
    obtain ⟨a, rfl⟩ := vlen1 h
    kernel_rfl
  pre := rfl
  nodup := by decide +kernel
  kinds := by decide +kernel
  free := by decide +kernel
  co := by kernel_rfl
  gen := by kernel_rfl
  fn := by kernel_rfl
theorem back_fn (G : Gl) (o : Ok1 G) : Fn G "_law_back" 2 (callV back_.1 nBack.length 1) :=
  Ok1.contract back_ok (rec_mem "_law_back" (by kernel_rfl)).1 (rec_mem "_law_back" (by kernel_rfl)).2 back_ (fun zq zq h => h) G o
end Mine
end

section
open PySem PySem.W PyProof.Rows
set_option Elab.async false
set_option tactic.hygienic false
set_option maxRecDepth 100000
set_option autoImplicit false
set_option linter.unusedVariables false
namespace Mine
noncomputable def dLaw : DefRec := recAt "law"
noncomputable def nLaw : List Str := [("script" : Str),("drawn" : Str),("size" : Str),("number" : Str),("rest" : Str),("row" : Str),("turn" : Str),("figure" : Str),("upper" : Str),("order" : Str),("steps" : Str),("start" : Str),("capitals" : Str),("width" : Str),("small" : Str),("changed" : Str),("ways" : Str),("texts" : Str),("apart" : Str),("due" : Str),("u" : Str),("v" : Str),("back" : Str),("walk" : Str),("table" : Str),("before" : Str),("product" : Str),("length" : Str),("k" : Str),("pivot" : Str),("i" : Str),("j" : Str),("value" : Str)]
set_option maxHeartbeats 8000000 in
noncomputable def law_ : {f : SF // ∀ G, Ok1 G → SsS G 35 nLaw dLaw.scope.names dLaw.body f} :=
    pk fun G o => (SsS.cons (StS.assignComp (fr := false) (md := 0) (i := 1) [] (by rfl) (by decide +kernel) (by rfl) (fun W => (EvI.list (EvS.slice (EvS.var (i := 0) (by rfl) (by decide +kernel) (by decide +kernel)) EvP.no (EvP.yes EvS.int) (by rfl)))) (fun W => TestsS.nil) (fun W => (EvS.b (EvS.bin (EvS.var (i := 0) (by rfl) (by decide +kernel) (by decide +kernel)) (EvS.bin EvS.int EvS.int)))) (by decide) (fun zq zq => by rfl))
 (SsS.cons (StS.assign (i := 1) (by rfl) (fun W => (EvS.bin (EvS.var (i := 1) (by rfl) (by decide +kernel) (by decide +kernel)) (EvS.sliceAny (EvS.list (EvL.cons EvS.int (EvL.cons EvS.int (EvL.cons EvS.int EvL.nil (by rfl)) (by rfl)) (by rfl))) (EvP.yes (EvS.len (by decide +kernel) (o.noName _ (by kernel_rfl)) (EvL.cons (EvS.var (i := 1) (by rfl) (by decide +kernel) (by decide +kernel)) EvL.nil (by rfl)) (by rfl))) EvP.no))) (fun zq => by rfl))
 (SsS.cons (StS.assign (i := 2) (by rfl) (fun W => (EvS.bin EvS.int (EvS.bin (EvS.idx (EvS.var (i := 1) (by rfl) (by decide +kernel) (by decide +kernel)) EvS.int (by rfl)) EvS.int))) (fun zq => by rfl))
 (SsS.cons (StS.assign (i := 3) (by rfl) (fun W => (EvS.bin (EvS.bin (EvS.idx (EvS.var (i := 1) (by rfl) (by decide +kernel) (by decide +kernel)) EvS.int (by rfl)) EvS.int) (EvS.bin (EvS.var (i := 2) (by rfl) (by decide +kernel) (by decide +kernel)) (EvS.bin (EvS.var (i := 2) (by rfl) (by decide +kernel) (by decide +kernel)) EvS.int)))) (fun zq => by rfl))
 (SsS.cons (StS.assign (i := 4) (by rfl) (fun W => (EvS.var (i := 3) (by rfl) (by decide +kernel) (by decide +kernel))) (fun zq => by rfl))
 (SsS.cons (StS.assignNew (md := 1) (i := 5) (by decide) (by rfl) (fun W => (EvB.list EvL.nil)) (fun zq => by rfl))
 (SsS.cons (StS.for (i := 6) (by rfl) (fun W => (EvI.range (by decide +kernel) (o.noName _ (by kernel_rfl)) (EvL.cons (EvS.bin (EvS.var (i := 2) (by rfl) (by decide +kernel) (by decide +kernel)) EvS.int) EvL.nil (by rfl)) (by rfl) (fun zq zq => by rfl)))
 (SsS.cons (StS.unpack (is := [4, 7]) (xs := [(_, _), (_, _)]) (by rfl) (by rfl) (fun W => (EvS.call (idm_fn G o) (by decide) (by decide +kernel) (by decide +kernel) (EvL.cons (EvS.var (i := 4) (by rfl) (by decide +kernel) (by decide +kernel)) (EvL.cons (EvS.var (i := 2) (by rfl) (by decide +kernel) (by decide +kernel)) EvL.nil (by rfl)) (by rfl)) (by rfl))) (fun zq => by rfl) (fun zq => by rfl))
 (SsS.cons (StS.append (i := 5) (by rfl) (by decide +kernel) (fun W => (EvS.var (i := 7) (by rfl) (by decide +kernel) (by decide +kernel))) (by rfl) (by decide +kernel) (fun env ef => no_inter ef))
 SsS.nil)) (fun zq zq => by rfl))
 (SsS.cons (StS.unpack (is := [8, 9]) (xs := [(_, _), (_, _)]) (by rfl) (by rfl) (fun W => (EvS.call (tree_fn G o) (by decide) (by decide +kernel) (by decide +kernel) (EvL.cons (EvS.var (i := 5) (by rfl) (by decide +kernel) (by decide +kernel)) (EvL.cons (EvS.var (i := 2) (by rfl) (by decide +kernel) (by decide +kernel)) EvL.nil (by rfl)) (by rfl)) (by rfl))) (fun zq => by rfl) (fun zq => by rfl))
 (SsS.cons (StS.assignComp (fr := false) (md := 0) (i := 10) [1] (by rfl) (by decide +kernel) (by rfl) (fun W => (EvI.range (by decide +kernel) (o.noName _ (by kernel_rfl)) (EvL.cons (EvS.bin (EvS.var (i := 2) (by rfl) (by decide +kernel) (by decide +kernel)) EvS.int) EvL.nil (by rfl)) (by rfl) (fun zq zq => by rfl))) (fun W => TestsS.nil) (fun W => (EvS.b (EvS.bin EvS.int (EvS.bin (EvS.bin (EvS.idx (EvS.var (i := 1) (by rfl) (by decide +kernel) (by decide +kernel)) EvS.int (by rfl)) (EvS.bin EvS.int (EvS.var (i := 0) (by rfl) (by decide +kernel) (by decide +kernel)))) EvS.int)))) (by decide) (fun zq zq => by rfl))
 (SsS.cons (StS.assign (i := 11) (by rfl) (fun W => (EvS.bin (EvS.bin (EvS.idx (EvS.var (i := 1) (by rfl) (by decide +kernel) (by decide +kernel)) EvS.int (by rfl)) EvS.int) EvS.int)) (fun zq => by rfl))
 (SsS.cons (StS.assign (i := 12) (by rfl) (fun W => (EvS.idx (EvS.list (EvL.cons EvS.int (EvL.cons EvS.int (EvL.cons EvS.int (EvL.cons EvS.int (EvL.cons EvS.int (EvL.cons EvS.int (EvL.cons EvS.int (EvL.cons EvS.int (EvL.cons EvS.int (EvL.cons EvS.int EvL.nil (by rfl)) (by rfl)) (by rfl)) (by rfl)) (by rfl)) (by rfl)) (by rfl)) (by rfl)) (by rfl)) (by rfl))) (EvS.bin (EvS.idx (EvS.var (i := 1) (by rfl) (by decide +kernel) (by decide +kernel)) EvS.int (by rfl)) EvS.int) (by rfl))) (fun zq => by rfl))
 (SsS.cons (StS.assign (i := 13) (by rfl) (fun W => (EvS.bin EvS.int (EvS.bin (EvS.bin (EvS.idx (EvS.var (i := 1) (by rfl) (by decide +kernel) (by decide +kernel)) EvS.int (by rfl)) EvS.int) EvS.int))) (fun zq => by rfl))
 (SsS.cons (StS.assignComp (fr := false) (md := 0) (i := 14) [11] (by rfl) (by decide +kernel) (by rfl) (fun W => (EvI.range (by decide +kernel) (o.noName _ (by kernel_rfl)) (EvL.cons (EvS.bin (EvS.var (i := 2) (by rfl) (by decide +kernel) (by decide +kernel)) EvS.int) EvL.nil (by rfl)) (by rfl) (fun zq zq => by rfl))) (fun W => TestsS.nil) (fun W => (EvS.b (EvS.chr (by decide +kernel) (o.noName _ (by kernel_rfl)) (EvL.cons (EvS.bin (EvS.bin EvS.int (EvS.var (i := 1) (by rfl) (by decide +kernel) (by decide +kernel))) (EvS.var (i := 0) (by rfl) (by decide +kernel) (by decide +kernel))) EvL.nil (by rfl)) (by rfl)))) (by decide) (fun zq zq => by rfl))
 (SsS.cons (StS.assignComp (fr := false) (md := 0) (i := 15) [10, 12, 11] (by rfl) (by decide +kernel) (by rfl) (fun W => (EvI.range (by decide +kernel) (o.noName _ (by kernel_rfl)) (EvL.cons (EvS.bin (EvS.var (i := 2) (by rfl) (by decide +kernel) (by decide +kernel)) EvS.int) EvL.nil (by rfl)) (by rfl) (fun zq zq => by rfl))) (fun W => TestsS.nil) (fun W => (EvS.b (EvS.chr (by decide +kernel) (o.noName _ (by kernel_rfl)) (EvL.cons (EvS.bin (EvS.bin (EvS.ite (TsS.cmp (EvS.idx (EvS.var (i := 1) (by rfl) (by decide +kernel) (by decide +kernel)) (EvS.var (i := 0) (by rfl) (by decide +kernel) (by decide +kernel)) (by rfl)) EvS.int (by rfl)) EvS.int (EvS.var (i := 2) (by rfl) (by decide +kernel) (by decide +kernel))) (EvS.var (i := 3) (by rfl) (by decide +kernel) (by decide +kernel))) (EvS.var (i := 0) (by rfl) (by decide +kernel) (by decide +kernel))) EvL.nil (by rfl)) (by rfl)))) (by decide) (fun zq zq => by rfl))
 (SsS.cons (StS.assignComp (fr := false) (md := 0) (i := 16) [8] (by rfl) (by decide +kernel) (by rfl) (fun W => (EvI.range (by decide +kernel) (o.noName _ (by kernel_rfl)) (EvL.cons (EvS.var (i := 2) (by rfl) (by decide +kernel) (by decide +kernel)) EvL.nil (by rfl)) (by rfl) (fun zq zq => by rfl))) (fun W => TestsS.nil) (fun W => (EvS.b (EvS.call (way_fn G o) (by decide) (by decide +kernel) (by decide +kernel) (EvL.cons (EvS.var (i := 1) (by rfl) (by decide +kernel) (by decide +kernel)) (EvL.cons (EvS.var (i := 0) (by rfl) (by decide +kernel) (by decide +kernel)) EvL.nil (by rfl)) (by rfl)) (by rfl)))) (by decide) (fun zq zq => by rfl))
 (SsS.cons (StS.assignComp (fr := false) (md := 0) (i := 17) [2, 15, 14] (by rfl) (by decide +kernel) (by rfl) (fun W => (EvI.list (EvS.var (i := 16) (by rfl) (by decide +kernel) (by decide +kernel)))) (fun W => TestsS.nil) (fun W => (EvS.b (EvS.joinC (EvB.plain (EvB.comp (fr := false) [0, 2, 3] (by decide +kernel) (by rfl) (EvI.range (by decide +kernel) (o.noName _ (by kernel_rfl)) (EvL.cons (EvS.bin (EvS.var (i := 1) (by rfl) (by decide +kernel) (by decide +kernel)) EvS.int) EvL.nil (by rfl)) (by rfl) (fun zq zq => by rfl)) (fun W => TestsS.nil) (fun W => (EvS.b (EvS.ite (TsS.cmp (EvS.var (i := 0) (by rfl) (by decide +kernel) (by decide +kernel)) (EvS.var (i := 1) (by rfl) (by decide +kernel) (by decide +kernel)) (by rfl)) (EvS.idx (EvS.var (i := 2) (by rfl) (by decide +kernel) (by decide +kernel)) (EvS.var (i := 0) (by rfl) (by decide +kernel) (by decide +kernel)) (by rfl)) (EvS.idx (EvS.var (i := 3) (by rfl) (by decide +kernel) (by decide +kernel)) (EvS.var (i := 0) (by rfl) (by decide +kernel) (by decide +kernel)) (by rfl))))) (fun zq zq => by rfl))) (by rfl) (by decide +kernel)))) (by decide) (fun zq zq => by rfl))
 (SsS.cons (StS.assignComp (fr := true) (md := 2) (i := 18) [2] (by rfl) (by decide +kernel) (by rfl) (fun W => (EvI.range (by decide +kernel) (o.noName _ (by kernel_rfl)) (EvL.cons (EvS.var (i := 2) (by rfl) (by decide +kernel) (by decide +kernel)) EvL.nil (by rfl)) (by rfl) (fun zq zq => by rfl))) (fun W => TestsS.nil) (fun W => (EvB.rep (EvS.list (EvL.cons EvS.int EvL.nil (by rfl))) (EvS.var (i := 1) (by rfl) (by decide +kernel) (by decide +kernel)))) (by decide) (fun zq zq => by rfl))
 (SsS.cons (StS.assignComp (fr := true) (md := 2) (i := 19) [2] (by rfl) (by decide +kernel) (by rfl) (fun W => (EvI.range (by decide +kernel) (o.noName _ (by kernel_rfl)) (EvL.cons (EvS.var (i := 2) (by rfl) (by decide +kernel) (by decide +kernel)) EvL.nil (by rfl)) (by rfl) (fun zq zq => by rfl))) (fun W => TestsS.nil) (fun W => (EvB.rep (EvS.list (EvL.cons EvS.int EvL.nil (by rfl))) (EvS.var (i := 1) (by rfl) (by decide +kernel) (by decide +kernel)))) (by decide) (fun zq zq => by rfl))
 (SsS.cons (StS.for (i := 20) (by rfl) (fun W => (EvI.range (by decide +kernel) (o.noName _ (by kernel_rfl)) (EvL.cons (EvS.var (i := 2) (by rfl) (by decide +kernel) (by decide +kernel)) EvL.nil (by rfl)) (by rfl) (fun zq zq => by rfl)))
 (SsS.cons (StS.ite (fun W => (TsS.cmp (EvB.plain (EvB.comp (fr := false) [] (by decide +kernel) (by rfl) (EvI.str (EvS.idx (EvS.var (i := 17) (by rfl) (by decide +kernel) (by decide +kernel)) (EvS.var (i := 20) (by rfl) (by decide +kernel) (by decide +kernel)) (by rfl))) (fun W => TestsS.nil) (fun W => (EvS.b (EvS.call (map_fn G o) (by decide) (by decide +kernel) (by decide +kernel) (EvL.cons (EvS.var (i := 0) (by rfl) (by decide +kernel) (by decide +kernel)) EvL.nil (by rfl)) (by rfl)))) (fun zq zq => by rfl))) (EvS.var (i := 14) (by rfl) (by decide +kernel) (by decide +kernel)) (by rfl)))
 (SsS.cons (StS.ret fun W => EvS.bool)
 SsS.nil)
 SsS.nil)
 (SsS.cons (StS.for (i := 21) (by rfl) (fun W => (EvI.range (by decide +kernel) (o.noName _ (by kernel_rfl)) (EvL.cons (EvS.var (i := 20) (by rfl) (by decide +kernel) (by decide +kernel)) EvL.nil (by rfl)) (by rfl) (fun zq zq => by rfl)))
 (SsS.cons (StS.setItem2 (i := 18) (by rfl) (by decide +kernel) (fun W => (EvS.var (i := 20) (by rfl) (by decide +kernel) (by decide +kernel))) (fun W => (EvS.var (i := 21) (by rfl) (by decide +kernel) (by decide +kernel))) (fun W => (EvS.call (lev_fn G o) (by decide) (by decide +kernel) (by decide +kernel) (EvL.cons (EvS.idx (EvS.var (i := 17) (by rfl) (by decide +kernel) (by decide +kernel)) (EvS.var (i := 20) (by rfl) (by decide +kernel) (by decide +kernel)) (by rfl)) (EvL.cons (EvS.idx (EvS.var (i := 17) (by rfl) (by decide +kernel) (by decide +kernel)) (EvS.var (i := 21) (by rfl) (by decide +kernel) (by decide +kernel)) (by rfl)) (EvL.cons (EvS.bin EvS.int (EvS.var (i := 2) (by rfl) (by decide +kernel) (by decide +kernel))) EvL.nil (by rfl)) (by rfl)) (by rfl)) (by rfl))) (fun zq => by rfl) (by rfl))
 (SsS.cons (StS.setItem2 (i := 18) (by rfl) (by decide +kernel) (fun W => (EvS.var (i := 21) (by rfl) (by decide +kernel) (by decide +kernel))) (fun W => (EvS.var (i := 20) (by rfl) (by decide +kernel) (by decide +kernel))) (fun W => (EvS.idx (EvS.idx (EvS.var (i := 18) (by rfl) (by decide +kernel) (by decide +kernel)) (EvS.var (i := 20) (by rfl) (by decide +kernel) (by decide +kernel)) (by rfl)) (EvS.var (i := 21) (by rfl) (by decide +kernel) (by decide +kernel)) (by rfl))) (fun zq => by rfl) (by rfl))
 (SsS.cons (StS.setItem2 (i := 19) (by rfl) (by decide +kernel) (fun W => (EvS.var (i := 20) (by rfl) (by decide +kernel) (by decide +kernel))) (fun W => (EvS.var (i := 21) (by rfl) (by decide +kernel) (by decide +kernel))) (fun W => (EvS.sum (by decide +kernel) (o.noName _ (by kernel_rfl)) (EvL.cons (EvB.plain (EvB.comp (fr := false) [16, 20, 21, 10] (by decide +kernel) (by rfl) (EvI.range (by decide +kernel) (o.noName _ (by kernel_rfl)) (EvL.cons (EvS.bin (EvS.var (i := 2) (by rfl) (by decide +kernel) (by decide +kernel)) EvS.int) EvL.nil (by rfl)) (by rfl) (fun zq zq => by rfl)) (fun W => (TestsS.one (TsS.cmp (EvS.cmp (EvS.var (i := 0) (by rfl) (by decide +kernel) (by decide +kernel)) (EvS.idx (EvS.var (i := 1) (by rfl) (by decide +kernel) (by decide +kernel)) (EvS.var (i := 2) (by rfl) (by decide +kernel) (by decide +kernel)) (by rfl)) (by rfl)) (EvS.cmp (EvS.var (i := 0) (by rfl) (by decide +kernel) (by decide +kernel)) (EvS.idx (EvS.var (i := 1) (by rfl) (by decide +kernel) (by decide +kernel)) (EvS.var (i := 3) (by rfl) (by decide +kernel) (by decide +kernel)) (by rfl)) (by rfl)) (by rfl)))) (fun W => (EvS.b (EvS.idx (EvS.var (i := 4) (by rfl) (by decide +kernel) (by decide +kernel)) (EvS.var (i := 0) (by rfl) (by decide +kernel) (by decide +kernel)) (by rfl)))) (fun zq zq => by rfl))) EvL.nil (by rfl)) (by rfl))) (fun zq => by rfl) (by rfl))
 (SsS.cons (StS.setItem2 (i := 19) (by rfl) (by decide +kernel) (fun W => (EvS.var (i := 21) (by rfl) (by decide +kernel) (by decide +kernel))) (fun W => (EvS.var (i := 20) (by rfl) (by decide +kernel) (by decide +kernel))) (fun W => (EvS.idx (EvS.idx (EvS.var (i := 19) (by rfl) (by decide +kernel) (by decide +kernel)) (EvS.var (i := 20) (by rfl) (by decide +kernel) (by decide +kernel)) (by rfl)) (EvS.var (i := 21) (by rfl) (by decide +kernel) (by decide +kernel)) (by rfl))) (fun zq => by rfl) (by rfl))
 SsS.nil)))) (fun zq zq => by rfl))
 SsS.nil)) (fun zq zq => by rfl))
 (SsS.cons (StS.assign (i := 22) (by rfl) (fun W => (EvS.call (back_fn G o) (by decide) (by decide +kernel) (by decide +kernel) (EvL.cons (EvS.var (i := 18) (by rfl) (by decide +kernel) (by decide +kernel)) EvL.nil (by rfl)) (by rfl))) (fun zq => by rfl))
 (SsS.cons (StS.ite (fun W => (TsS.cmp (EvS.sum (by decide +kernel) (o.noName _ (by kernel_rfl)) (EvL.cons (EvB.plain (EvB.comp (fr := false) [22, 2] (by decide +kernel) (by rfl) (EvI.range (by decide +kernel) (o.noName _ (by kernel_rfl)) (EvL.cons (EvS.len (by decide +kernel) (o.noName _ (by kernel_rfl)) (EvL.cons (EvS.var (i := 22) (by rfl) (by decide +kernel) (by decide +kernel)) EvL.nil (by rfl)) (by rfl)) EvL.nil (by rfl)) (by rfl) (fun zq zq => by rfl)) (fun W => TestsS.nil) (fun W => (EvS.b (EvS.bin (EvS.idx (EvS.var (i := 1) (by rfl) (by decide +kernel) (by decide +kernel)) (EvS.var (i := 0) (by rfl) (by decide +kernel) (by decide +kernel)) (by rfl)) (EvS.bin (EvS.var (i := 2) (by rfl) (by decide +kernel) (by decide +kernel)) (EvS.var (i := 0) (by rfl) (by decide +kernel) (by decide +kernel)))))) (fun zq zq => by rfl))) EvL.nil (by rfl)) (by rfl)) (EvS.var (i := 3) (by rfl) (by decide +kernel) (by decide +kernel)) (by rfl)))
 (SsS.cons (StS.ret fun W => EvS.bool)
 SsS.nil)
 SsS.nil)
 (SsS.cons (StS.assign (i := 23) (by rfl) (fun W => (EvS.bin (EvS.list (EvL.cons (EvS.bin (EvS.var (i := 2) (by rfl) (by decide +kernel) (by decide +kernel)) EvS.int) EvL.nil (by rfl))) (EvS.sliceRev (EvS.var (i := 9) (by rfl) (by decide +kernel) (by decide +kernel)) (EvS.un EvS.int)))) (fun zq => by rfl))
 (SsS.cons (StS.assignComp (fr := true) (md := 2) (i := 24) [23, 13, 18] (by rfl) (by decide +kernel) (by rfl) (fun W => (EvI.list (EvS.var (i := 23) (by rfl) (by decide +kernel) (by decide +kernel)))) (fun W => TestsS.nil) (fun W => (EvB.comp (fr := false) [2, 3, 0] (by decide +kernel) (by rfl) (EvI.list (EvS.var (i := 1) (by rfl) (by decide +kernel) (by decide +kernel))) (fun W => TestsS.nil) (fun W => (EvS.b (EvS.bin (EvS.bin EvS.int (EvS.var (i := 1) (by rfl) (by decide +kernel) (by decide +kernel))) (EvS.idx (EvS.idx (EvS.var (i := 2) (by rfl) (by decide +kernel) (by decide +kernel)) (EvS.var (i := 3) (by rfl) (by decide +kernel) (by decide +kernel)) (by rfl)) (EvS.var (i := 0) (by rfl) (by decide +kernel) (by decide +kernel)) (by rfl))))) (fun zq zq => by rfl))) (by decide) (fun zq zq => by rfl))
 (SsS.cons (StS.assign (i := 25) (by rfl) (fun W => EvS.int) (fun zq => by rfl))
 (SsS.cons (StS.assign (i := 26) (by rfl) (fun W => EvS.int) (fun zq => by rfl))
 (SsS.cons (StS.assign (i := 27) (by rfl) (fun W => EvS.int) (fun zq => by rfl))
 (SsS.cons (StS.for (i := 28) (by rfl) (fun W => (EvI.range (by decide +kernel) (o.noName _ (by kernel_rfl)) (EvL.cons (EvS.var (i := 2) (by rfl) (by decide +kernel) (by decide +kernel)) EvL.nil (by rfl)) (by rfl) (fun zq zq => by rfl)))
 (SsS.cons (StS.ite (fun W => (TsS.cmp (EvS.var (i := 28) (by rfl) (by decide +kernel) (by decide +kernel)) EvS.int (by rfl)))
 (SsS.cons (StS.aug (i := 26) (by rfl) (fun W => (EvS.idx (EvS.var (i := 10) (by rfl) (by decide +kernel) (by decide +kernel)) (EvS.idx (EvS.var (i := 23) (by rfl) (by decide +kernel) (by decide +kernel)) (EvS.var (i := 28) (by rfl) (by decide +kernel) (by decide +kernel)) (by rfl)) (by rfl))))
 (SsS.cons (StS.aug (i := 27) (by rfl) (fun W => (EvS.idx (EvS.var (i := 10) (by rfl) (by decide +kernel) (by decide +kernel)) (EvS.idx (EvS.var (i := 23) (by rfl) (by decide +kernel) (by decide +kernel)) (EvS.var (i := 28) (by rfl) (by decide +kernel) (by decide +kernel)) (by rfl)) (by rfl))))
 SsS.nil))
 SsS.nil)
 (SsS.cons (StS.assign (i := 29) (by rfl) (fun W => (EvS.idx (EvS.idx (EvS.var (i := 24) (by rfl) (by decide +kernel) (by decide +kernel)) (EvS.var (i := 28) (by rfl) (by decide +kernel) (by decide +kernel)) (by rfl)) (EvS.var (i := 28) (by rfl) (by decide +kernel) (by decide +kernel)) (by rfl))) (fun zq => by rfl))
 (SsS.cons (StS.ite (fun W => (TsS.cmp (EvS.call (i2d_fn G o) (by decide) (by decide +kernel) (by decide +kernel) (EvL.cons (EvS.abs (by decide +kernel) (o.noName _ (by kernel_rfl)) (EvL.cons (EvS.var (i := 29) (by rfl) (by decide +kernel) (by decide +kernel)) EvL.nil (by rfl)) (by rfl)) (EvL.cons (EvS.var (i := 13) (by rfl) (by decide +kernel) (by decide +kernel)) EvL.nil (by rfl)) (by rfl)) (by rfl)) (EvS.list (EvL.cons (EvS.bin (EvS.bin (EvS.bin (EvS.var (i := 26) (by rfl) (by decide +kernel) (by decide +kernel)) (EvS.var (i := 27) (by rfl) (by decide +kernel) (by decide +kernel))) (EvS.bin EvS.int (EvS.var (i := 28) (by rfl) (by decide +kernel) (by decide +kernel)))) EvS.int) (EvL.cons (EvS.bin (EvS.var (i := 26) (by rfl) (by decide +kernel) (by decide +kernel)) (EvS.bin EvS.int (EvS.var (i := 28) (by rfl) (by decide +kernel) (by decide +kernel)))) EvL.nil (by rfl)) (by rfl))) (by rfl)))
 (SsS.cons (StS.ret fun W => EvS.bool)
 SsS.nil)
 SsS.nil)
 (SsS.cons (StS.ite (fun W => (TsS.cmp (EvS.cmp (EvS.var (i := 29) (by rfl) (by decide +kernel) (by decide +kernel)) EvS.int (by rfl)) (EvS.cmp (EvS.bin (EvS.var (i := 28) (by rfl) (by decide +kernel) (by decide +kernel)) EvS.int) EvS.int (by rfl)) (by rfl)))
 (SsS.cons (StS.ret fun W => EvS.bool)
 SsS.nil)
 SsS.nil)
 (SsS.cons (StS.for (i := 30) (by rfl) (fun W => (EvI.range (by decide +kernel) (o.noName _ (by kernel_rfl)) (EvL.cons (EvS.bin (EvS.var (i := 28) (by rfl) (by decide +kernel) (by decide +kernel)) EvS.int) (EvL.cons (EvS.var (i := 2) (by rfl) (by decide +kernel) (by decide +kernel)) EvL.nil (by rfl)) (by rfl)) (by rfl) (fun zq zq => by rfl)))
 (SsS.cons (StS.for (i := 31) (by rfl) (fun W => (EvI.range (by decide +kernel) (o.noName _ (by kernel_rfl)) (EvL.cons (EvS.bin (EvS.var (i := 28) (by rfl) (by decide +kernel) (by decide +kernel)) EvS.int) (EvL.cons (EvS.var (i := 2) (by rfl) (by decide +kernel) (by decide +kernel)) EvL.nil (by rfl)) (by rfl)) (by rfl) (fun zq zq => by rfl)))
 (SsS.cons (StS.assign (i := 32) (by rfl) (fun W => (EvS.bin (EvS.bin (EvS.var (i := 29) (by rfl) (by decide +kernel) (by decide +kernel)) (EvS.idx (EvS.idx (EvS.var (i := 24) (by rfl) (by decide +kernel) (by decide +kernel)) (EvS.var (i := 30) (by rfl) (by decide +kernel) (by decide +kernel)) (by rfl)) (EvS.var (i := 31) (by rfl) (by decide +kernel) (by decide +kernel)) (by rfl))) (EvS.bin (EvS.idx (EvS.idx (EvS.var (i := 24) (by rfl) (by decide +kernel) (by decide +kernel)) (EvS.var (i := 30) (by rfl) (by decide +kernel) (by decide +kernel)) (by rfl)) (EvS.var (i := 28) (by rfl) (by decide +kernel) (by decide +kernel)) (by rfl)) (EvS.idx (EvS.idx (EvS.var (i := 24) (by rfl) (by decide +kernel) (by decide +kernel)) (EvS.var (i := 28) (by rfl) (by decide +kernel) (by decide +kernel)) (by rfl)) (EvS.var (i := 31) (by rfl) (by decide +kernel) (by decide +kernel)) (by rfl))))) (fun zq => by rfl))
 (SsS.cons (StS.ite (fun W => (TsS.cmp (EvS.var (i := 28) (by rfl) (by decide +kernel) (by decide +kernel)) EvS.int (by rfl)))
 (SsS.cons (StS.unpack (is := [32, 4]) (xs := [(_, _), (_, _)]) (by rfl) (by rfl) (fun W => (EvS.call (idm_fn G o) (by decide) (by decide +kernel) (by decide +kernel) (EvL.cons (EvS.var (i := 32) (by rfl) (by decide +kernel) (by decide +kernel)) (EvL.cons (EvS.var (i := 25) (by rfl) (by decide +kernel) (by decide +kernel)) EvL.nil (by rfl)) (by rfl)) (by rfl))) (fun zq => by rfl) (fun zq => by rfl))
 (SsS.cons (StS.ite (fun W => (TsS.cmp (EvS.var (i := 4) (by rfl) (by decide +kernel) (by decide +kernel)) EvS.int (by rfl)))
 (SsS.cons (StS.ret fun W => EvS.bool)
 SsS.nil)
 SsS.nil)
 SsS.nil))
 SsS.nil)
 (SsS.cons (StS.setItem2 (i := 24) (by rfl) (by decide +kernel) (fun W => (EvS.var (i := 30) (by rfl) (by decide +kernel) (by decide +kernel))) (fun W => (EvS.var (i := 31) (by rfl) (by decide +kernel) (by decide +kernel))) (fun W => (EvS.var (i := 32) (by rfl) (by decide +kernel) (by decide +kernel))) (fun zq => by rfl) (by rfl))
 SsS.nil))) (fun zq zq => by rfl))
 SsS.nil) (fun zq zq => by rfl))
 (SsS.cons (StS.assign (i := 25) (by rfl) (fun W => (EvS.var (i := 29) (by rfl) (by decide +kernel) (by decide +kernel))) (fun zq => by rfl))
 SsS.nil)))))) (fun zq zq => by rfl))
 (SsS.cons (StS.ret fun W => (EvS.cmp (EvS.var (i := 18) (by rfl) (by decide +kernel) (by decide +kernel)) (EvS.var (i := 19) (by rfl) (by decide +kernel) (by decide +kernel)) (by rfl)))
 SsS.nil))))))))))))))))))))))))))))
theorem law_ok : DefOk dLaw ["script"] nLaw where
  bind := fun pm code doc vals h => by
    obtain ⟨a, rfl⟩ := vlen1 h
    kernel_rfl
  pre := rfl
  nodup := by decide +kernel
  kinds := by decide +kernel
  free := by decide +kernel
  co := by kernel_rfl
  gen := by kernel_rfl
  fn := by kernel_rfl
end Mine
end

section
open PySem PySem.W PyProof.Rows
set_option Elab.async false
set_option tactic.hygienic false
set_option maxRecDepth 100000
set_option autoImplicit false
set_option linter.unusedVariables false
namespace Mine
theorem ap_ite_t {t f g : List Slot → Option AV} {sl : List Slot} {a r : AV} (ht : Ap t sl = some a) (h : truth a = some true) (hf : Ap f sl = some r) : Ap (iteV t f g) sl = some r := by
  show (Ap t sl).bind (fun a => (truth a).bind fun c => if c then Ap f sl else Ap g sl) = _
  rw [ht, Option.bind_some, h]; exact hf
theorem ap_ite_f {t f g : List Slot → Option AV} {sl : List Slot} {a r : AV} (ht : Ap t sl = some a) (h : truth a = some false) (hf : Ap g sl = some r) : Ap (iteV t f g) sl = some r := by
  show (Ap t sl).bind (fun a => (truth a).bind fun c => if c then Ap f sl else Ap g sl) = _
  rw [ht, Option.bind_some, h]; exact hf
theorem ap_list {f : List Slot → Option (List AV)} {sl : List Slot} {xs : List AV} (hf : f sl = some xs) (h : xs.length < 1000000) : Ap (fun sl => (f sl).bind fun xs => if xs.length < 1000000 then some (AV.lst xs) else none) sl = some (.lst xs) := by
  show (f sl).bind _ = _
  rw [hf, Option.bind_some, if_pos h]
theorem aug_ap {i : Nat} {op : Operator} {f : List Slot → Option AV} {sl : List Slot} {a b r : AV} (h1 : sl[i]? = some (.val a)) (h2 : Ap f sl = some b) (h3 : augV op a b = some r) : augF i op f sl = some (.next, sl.set i (.val r)) := by
  unfold augF
  rw [h1]
  show (Ap f sl).bind (fun b => (augV op a b).bind fun r => some (Fl.next, sl.set i (.val r))) = _
  rw [h2, Option.bind_some, h3]; rfl
theorem comp_mapG {fi : List Slot → Option (List AV)} {ft : List Slot → Option Bool} {fe : List Slot → Option AV} {ix : List Nat} {sl : List Slot} {items : List AV} (g : AV → AV) (hi : fi sl = some items) (hf : firmL items = true) (hl : items.length < 1000000)
    (h : ∀ x ∈ items, ft (cslots sl ix x) = some true ∧ Ap fe (cslots sl ix x) = some (g x) ∧ (g x).firm = true) : compF fi ft fe ix sl = some (items.map g) := by
  unfold compF
  rw [hi, Option.bind_some, if_pos ⟨hf, hl⟩]
  clear hi hf hl
  induction items with
  | nil => rfl
  | cons x r ih =>
    obtain ⟨h1, h2, h3⟩ := h x List.mem_cons_self
    unfold compV
    rw [h1, Option.bind_some, if_pos rfl]
    show (Ap fe (cslots sl ix x)).bind _ = _
    rw [h2, Option.bind_some, if_pos h3, ih fun y hy => h y (List.mem_cons_of_mem _ hy)]
    rfl
theorem comp_filterG {fi : List Slot → Option (List AV)} {ft : List Slot → Option Bool} {fe : List Slot → Option AV} {ix : List Nat} {sl : List Slot} {items : List AV} (p : AV → Bool) (hi : fi sl = some items) (hf : firmL items = true) (hl : items.length < 1000000)
    (h : ∀ x ∈ items, ft (cslots sl ix x) = some (p x) ∧ Ap fe (cslots sl ix x) = some x ∧ x.firm = true) : compF fi ft fe ix sl = some (items.filter p) := by
  unfold compF
  rw [hi, Option.bind_some, if_pos ⟨hf, hl⟩]
  clear hi hf hl
  induction items with
  | nil => rfl
  | cons x r ih =>
    obtain ⟨h1, h2, h3⟩ := h x List.mem_cons_self
    unfold compV
    rw [h1, Option.bind_some]
    have ih' := ih fun y hy => h y (List.mem_cons_of_mem _ hy)
    cases hp : p x with
    | false => rw [if_neg (by decide), ih', List.filter_cons, hp]; rfl
    | true =>
      rw [if_pos rfl]
      show (Ap fe (cslots sl ix x)).bind _ = _
      rw [h2, Option.bind_some, if_pos h3, ih', List.filter_cons, hp]; rfl
theorem ap_comp {f : List Slot → Option (List AV)} {sl : List Slot} {xs : List AV} (h : f sl = some xs) : Ap (fun sl => (f sl).map AV.lst) sl = some (.lst xs) := by
  show (f sl).map AV.lst = _
  rw [h]; rfl
theorem newF_val {i : Nat} {f : List Slot → Option (List AV)} {sl sl' : List Slot} {xs : List AV} (h : f sl = some xs) (hf : firmL xs = true) (hp : putS sl i (.val (.lst xs)) = some sl') : newF 0 i f sl = some (.next, sl') := by
  unfold newF
  rw [h, Option.bind_some, if_pos hf]
  show (putS sl i (.val (.lst xs))).map _ = _
  rw [hp]; rfl
theorem pow_int (x y : Int) (hx : small x = true) (h0 : 0 ≤ y) (h1 : y < 4000) : binV .Pow (.int x) (.int y) = some (.int (x ^ y.toNat)) := by
  show (if (small x && decide (0 ≤ y) && decide (y < 4000)) = true then some (x ^ y.toNat) else none).map AV.int = _
  rw [if_pos (by rw [hx, decide_eq_true h0, decide_eq_true h1]; rfl)]; rfl
theorem mod_int (x y : Int) (hy : y ≠ 0) : binV .Mod (.int x) (.int y) = some (.int (x.fmod y)) := by
  show (if y = 0 then none else some (x.fmod y)).map AV.int = _
  rw [if_neg hy]; rfl
theorem fdiv_int (x y : Int) (hy : y ≠ 0) (hs : small y = true) : binV .FloorDiv (.int x) (.int y) = some (.int (x.fdiv y)) := by
  show (if y ≠ 0 ∧ small y = true then some (x.fdiv y) else none).map AV.int = _
  rw [if_pos ⟨hy, hs⟩]; rfl
theorem add_int (x y : Int) : binV .Add (.int x) (.int y) = some (.int (x + y)) := rfl
theorem sub_int (x y : Int) : binV .Sub (.int x) (.int y) = some (.int (x - y)) := rfl
theorem add_lst (xs ys : List AV) (h : xs.length + ys.length < 1000000) : binV .Add (.lst xs) (.lst ys) = some (.lst (xs ++ ys)) := by
  show (if xs.length + ys.length < 1000000 then some (AV.lst (xs ++ ys)) else none) = _
  rw [if_pos h]
end Mine
end

section
open PySem PySem.W PyProof.Rows
set_option Elab.async false
set_option tactic.hygienic false
set_option maxRecDepth 100000
set_option autoImplicit false
set_option linter.unusedVariables false
namespace Mine
theorem ap_un {op : UnaryOp} {f : List Slot → Option AV} {sl : List Slot} {a r : AV} (hf : Ap f sl = some a) (h : unV op a = some r) : Ap (fun sl => (f sl).bind (unV op)) sl = some r := by
  show (Ap f sl).bind (unV op) = _
  rw [hf, Option.bind_some, h]
theorem listOf_ap {f : List Slot → Option AV} {sl : List Slot} {xs : List AV} (hf : Ap f sl = some (.lst xs)) : (fun sl => (f sl).bind listOf) sl = some xs := by
  show (Ap f sl).bind listOf = _
  rw [hf]; rfl
theorem idx_lst (l : List AV) (j : Nat) (x : AV) (h : l.length < 1000000) (hx : l[j]? = some x) : idxV (.lst l) (nat j) = some x := by
  have hj : j < l.length := (List.getElem?_eq_some_iff.mp hx).1
  have hc := cnd62 j (by lia)
  simp only [idxV, AV.any?, hc, if_true, Int.toNat_natCast]
  exact hx
theorem neq_nat (a b : Nat) : cmpV .NotEq (nat a) (nat b) = some (decide (a ≠ b)) := by
  show some (!((a : Int) == (b : Int))) = _
  congr 1
  by_cases h : a = b
  · subst h; simp
  · rw [decide_eq_true h]
    have : ((a : Int) == (b : Int)) = false := by rw [beq_eq_false_iff_ne]; lia
    rw [this]; rfl
theorem eq_nat (a b : Nat) : cmpV .Eq (nat a) (nat b) = some (decide (a = b)) := by
  show some ((a : Int) == (b : Int)) = _
  congr 1
  by_cases h : a = b
  · subst h; simp
  · rw [decide_eq_false h, beq_eq_false_iff_ne]; lia
theorem signs_txt (l : List Nat) : signs (txt l) = l.map fun c => AV.str (txt [c]) := by
  unfold signs
  rfl
theorem lenV_lst (l : List AV) (h : l.length < 1000000) : lenV [.lst l] = some (nat l.length) := by
  show (if l.length < 1000000 then some (AV.int l.length) else none) = _
  rw [if_pos h]
theorem ifF_trueA {c : List Slot → Option AV} {f g : SF} {sl : List Slot} {a : AV} (h : Ap c sl = some a) (ht : truth a = some true) : ifF c f g sl = f sl := ifF_true h ht
theorem ifF_falseA {c : List Slot → Option AV} {f g : SF} {sl : List Slot} {a : AV} (h : Ap c sl = some a) (ht : truth a = some false) : ifF c f g sl = g sl := ifF_false h ht
theorem ex_falseA {c : List Slot → Option AV} {f g h : SF} {sl : List Slot} {a : AV} {v : Fl} (hc : Ap c sl = some a) (ht : truth a = some false) (hg : g sl = some (.next, sl)) (h2 : ∃ sl', h sl = some (v, sl')) : ∃ sl', seqF (ifF c f g) h sl = some (v, sl') := ex_false hc ht hg h2
theorem skip_false {c : List Slot → Option AV} {f g h : SF} {sl : List Slot} {R : Option (Fl × List Slot)} (hc : Ap c sl = some (.bool false)) (hg : g sl = some (.next, sl)) (h2 : h sl = R) : seqF (ifF c f g) h sl = R := (seqF_next ((ifF_falseA hc rfl).trans hg)).trans h2
theorem skip_next {f g : SF} {sl sl1 : List Slot} {R : Option (Fl × List Slot)} (h : f sl = some (.next, sl1)) (h2 : g sl1 = R) : seqF f g sl = R := (seqF_next h).trans h2
theorem ap_join {f g : List Slot → Option AV} {sl : List Slot} {a b r : AV} (hf : Ap f sl = some a) (hg : Ap g sl = some b) (h : joinV a b = some r) : Ap (fun sl => (f sl).bind fun a => (g sl).bind fun b => joinV a b) sl = some r := by
  show ((Ap f sl).bind fun a => (Ap g sl).bind fun b => joinV a b) = _
  rw [hf, Option.bind_some, hg, Option.bind_some, h]
theorem ap_count {f g : List Slot → Option AV} {sl : List Slot} {a b r : AV} (hf : Ap f sl = some a) (hg : Ap g sl = some b) (h : countV a b = some r) : Ap (fun sl => (f sl).bind fun a => (g sl).bind fun b => countV a b) sl = some r := by
  show ((Ap f sl).bind fun a => (Ap g sl).bind fun b => countV a b) = _
  rw [hf, Option.bind_some, hg, Option.bind_some, h]
theorem ap_rep {f g : List Slot → Option AV} {sl : List Slot} {a b r : AV} (hf : Ap f sl = some a) (hg : Ap g sl = some b) (h : repV a b = some r) : Ap (fun sl => (f sl).bind fun a => (g sl).bind fun b => repV a b) sl = some r := by
  show ((Ap f sl).bind fun a => (Ap g sl).bind fun b => repV a b) = _
  rw [hf, Option.bind_some, hg, Option.bind_some, h]
theorem strOf_ap {f : List Slot → Option AV} {sl : List Slot} {x : Str} (hf : Ap f sl = some (.str x)) : (fun sl => (f sl).bind strOf) sl = some (signs x) := by
  show (Ap f sl).bind strOf = _
  rw [hf]; rfl
theorem tupOf_ap {f : List Slot → Option AV} {sl : List Slot} {xs : List AV} (hf : Ap f sl = some (.tup xs)) : (fun sl => (f sl).bind tupOf) sl = some xs := by
  show (Ap f sl).bind tupOf = _
  rw [hf]; rfl
theorem numsOnly_ap {f : List Slot → Option AV} {sl : List Slot} {xs : List AV} (hf : Ap f sl = some (.lst xs)) (h : (asInts xs).isSome = true) : (fun sl => (f sl).bind numsOnly) sl = some xs := by
  show (Ap f sl).bind numsOnly = _
  rw [hf, Option.bind_some]
  show (if (asInts xs).isSome = true then some xs else none) = _
  rw [if_pos h]
theorem augItem_ap {i j : Nat} {op : Operator} {fi fe : List Slot → Option AV} {sl : List Slot} {xs : List AV} {v old r : AV} (hl : sl[i]?.bind mls? = some xs) (hi : Ap fi sl = some (nat j)) (he : Ap fe sl = some v) (h : xs.length < 1000000) (ho : xs[j]? = some old) (hr : augV op old v = some r) (hf : r.firm = true) : augItemF i op fi fe sl = some (.next, sl.set i (.mls (xs.set j r))) := by
  have hj : j < xs.length := (List.getElem?_eq_some_iff.mp ho).1
  show (Ap fi sl).bind (fun j => (Ap fe sl).bind fun v => _) = _
  rw [hi, Option.bind_some, he, Option.bind_some]
  simp only [hl]
  rw [if_pos ⟨Int.natCast_nonneg j, by lia, h⟩, Int.toNat_natCast, ho, Option.bind_some, hr, Option.bind_some, if_pos hf]
theorem newF_mls {i : Nat} {f : List Slot → Option (List AV)} {sl sl' : List Slot} {xs : List AV} (h : f sl = some xs) (hf : firmL xs = true) (hp : putS sl i (.mls xs) = some sl') : newF 1 i f sl = some (.next, sl') := by
  unfold newF
  rw [h, Option.bind_some, if_pos hf]
  show (putS sl i (.mls xs)).map _ = _
  rw [hp]; rfl
theorem ret_ap {f : List Slot → Option AV} {g : SF} {sl : List Slot} {a : AV} (h : Ap f sl = some a) : ∃ sl', seqF (retF f) g sl = some (.ret a, sl') := by
  refine ⟨sl, seqF_ret ?_⟩
  show (Ap f sl).map (fun a => (Fl.ret a, sl)) = _
  rw [h]; rfl
theorem intL_lay : ∀ l : List Int, PyData.canLayAll0 (pyL (intL l)) = true
  | [] => rfl
  | x :: l => by show ((PyData.int x).canLay0 && PyData.canLayAll0 (pyL (intL l))) = true; rw [intL_lay l]; rfl
theorem intL_eqv : ∀ l : List Int, PyData.eqvAll (pyL (intL l)) (pyL (intL l)) = true
  | [] => rfl
  | x :: l => by show (PyData.eqv (.int x) (.int x) && PyData.eqvAll (pyL (intL l)) (pyL (intL l))) = true; rw [intL_eqv l]; simp [PyData.eqv]
theorem intL_depth : ∀ l : List Int, PyData.depthAll (pyL (intL l)) ≤ 1
  | [] => by decide
  | x :: l => by
    have ih := intL_depth l
    show PyData.depthAll (PyData.int x :: pyL (intL l)) ≤ 1
    simp only [PyData.depthAll, PyData.depth]
    lia
theorem test_ap {f : List Slot → Option AV} {sl : List Slot} {b : Bool} (h : Ap f sl = some (.bool b)) : (fun sl => (f sl).bind truth) sl = some b := by
  show (Ap f sl).bind truth = _
  rw [h]; rfl
theorem comp_filterT {fi : List Slot → Option (List AV)} {f fe : List Slot → Option AV} {ix : List Nat} {sl : List Slot} {items : List AV} (p : AV → Bool) (hi : fi sl = some items) (hf : firmL items = true) (hl : items.length < 1000000)
    (h : ∀ x ∈ items, Ap f (cslots sl ix x) = some (.bool (p x)) ∧ Ap fe (cslots sl ix x) = some x ∧ x.firm = true) : compF fi (fun sl => (f sl).bind truth) fe ix sl = some (items.filter p) :=
  comp_filterG p hi hf hl fun x hx => ⟨test_ap (h x hx).1, (h x hx).2⟩
theorem small_abs {x : Int} {k : Nat} (h : x.natAbs < 2 ^ k) (hk : k ≤ 4000) : small x = true := by
  unfold small BIG
  exact decide_eq_true (Nat.lt_of_lt_of_le h (Nat.pow_le_pow_right (by decide) hk))
theorem int_get (l : List Int) (z : Nat) (h : z < l.length) : (intL l)[z]? = some (.int (l.getD z 0)) := by
  unfold intL
  rw [List.getElem?_map, List.getElem?_eq_getElem h, List.getD_eq_getElem?_getD, List.getElem?_eq_getElem h]; rfl
theorem int_set (l : List Int) (z : Nat) (v : Int) : (intL l).set z (.int v) = intL (l.set z v) := by simp [intL, List.map_set]
theorem ap_callZ {fn : List AV → Option AV} {f : List Slot → Option (List AV)} {sl : List Slot} {xs ys : List AV} {r : AV} (hf : f sl = some xs) (hz : freezeL xs = ys) (h : fn ys = some r) : Ap (fun sl => (f sl).bind fun avs => fn (freezeL avs)) sl = some r := by
  show (f sl).bind (fun avs => fn (freezeL avs)) = _
  rw [hf, Option.bind_some, hz, h]
theorem idm_call {a b : Int} (h : idmOk a b) : idmV [.int a, .int b] = some (.tup [.int (a.fdiv b), .int (a.fmod b)]) := by
  show (if idmOk a b then some (AV.tup [.int (a.fdiv b), .int (a.fmod b)]) else none) = _
  rw [if_pos h]
theorem ap_flat {f : List Slot → Option AV} {sl : List Slot} {a r : AV} (h2 : flatV a = some r) (h : Ap f sl = some a) : Ap (fun sl => (f sl).bind flatV) sl = some r := by
  show (Ap f sl).bind flatV = _
  rw [h, Option.bind_some, h2]
theorem neq_int (a b : Int) : cmpV .NotEq (.int a) (.int b) = some (a != b) := rfl
theorem eq_int (a b : Int) : cmpV .Eq (.int a) (.int b) = some (a == b) := rfl

end Mine
end

section
open PySem PySem.W PyProof.Rows
set_option Elab.async false
set_option tactic.hygienic false
set_option maxRecDepth 100000
set_option autoImplicit false
set_option linter.unusedVariables false
namespace Mine
noncomputable def wayOf (up : List Nat) : Nat → Nat → Option (List Nat)
  | 0, _ => none
  | f + 1, k => if k + 1 = up.length then some [] else (up[k]?).bind fun k' => (wayOf up f k').map (k :: ·)
theorem way_loop (up : List Nat) (C : List Slot → Option AV) (B : SF) (hC : ∀ (k : Nat) (w : List Nat), Ap C [.val (.lst (nats up)), .val (nat k), .mls (nats w)] = some (.bool (decide (k + 1 ≠ up.length))))
    (hB : ∀ (k k' : Nat) (w : List Nat), up[k]? = some k' → w.length < 1000 → B [.val (.lst (nats up)), .val (nat k), .mls (nats w)] = some (.next, [.val (.lst (nats up)), .val (nat k'), .mls (nats (w ++ [k]))])) :
    ∀ (f k : Nat) (acc w : List Nat), acc.length + f < 1000 → wayOf up f k = some w → ∃ k' : Nat, whileF C B f [.val (.lst (nats up)), .val (nat k), .mls (nats acc)] = some (.next, [.val (.lst (nats up)), .val (nat k'), .mls (nats (acc ++ w))]) := by
  intro f
  induction f with
  | zero => exact fun k acc w zq h => by cases h
  | succ f ih =>
    intro k acc w hl h
    unfold wayOf at h
    unfold whileF
    rw [show C [.val (.lst (nats up)), .val (nat k), .mls (nats acc)] = _ from hC k acc, Option.bind_some]
    show ∃ k' : Nat, ((some (decide (k + 1 ≠ up.length))).bind _) = _
    rw [Option.bind_some]
    by_cases e : k + 1 = up.length
    · rw [if_pos e] at h
      cases h
      rw [decide_eq_false (fun q => q e), if_neg (by decide), List.append_nil]
      exact ⟨k, rfl⟩
    · rw [if_neg e] at h
      obtain ⟨k', h1, h⟩ := Option.bind_eq_some_iff.mp h
      obtain ⟨w', h2, rfl⟩ := Option.map_eq_some_iff.mp h
      rw [decide_eq_true e, if_pos rfl, hB k k' acc h1 (by lia), Option.bind_some]
      obtain ⟨k2, h3⟩ := ih k' (acc ++ [k]) w' (by rw [List.length_append, List.length_singleton]; lia) h2
      exact ⟨k2, by rw [List.append_assoc] at h3; exact h3⟩
theorem append_of {i : Nat} {fe : List Slot → Option AV} {sl : List Slot} {l : List Nat} {d : Nat} (hl : sl[i]?.bind mls? = some (nats l)) (he : Ap fe sl = some (nat d)) (h : l.length < 1000000) : appendF i fe sl = some (.next, sl.set i (.mls (nats (l ++ [d])))) := by
  show (Ap fe sl).bind (fun v => _) = _
  rw [he, Option.bind_some, hl]
  show (if (nat d).firm = true ∧ (nats l).length < 1000000 then _ else none) = _
  rw [if_pos ⟨rfl, by rw [nats_len]; exact h⟩]
  simp [nats, intL]
theorem idx_lstn (l : List Nat) (j d : Nat) (h : l.length < 1000000) (hd : l[j]? = some d) : idxV (.lst (nats l)) (nat j) = some (nat d) := idx_lst _ _ _ (by rw [nats_len]; exact h) (nats_get l j d hd)
theorem flat_nats (l : List Nat) : (nats l).all AV.flat = true := flat_ints _
theorem retOwn_of {i : Nat} {sl : List Slot} {l : List Nat} (hl : sl[i]?.bind mls? = some (nats l)) : retOwnF i sl = some (.ret (.lst (nats l)), sl) := by
  show (sl[i]?.bind mls?).bind _ = _
  rw [hl]
  show (if (nats l).all AV.flat = true then some (Fl.ret (.lst (nats l)), sl) else none) = _
  rw [if_pos (flat_nats _)]
theorem way_run (up : List Nat) (k : Nat) (w : List Nat) (hl : up.length < 1000) (h : wayOf up 10 k = some w) : callV way_.1 nWay.length 2 [.lst (nats up), nat k] = some (.lst (nats w)) := by
  have hf : firmL [.lst (nats up), nat k] = true := by
    show ((firmL (nats up)) && true) = true
    rw [show firmL (nats up) = true from firm_intL _]; rfl
  obtain ⟨sl', e⟩ : ∃ sl', way_.1 [.val (.lst (nats up)), .val (nat k), .unset] = some (.ret (.lst (nats w)), sl') := by
    simp only [way_, pk]
    refine ex_next (newF_mls (i := 2) (sl' := [.val (.lst (nats up)), .val (nat k), .mls (nats [])]) rfl rfl rfl) ?_
    refine Exists.elim (way_loop up _ _ (fun k w => ?_) (fun k k' w h1 h2 => ?_) 10 k [] w (by decide) h) fun k' e => ex_next e ?_
    · exact ap_cmp (ap_var rfl) (ap_bin (ap_fn (cons_of (ap_var rfl) rfl) (lenV_lst _ (by rw [nats_len]; lia))) ap_con (sub_int _ _)) (by
        rw [nats_len]
        show some (((k : Int) != (up.length : Int) - 1)) = _
        congr 1
        by_cases q : k + 1 = up.length
        · rw [decide_eq_false (fun z => z q), bne_eq_false_iff_eq]; lia
        · rw [decide_eq_true q, bne_iff_ne]; lia)
    · refine skip_next (append_of (l := w) rfl (ap_var rfl) (by lia)) ?_
      exact skip_next (setF_ap (ap_idx (ap_var rfl) (ap_var rfl) (idx_lstn up k k' (by lia) h1)) rfl rfl) rfl
    · exact ex_of (seqF_ret (retOwn_of (l := [] ++ w) rfl))
  exact call_ret rfl hf e (firm_intL _)
end Mine
end

section
open PySem PySem.W PyProof.Rows
set_option Elab.async false
set_option tactic.hygienic false
set_option maxRecDepth 100000
set_option autoImplicit false
set_option linter.unusedVariables false
namespace Mine
noncomputable def treeStep (l u o : List Nat) (g : Nat) : Option (List Nat × List Nat × List Nat) :=
  if l.idxOf 1 < l.length ∧ l.length = u.length ∧ u.length < 1000 ∧ o.length < 1000 then
    ((l.set (l.idxOf 1) 0)[g]?).bind fun d => if 0 < d then some ((l.set (l.idxOf 1) 0).set g (d - 1), u.set (l.idxOf 1) g, o ++ [l.idxOf 1]) else none
  else none
noncomputable def treeGo : List Nat → List Nat → List Nat → List Nat → Option (List Nat × List Nat × List Nat)
  | [], l, u, o => some (l, u, o)
  | g :: gs, l, u, o => (treeStep l u o g).bind fun t => treeGo gs t.1 t.2.1 t.2.2
noncomputable def treeOf (row : List Nat) (n : Nat) : Option (List Nat × List Nat) := (treeGo (row ++ [n - 1]) ((List.range n).map fun k => 1 + row.count k) (List.replicate n (n - 1)) []).map (·.2)
noncomputable abbrev TS (row : List Nat) (n : Nat) (l u o : List Nat) (s5 s6 : Slot) : List Slot := [.val (.lst (nats row)), .val (nat n), .mls (nats l), .mls (nats u), .mls (nats o), s5, s6]
theorem tree_loop (row : List Nat) (n : Nat) (B : SF) (hB : ∀ (l u o : List Nat) (g : Nat) (t : List Nat × List Nat × List Nat) (s6 : Slot), treeStep l u o g = some t → ∃ s6', B (TS row n l u o (.val (nat g)) s6) = some (.next, TS row n t.1 t.2.1 t.2.2 (.val (nat g)) s6')) :
    ∀ (gs l u o : List Nat) (t : List Nat × List Nat × List Nat) (s5 s6 : Slot), treeGo gs l u o = some t → ∃ s5' s6', forF 5 B (nats gs) (TS row n l u o s5 s6) = some (.next, TS row n t.1 t.2.1 t.2.2 s5' s6') := by
  intro gs
  induction gs with
  | nil => exact fun l u o t s5 s6 h => by cases h; exact ⟨s5, s6, rfl⟩
  | cons g gs ih =>
    intro l u o t s5 s6 h
    obtain ⟨t1, h1, h2⟩ := Option.bind_eq_some_iff.mp h
    obtain ⟨s6', e⟩ := hB l u o g t1 s6 h1
    obtain ⟨a, b, e2⟩ := ih t1.1 t1.2.1 t1.2.2 t (.val (nat g)) s6' h2
    exact ⟨a, b, (forF_next rfl rfl e).trans e2⟩
theorem count_nat (l : List Nat) (k : Nat) : countV (.lst (nats l)) (nat k) = some (nat (l.count k)) := by
  show (asInts (nats l)).map (fun ns => AV.int (ns.count (k : Int) : Nat)) = _
  rw [asInts_nats]
  show some (AV.int _) = some (AV.int _)
  congr 3
  induction l with
  | nil => rfl
  | cons x l ih =>
    rw [List.map_cons, List.count_cons, List.count_cons, ih]
    congr 1
    by_cases e : x = k
    · subst e; simp
    · rw [if_neg (by rw [beq_iff_eq]; exact fun q => e (Int.ofNat.inj q)), if_neg (by simpa using e)]
theorem idxOf_nat (l : List Nat) (k : Nat) : (l.map Int.ofNat).idxOf (k : Int) = l.idxOf k := by
  induction l with
  | nil => rfl
  | cons x l ih =>
    rw [List.map_cons, List.idxOf_cons, List.idxOf_cons, ih]
    by_cases e : x = k
    · subst e; simp
    · have h1 : (Int.ofNat x == (k : Int)) = false := by rw [beq_eq_false_iff_ne]; exact fun q => e (Int.ofNat.inj q)
      have h2 : (x == k) = false := by rw [beq_eq_false_iff_ne]; exact e
      rw [h1, h2]
theorem index_nat (l : List Nat) (k : Nat) (h : l.idxOf k < l.length) (hl : l.length < 1000000) : indexV (.mut (nats l)) (nat k) = some (nat (l.idxOf k)) := by
  show ((asInts (nats l)).bind fun ns => if ns.idxOf (k : Int) < ns.length ∧ ns.length < 1000000 then some (AV.int (ns.idxOf (k : Int) : Nat)) else none) = _
  rw [asInts_nats, Option.bind_some, idxOf_nat, List.length_map, if_pos ⟨h, hl⟩]
theorem ap_index {f g : List Slot → Option AV} {sl : List Slot} {a b r : AV} (hf : Ap f sl = some a) (hg : Ap g sl = some b) (h : indexV a b = some r) : Ap (fun sl => (f sl).bind fun a => (g sl).bind fun b => indexV a b) sl = some r := by
  show ((Ap f sl).bind fun a => (Ap g sl).bind fun b => indexV a b) = _
  rw [hf, Option.bind_some, hg, Option.bind_some, h]
theorem sub1_nat {d : Nat} (h : 0 < d) : augV .Sub (nat d) (.int 1) = some (nat (d - 1)) := by
  show some (AV.int ((d : Int) - 1)) = some (AV.int _)
  congr 2; lia
theorem rep_nats (x n : Nat) (h : n < 1000) : repV (.lst [nat x]) (nat n) = some (.lst (nats (List.replicate n x))) := by
  have e : ∀ k : Nat, (List.replicate k [nat x]).flatten = nats (List.replicate k x) := fun k => by
    induction k with
    | zero => rfl
    | succ k ih => rw [List.replicate_succ, List.flatten_cons, ih]; rfl
  show (if ([nat x] : List AV).length * ((n : Int)).toNat < 1000000 ∧ (n : Int) < 1000000 ∧ -1000000 < (n : Int) then some (AV.lst (List.replicate ((n : Int)).toNat [nat x]).flatten) else none) = _
  rw [if_pos, Int.toNat_natCast, e]
  refine ⟨?_, by lia, by lia⟩
  show 1 * _ < _
  lia
theorem pred_nat {n : Nat} (h : 0 < n) : binV .Sub (nat n) (.int 1) = some (nat (n - 1)) := by
  rw [show nat n = .int (n : Int) from rfl, sub_int]
  congr 2; lia
theorem add_natL (l r : List Nat) (h : l.length + r.length < 1000000) : binV .Add (.lst (nats l)) (.lst (nats r)) = some (.lst (nats (l ++ r))) := by
  rw [add_lst _ _ (by rw [nats_len, nats_len]; exact h)]
  simp [nats, intL]
theorem retTup_of {i j : Nat} {sl : List Slot} {l r : List Nat} (hl : sl[i]?.bind mls? = some (nats l)) (hr : sl[j]?.bind mls? = some (nats r)) : retTupF i j sl = some (.ret (.tup [.lst (nats l), .lst (nats r)]), sl) := by
  have e : ∀ l : List Nat, flatO (nats l) = some (.lst (nats l)) := fun l => by unfold flatO; rw [if_pos (flat_nats _)]
  show ((sl[i]?.bind mls?).bind flatO).bind (fun a => ((sl[j]?.bind mls?).bind flatO).bind fun b => _) = _
  rw [hl, Option.bind_some, e, Option.bind_some, hr, Option.bind_some, e, Option.bind_some]
theorem nats_map {α : Type} (l : List α) (f : α → Nat) : l.map (fun x => nat (f x)) = nats (l.map f) := by simp [nats, intL]
theorem ex_for {i : Nat} {fi : List Slot → Option (List AV)} {B g : SF} {sl sl1 : List Slot} {xs : List AV} {v : Fl} (h : fi sl = some xs) (e : forF i B xs sl = some (.next, sl1)) (h2 : ∃ sl', g sl1 = some (v, sl')) :
    ∃ sl', seqF (fun sl => (fi sl).bind fun xs => forF i B xs sl) g sl = some (v, sl') := ex_next (for_of h e) h2
noncomputable def cntV (row : List Nat) : AV → AV
  | .int i => nat (1 + row.count i.toNat)
  | a => a
theorem tree_run (row : List Nat) (n : Nat) (u o : List Nat) (h0 : 0 < n) (hl : n < 1000) (hr : row.length < 1000) (h : treeOf row n = some (u, o)) : callV tree_.1 nTree.length 2 [.lst (nats row), nat n] = some (.tup [.lst (nats u), .lst (nats o)]) := by
  have hf : firmL [.lst (nats row), nat n] = true := by
    show ((firmL (nats row)) && true) = true
    rw [show firmL (nats row) = true from firm_intL _]; rfl
  obtain ⟨⟨l', u', o'⟩, ht, he⟩ := Option.map_eq_some_iff.mp h
  cases he
  obtain ⟨sl', e⟩ : ∃ sl', tree_.1 [.val (.lst (nats row)), .val (nat n), .unset, .unset, .unset, .unset, .unset] = some (.ret (.tup [.lst (nats u), .lst (nats o)]), sl') := by
    simp only [tree_, pk]
    refine ex_next (sl1 := [.val (.lst (nats row)), .val (nat n), .mls (nats ((List.range n).map fun k => 1 + row.count k)), .unset, .unset, .unset, .unset]) (newF_of (i := 2) (l := (List.range n).map fun k => 1 + row.count k) ?_ rfl) ?_
    · refine (comp_mapG (items := nats (List.range n)) (cntV row) (range_of (cons_of (ap_var rfl) rfl) (range_nat n (by lia))) (firm_intL _) (by rw [nats_len, List.length_range]; lia) (fun x hx => ?_)).trans ?_
      · obtain ⟨i, hi, rfl⟩ := List.mem_map.mp hx
        obtain ⟨k, hk, rfl⟩ := List.mem_map.mp hi
        refine ⟨rfl, ap_bin ap_con (ap_count (ap_var rfl) (ap_var rfl) (count_nat row k)) ?_, rfl⟩
        exact congrArg (fun i => some (AV.int i)) (show (1 : Int) + ((row.count k : Nat) : Int) = ((1 + row.count k : Nat) : Int) by lia)
      · congr 1
        show ((((List.range n).map Int.ofNat).map AV.int).map (cntV row)) = nats _
        rw [List.map_map, List.map_map, ← nats_map]
        exact List.map_congr_left fun k zq => rfl
    refine ex_next (sl1 := [.val (.lst (nats row)), .val (nat n), .mls (nats ((List.range n).map fun k => 1 + row.count k)), .mls (nats (List.replicate n (n - 1))), .unset, .unset, .unset]) (newF_of (i := 3) (l := List.replicate n (n - 1)) (numsOnly_ap (ap_rep (ap_list (cons_of (ap_bin (ap_var rfl) ap_con (pred_nat h0)) rfl) (by show 1 < 1000000; decide)) (ap_var rfl) (rep_nats _ _ hl)) (by rw [asInts_nats]; rfl)) rfl) ?_
    refine ex_next (sl1 := TS row n ((List.range n).map fun k => 1 + row.count k) (List.replicate n (n - 1)) [] .unset .unset) (newF_of (i := 4) (l := []) rfl rfl) ?_
    refine Exists.elim (tree_loop row n _ (fun l u o g t s6 hs => ?_) (row ++ [n - 1]) _ _ _ _ .unset .unset ht) fun s5 H => H.elim fun s6 e => ex_for (xs := nats (row ++ [n - 1])) ?_ e ?_
    rotate_left
    · exact listOf_ap (ap_bin (ap_var rfl) (ap_list (cons_of (ap_bin (ap_var rfl) ap_con (pred_nat h0)) rfl) (by show 1 < 1000000; decide)) (add_natL row [n - 1] (by show row.length + 1 < _; lia)))
    · exact ex_of (seqF_ret (retTup_of rfl rfl))
    · unfold treeStep at hs
      split at hs
      case isFalse => cases hs
      case isTrue hc =>
      obtain ⟨c1, c2, c3, c4⟩ := hc
      obtain ⟨d, hd, hs⟩ := Option.bind_eq_some_iff.mp hs
      split at hs
      case isFalse => cases hs
      case isTrue hd0 =>
      cases hs
      refine ⟨.val (nat (l.idxOf 1)), ?_⟩
      refine skip_next (setF_ap (ap_index (ap_var rfl) ap_con (index_nat l 1 c1 (by lia))) rfl rfl) ?_
      refine skip_next (setItem_of (l := u) rfl (ap_var rfl) (ap_var rfl) (by lia) (by lia)) ?_
      refine skip_next (append_of (l := o) rfl (ap_var rfl) (by lia)) ?_
      refine skip_next (setItem_of (l := l) (d := 0) rfl (ap_var rfl) ap_con c1 (by lia)) ?_
      refine skip_next (augItem_ap (xs := nats (l.set (l.idxOf 1) 0)) (old := nat d) rfl (ap_var rfl) ap_con (by rw [nats_len, List.length_set]; lia) (nats_get _ _ _ hd) (sub1_nat hd0) rfl) ?_
      rw [nats_set]; rfl
  exact call_ret rfl hf e (by
    show ((firmL (nats u)) && ((firmL (nats o)) && true)) = true
    rw [show firmL (nats u) = true from firm_intL _, show firmL (nats o) = true from firm_intL _]; rfl)
end Mine
end

section
open PySem PySem.W PyProof.Rows
set_option Elab.async false
set_option tactic.hygienic false
set_option maxRecDepth 100000
set_option autoImplicit false
set_option linter.unusedVariables false
namespace Mine
noncomputable abbrev matL (M : List (List Nat)) : List AV := M.map fun r => .lst (nats r)
noncomputable def mat (M : List (List Nat)) (i j : Nat) : Nat := (M.getD i []).getD j 0
noncomputable def Sq (n : Nat) (M : List (List Nat)) : Prop := M.length = n ∧ ∀ r ∈ M, r.length = n
theorem matL_firm (M : List (List Nat)) : firmL (matL M) = true := by
  induction M with
  | nil => rfl
  | cons r M ih =>
    show (firmL (nats r) && firmL (matL M)) = true
    rw [ih, show firmL (nats r) = true from firm_intL _]; rfl
theorem matL_freeze (M : List (List Nat)) : freezeL (matL M) = matL M := by
  induction M with
  | nil => rfl
  | cons r M ih =>
    show freezeL (.lst (nats r) :: matL M) = _
    unfold freezeL
    rw [ih]
    show AV.lst (freezeL (nats r)) :: _ = _
    rw [show freezeL (nats r) = nats r from freeze_intL _]; rfl
theorem matL_get {M : List (List Nat)} {i : Nat} (h : i < M.length) : (matL M)[i]? = some (.lst (nats (M.getD i []))) := by
  rw [List.getElem?_map, List.getElem?_eq_getElem h, List.getD_eq_getElem?_getD, List.getElem?_eq_getElem h]; rfl
theorem getD_get {l : List Nat} {j : Nat} (h : j < l.length) : l[j]? = some (l.getD j 0) := by
  rw [List.getD_eq_getElem?_getD, List.getElem?_eq_getElem h]; rfl
theorem Sq.row {n : Nat} {M : List (List Nat)} (h : Sq n M) {i : Nat} (hi : i < n) : (M.getD i []).length = n := by
  have hi' : i < M.length := by rw [h.1]; exact hi
  rw [List.getD_eq_getElem?_getD, List.getElem?_eq_getElem hi']
  exact h.2 _ (List.getElem_mem hi')
theorem ap_ent {n : Nat} {M : List (List Nat)} (h : Sq n M) (hn : n < 1000) {f g k : List Slot → Option AV} {sl : List Slot} {i j : Nat} (hf : Ap f sl = some (.lst (matL M))) (hg : Ap g sl = some (nat i)) (hk : Ap k sl = some (nat j)) (hi : i < n) (hj : j < n) :
    Ap (fun sl => ((f sl).bind fun a => (g sl).bind fun b => idxV a b).bind fun a => (k sl).bind fun b => idxV a b) sl = some (nat (mat M i j)) := by
  have hr := h.row hi
  refine ap_idx (ap_idx hf hg (idx_lst _ _ _ ?_ (matL_get (by rw [h.1]; exact hi)))) hk (idx_lstn _ _ _ (by rw [hr]; lia) (getD_get (by rw [hr]; exact hj)))
  rw [List.length_map, h.1]; lia
theorem ap_and_b {f g : List Slot → Option AV} {sl : List Slot} {b c : Bool} (hf : Ap f sl = some (.bool b)) (hg : b = true → Ap g sl = some (.bool c)) : Ap (andV f g) sl = some (.bool (b && c)) := by
  show (Ap f sl).bind (fun a => (truth a).bind fun c => if c then Ap g sl else some a) = _
  rw [hf, Option.bind_some]
  cases b with
  | true => exact hg rfl
  | false => rfl
theorem filter_nats (l : List Nat) (p : AV → Bool) (q : Nat → Bool) (h : ∀ x ∈ l, p (nat x) = q x) : (nats l).filter p = nats (l.filter q) := by
  induction l with
  | nil => rfl
  | cons x l ih =>
    have ih := ih fun y hy => h y (List.mem_cons_of_mem _ hy)
    show (nat x :: nats l).filter p = _
    rw [List.filter_cons, List.filter_cons, h x List.mem_cons_self, ih]
    cases q x <;> rfl
noncomputable def onN (q : Nat → Bool) : AV → Bool
  | .int i => q i.toNat
  | _ => false
theorem comp_filterN {fi : List Slot → Option (List AV)} {f fe : List Slot → Option AV} {ix : List Nat} {sl : List Slot} {l : List Nat} (q : Nat → Bool) (hi : fi sl = some (nats l)) (hl : l.length < 1000000)
    (h : ∀ x ∈ l, Ap f (cslots sl ix (nat x)) = some (.bool (q x)) ∧ Ap fe (cslots sl ix (nat x)) = some (nat x)) : compF fi (fun sl => (f sl).bind truth) fe ix sl = some (nats (l.filter q)) := by
  refine (comp_filterT (onN q) hi (firm_intL _) (by rw [nats_len]; exact hl) fun x hx => ?_).trans (congrArg some (filter_nats l _ q fun x zq => rfl))
  obtain ⟨i, hi, rfl⟩ := List.mem_map.mp hx
  obtain ⟨k, hk, rfl⟩ := List.mem_map.mp hi
  exact ⟨(h k hk).1, (h k hk).2, rfl⟩
theorem comp_mapN {fi : List Slot → Option (List AV)} {fe : List Slot → Option AV} {ix : List Nat} {sl : List Slot} {l : List Nat} (g : Nat → AV) (hi : fi sl = some (nats l)) (hl : l.length < 1000000)
    (h : ∀ x ∈ l, Ap fe (cslots sl ix (nat x)) = some (g x) ∧ (g x).firm = true) : compF fi (fun zq => some true) fe ix sl = some (l.map g) := by
  refine (comp_mapG (fun a => match a with | .int i => g i.toNat | a => a) hi (firm_intL _) (by rw [nats_len]; exact hl) fun x hx => ?_).trans (congrArg some ?_)
  · obtain ⟨i, hi, rfl⟩ := List.mem_map.mp hx
    obtain ⟨k, hk, rfl⟩ := List.mem_map.mp hi
    exact ⟨rfl, (h k hk).1, (h k hk).2⟩
  · show ((l.map Int.ofNat).map AV.int).map _ = _
    rw [List.map_map, List.map_map]
    exact List.map_congr_left fun k zq => rfl
theorem eq_nil (l : List Nat) : cmpV .Eq (.lst (nats l)) (.lst []) = some l.isEmpty := by
  show (if (PyData.canLayAll0 (pyL (nats l)) && true && decide ((PyData.list (pyL (nats l))).depth < 500)) = true then some (PyData.eqvAll (pyL (nats l)) []) else none) = _
  have h := intL_depth (l.map Int.ofNat)
  have hd : (PyData.list (pyL (nats l))).depth < 500 := by show (PyData.list (pyL (intL (l.map Int.ofNat)))).depth < 500; simp only [PyData.depth]; lia
  rw [show PyData.canLayAll0 (pyL (nats l)) = true from intL_lay _, decide_eq_true hd]
  cases l <;> rfl
noncomputable def betw (M : List (List Nat)) (u v : Nat) : List Nat := (List.range M.length).filter fun w => !(w == u) && (!(w == v) && (mat M u w + mat M w v == mat M u v))
theorem neq_natB (a b : Nat) : cmpV .NotEq (nat a) (nat b) = some (!(a == b)) := by
  rw [neq_nat]
  congr 1
  by_cases h : a = b
  · subst h; simp
  · simp [h]
theorem eq_natB (a b : Nat) : cmpV .Eq (nat a) (nat b) = some (a == b) := by
  rw [eq_nat]
  congr 1
theorem flatLV_nats (l : List Nat) : flatLV (.lst (nats l)) = some (.lst (nats l)) := by
  show (if (nats l).all AV.flat = true then some (AV.lst (nats l)) else none) = _
  rw [if_pos (flat_nats l)]
theorem flatL_ap {f : List Slot → Option AV} {sl : List Slot} {a r : AV} (h2 : flatLV a = some r) (h : Ap f sl = some a) : Ap (fun sl => (f sl).bind flatLV) sl = some r := by
  show (Ap f sl).bind flatLV = _
  rw [h, Option.bind_some, h2]
theorem bet_run {n : Nat} {M : List (List Nat)} (h : Sq n M) (hn : n < 1000) {u v : Nat} (hu : u < n) (hv : v < n) : callV bet_.1 nBet.length 3 [.lst (matL M), nat u, nat v] = some (.lst (nats (betw M u v))) := by
  have hf : firmL [.lst (matL M), nat u, nat v] = true := by
    show ((firmL (matL M)) && true) = true
    rw [matL_firm]; rfl
  obtain ⟨sl', e⟩ : ∃ sl', bet_.1 [.val (.lst (matL M)), .val (nat u), .val (nat v)] = some (.ret (.lst (nats (betw M u v))), sl') := by
    simp only [bet_, pk]
    refine ret_ap (flatL_ap (flatLV_nats _) (ap_comp (comp_filterN _ (range_of (cons_of (ap_fn (cons_of (ap_var rfl) rfl) (lenV_lst _ (by rw [List.length_map, h.1]; lia))) rfl) ?_) ?_ fun w hw => ?_)))
    · rw [List.length_map]; exact range_nat _ (by rw [h.1]; lia)
    · rw [List.length_range, h.1]; lia
    · have hw : w < n := by rw [List.mem_range, h.1] at hw; exact hw
      refine ⟨ap_and_b (ap_cmp (ap_var rfl) (ap_var rfl) (neq_natB w u)) fun zq => ap_and_b (ap_cmp (ap_var rfl) (ap_var rfl) (neq_natB w v)) fun zq => ?_, ap_var rfl⟩
      exact ap_cmp (ap_bin (ap_ent h hn (ap_var rfl) (ap_var rfl) (ap_var rfl) hu hw) (ap_ent h hn (ap_var rfl) (ap_var rfl) (ap_var rfl) hw hv) (add_int _ _)) (ap_ent h hn (ap_var rfl) (ap_var rfl) (ap_var rfl) hu hv) (eq_natB (mat M u w + mat M w v) (mat M u v))
  exact call_ret rfl hf e (firm_intL _)
end Mine
end

section
open PySem PySem.W PyProof.Rows
set_option Elab.async false
set_option tactic.hygienic false
set_option maxRecDepth 100000
set_option autoImplicit false
set_option linter.unusedVariables false
namespace Mine
noncomputable def nearRow (M : List (List Nat)) (u : Nat) : List Nat := (List.range M.length).filter fun v => !(v == u) && (betw M u v).isEmpty
noncomputable def nearOf (M : List (List Nat)) : List (List Nat) := (List.range M.length).map (nearRow M)
noncomputable def endsOf (n : Nat) (N : List (List Nat)) : List Nat := (List.range n).filter fun k => (N.getD k []).length == 1
noncomputable def backStep (n : Nat) (N : List (List Nat)) : Option (Nat × List (List Nat)) :=
  ((endsOf n N).head?).bind fun leaf => ((N.getD leaf []).head?).bind fun g =>
    if leaf < n ∧ g < n ∧ N.length = n ∧ (N.all fun r => decide (r.length ≤ n)) = true then some (g, (N.set leaf []).set g (((N.set leaf []).getD g []).filter fun k => !(k == leaf))) else none
noncomputable def backGo (n : Nat) : Nat → List (List Nat) → List Nat → Option (List Nat)
  | 0, _, row => some row
  | t + 1, N, row => (backStep n N).bind fun s => backGo n t s.2 (row ++ [s.1])
noncomputable abbrev BS (M : List (List Nat)) (n : Nat) (N : List (List Nat)) (row : List Nat) (s4 s5 s6 s7 : Slot) : List Slot := [.val (.lst (matL M)), .val (nat n), .mls (matL N), .mls (nats row), s4, s5, s6, s7]
theorem back_loop (M : List (List Nat)) (n : Nat) (B : SF) (hB : ∀ (N : List (List Nat)) (row : List Nat) (s : Nat × List (List Nat)) (t : Nat) (s5 s6 s7 : Slot), row.length < 1000 → backStep n N = some s → ∃ s5' s6' s7', B (BS M n N row (.val (nat t)) s5 s6 s7) = some (.next, BS M n s.2 (row ++ [s.1]) (.val (nat t)) s5' s6' s7')) :
    ∀ (ts : List Nat) (N : List (List Nat)) (row out : List Nat) (s4 s5 s6 s7 : Slot), row.length + ts.length < 1000 → backGo n ts.length N row = some out →
      ∃ N' s4' s5' s6' s7', forF 4 B (nats ts) (BS M n N row s4 s5 s6 s7) = some (.next, BS M n N' out s4' s5' s6' s7') := by
  intro ts
  induction ts with
  | nil => exact fun N row out s4 s5 s6 s7 zq h => by cases h; exact ⟨N, s4, s5, s6, s7, rfl⟩
  | cons t ts ih =>
    intro N row out s4 s5 s6 s7 hl h
    obtain ⟨s, h1, h2⟩ := Option.bind_eq_some_iff.mp h
    rw [List.length_cons] at hl
    obtain ⟨a, b, c, e⟩ := hB N row s t s5 s6 s7 (by lia) h1
    obtain ⟨N', a', b', c', d', e'⟩ := ih s.2 (row ++ [s.1]) out (.val (nat t)) a b c (by rw [List.length_append, List.length_singleton]; lia) h2
    exact ⟨N', a', b', c', d', (forF_next rfl rfl e).trans e'⟩
theorem setItem_av {i j : Nat} {fi fe : List Slot → Option AV} {sl : List Slot} {xs : List AV} {v : AV} (hl : sl[i]?.bind mls? = some xs) (hi : Ap fi sl = some (nat j)) (he : Ap fe sl = some v) (hv : v.firm = true) (hj : j < xs.length) (h : xs.length < 1000000) : setItemF i fi fe sl = some (.next, sl.set i (.mls (xs.set j v))) := by
  show (Ap fe sl).bind (fun v => (Ap fi sl).bind fun j => _) = _
  rw [he, Option.bind_some, hi, Option.bind_some]
  simp only [hl]
  rw [if_pos ⟨hv, Int.natCast_nonneg j, by lia, h⟩, Int.toNat_natCast]
theorem idx_mut (l : List AV) (j : Nat) (x : AV) (h : l.length < 1000000) (hx : l[j]? = some x) : idxV (.mut l) (nat j) = some x := idx_lst l j x h hx
theorem matL_set (M : List (List Nat)) (i : Nat) (r : List Nat) : (matL M).set i (.lst (nats r)) = matL (M.set i r) := (List.map_set ..).symm
theorem nodrop {l : List Nat} {a : Nat} (h : l.head? = some a) : l[0]? = some a := by rw [← h]; cases l <;> rfl
theorem ends_len (n : Nat) (N : List (List Nat)) : (endsOf n N).length ≤ n := by
  have := List.length_filter_le (fun k => (N.getD k []).length == 1) (List.range n)
  rw [List.length_range] at this; exact this
theorem set_row (N : List (List Nat)) (leaf g n : Nat) (h : (N.getD g []).length ≤ n) : ((N.set leaf []).getD g []).length ≤ n := by
  rw [List.getD_eq_getElem?_getD] at *
  rw [List.getElem?_set]
  split
  · split
    · exact Nat.zero_le _
    · exact Nat.zero_le _
  · exact h
theorem back_run {n : Nat} {M : List (List Nat)} (h : Sq n M) (h2 : 2 ≤ n) (hn : n < 1000) {out : List Nat} (hb : backGo n (n - 2) (nearOf M) [] = some out) : callV back_.1 nBack.length 1 [.lst (matL M)] = some (.lst (nats out)) := by
  have hrow : ∀ N : List (List Nat), (N.all fun r => decide (r.length ≤ n)) = true → ∀ k, (N.getD k []).length ≤ n := fun N c k => by
    rw [List.getD_eq_getElem?_getD]
    cases q : N[k]? with
    | none => exact Nat.zero_le _
    | some r => exact of_decide_eq_true (List.all_eq_true.mp c r (List.mem_of_getElem? q))
  have hf : firmL [.lst (matL M)] = true := by
    show ((firmL (matL M)) && true) = true
    rw [matL_firm]; rfl
  obtain ⟨sl', e⟩ : ∃ sl', back_.1 [.val (.lst (matL M)), .unset, .unset, .unset, .unset, .unset, .unset, .unset] = some (.ret (.lst (nats out)), sl') := by
    simp only [back_, pk]
    refine ex_next (sl1 := [.val (.lst (matL M)), .val (nat n), .unset, .unset, .unset, .unset, .unset, .unset]) (setF_ap (ap_fn (cons_of (ap_var rfl) rfl) ((lenV_lst _ (by rw [List.length_map, h.1]; lia)).trans (by rw [List.length_map, h.1]))) rfl rfl) ?_
    refine ex_next (sl1 := [.val (.lst (matL M)), .val (nat n), .mls (matL (nearOf M)), .unset, .unset, .unset, .unset, .unset]) (newF_mls (xs := matL (nearOf M)) ?_ (matL_firm _) rfl) ?_
    · refine (comp_mapN (fun u => .lst (nats (nearRow M u))) (range_of (cons_of (ap_var rfl) rfl) (range_nat n (by lia))) (by rw [List.length_range]; lia) fun u hu => ?_).trans (by show some _ = some _; congr 1; unfold nearOf; rw [h.1]; show _ = List.map _ (List.map _ _); rw [List.map_map]; rfl)
      rw [List.mem_range] at hu
      refine ⟨ap_comp ((comp_filterN (fun v => !(v == u) && (betw M u v).isEmpty) (range_of (cons_of (ap_var rfl) rfl) (range_nat n (by lia))) (by rw [List.length_range]; lia) fun v hv => ?_).trans (by unfold nearRow; rw [h.1])), firm_intL _⟩
      rw [List.mem_range] at hv
      refine ⟨ap_and_b (ap_cmp (ap_var rfl) (ap_var rfl) (neq_natB v u)) fun zq => ?_, ap_var rfl⟩
      exact ap_cmp (ap_callZ (cons_of (ap_var rfl) (cons_of (ap_var rfl) (cons_of (ap_var rfl) rfl))) (by show AV.lst (freezeL (matL M)) :: _ = _; rw [matL_freeze]; rfl) (bet_run h hn hu hv)) (ap_list rfl (by decide)) (eq_nil _)
    refine ex_next (sl1 := BS M n (nearOf M) [] .unset .unset .unset .unset) (newF_of (i := 3) (l := []) rfl rfl) ?_
    refine Exists.elim (back_loop M n _ (fun N row s t s5 s6 s7 hl hs => ?_) (List.range (n - 2)) (nearOf M) [] out .unset .unset .unset .unset (by rw [List.length_range]; show 0 + _ < _; lia) (by rw [List.length_range]; exact hb)) fun N' H => H.elim fun s4 H => H.elim fun s5 H => H.elim fun s6 H => H.elim fun s7 e =>
      ex_for (xs := nats (List.range (n - 2))) ?_ e ?_
    rotate_left
    · refine range_of (cons_of (ap_bin (ap_var rfl) ap_con ?_) rfl) (range_nat (n - 2) (by lia))
      show some (AV.int ((n : Int) - 2)) = some (AV.int _)
      congr 2; lia
    · exact ex_of (seqF_ret (retOwn_of rfl))
    · obtain ⟨leaf, k1, hs⟩ := Option.bind_eq_some_iff.mp hs
      obtain ⟨g, k2, hs⟩ := Option.bind_eq_some_iff.mp hs
      split at hs
      case isFalse => cases hs
      case isTrue hc =>
      cases hs
      obtain ⟨c1, c2, c3, c4⟩ := hc
      have cl : (matL N).length = n := by rw [List.length_map, c3]
      refine ⟨.val (.lst (nats (endsOf n N))), .val (nat leaf), .val (nat g), ?_⟩
      refine skip_next (sl1 := BS M n N row (.val (nat t)) (.val (.lst (nats (endsOf n N)))) s6 s7) (newF_val (comp_filterN _ (range_of (cons_of (ap_var rfl) rfl) (range_nat n (by lia))) (by rw [List.length_range]; lia) fun k hk => ⟨?_, ap_var rfl⟩) (firm_intL _) rfl) ?_
      · rw [List.mem_range] at hk
        exact ap_cmp (ap_fn (cons_of (ap_idx (ap_var rfl) (ap_var rfl) (idx_mut (matL N) k _ (by rw [cl]; lia) (matL_get (by rw [c3]; exact hk)))) rfl) ((lenV_lst _ (by rw [nats_len]; have := hrow N c4 k; lia)).trans (by rw [nats_len]))) ap_con (eq_natB (N.getD k []).length 1)
      have ke : (endsOf n N).isEmpty = false := by cases q : endsOf n N with
        | nil => rw [q] at k1; cases k1
        | cons a l => rfl
      refine skip_false (ap_cmp (ap_var rfl) (ap_list rfl (by decide)) ((eq_nil _).trans (by rw [ke]))) rfl ?_
      refine skip_next (sl1 := BS M n N row (.val (nat t)) (.val (.lst (nats (endsOf n N)))) (.val (nat leaf)) s7) (setF_ap (ap_idx (ap_var rfl) ap_con (idx_lstn (endsOf n N) 0 leaf (by have := ends_len n N; lia) (nodrop k1))) rfl rfl) ?_
      refine skip_next (sl1 := BS M n N row (.val (nat t)) (.val (.lst (nats (endsOf n N)))) (.val (nat leaf)) (.val (nat g))) (setF_ap (ap_idx (ap_idx (ap_var rfl) (ap_var rfl) (idx_mut (matL N) leaf _ (by rw [cl]; lia) (matL_get (by rw [c3]; exact c1)))) ap_con (idx_lstn (N.getD leaf []) 0 g (by have := hrow N c4 leaf; lia) (nodrop k2))) rfl rfl) ?_
      refine skip_next (sl1 := BS M n N (row ++ [g]) (.val (nat t)) (.val (.lst (nats (endsOf n N)))) (.val (nat leaf)) (.val (nat g))) (append_of (l := row) rfl (ap_var rfl) (by lia)) ?_
      refine skip_next (sl1 := BS M n (N.set leaf []) (row ++ [g]) (.val (nat t)) (.val (.lst (nats (endsOf n N)))) (.val (nat leaf)) (.val (nat g))) ((setItem_av (xs := matL N) (v := .lst []) rfl (ap_var rfl) (ap_list (xs := []) rfl (by show 0 < 1000000; decide)) rfl (by rw [cl]; exact c1) (by rw [cl]; lia)).trans (by rw [show AV.lst [] = AV.lst (nats []) from rfl, matL_set]; rfl)) ?_
      have hi : (fun sl : List Slot => ((sl[2]?.bind Slot.read).bind fun a => (sl[7]?.bind Slot.read).bind fun b => idxV a b).bind listOf) (BS M n (N.set leaf []) (row ++ [g]) (.val (nat t)) (.val (.lst (nats (endsOf n N)))) (.val (nat leaf)) (.val (nat g))) = some (nats ((N.set leaf []).getD g [])) :=
        listOf_ap (f := fun sl => (sl[2]?.bind Slot.read).bind fun a => (sl[7]?.bind Slot.read).bind fun b => idxV a b) (sl := BS M n (N.set leaf []) (row ++ [g]) (.val (nat t)) (.val (.lst (nats (endsOf n N)))) (.val (nat leaf)) (.val (nat g))) (ap_idx (ap_var rfl) (ap_var rfl) (idx_mut (matL (N.set leaf [])) g _ (by rw [List.length_map, List.length_set, c3]; lia) (matL_get (by rw [List.length_set, c3]; exact c2))))
      refine skip_next (setItem_av (xs := matL (N.set leaf [])) (v := .lst (nats (((N.set leaf []).getD g []).filter fun k => !(k == leaf)))) rfl (ap_var rfl) (ap_comp (comp_filterN (l := (N.set leaf []).getD g []) _ hi ?_ fun k hk => ⟨ap_cmp (ap_var rfl) (ap_var rfl) (neq_natB k leaf), ap_var rfl⟩)) (firm_intL _) ?_ ?_) ?_
      · have := set_row N leaf g n (hrow N c4 g); lia
      · rw [List.length_map, List.length_set, c3]; exact c2
      · rw [List.length_map, List.length_set, c3]; lia
      · rw [matL_set]; rfl
  exact call_ret rfl hf e (firm_intL _)
end Mine
end

section
open PySem
set_option Elab.async false
set_option tactic.hygienic false
set_option maxRecDepth 100000
set_option autoImplicit false
set_option linter.unusedVariables false
namespace Mine
noncomputable def wsum (s : Nat → Nat) (x N : Nat) : Nat := sumTo (fun k => if x.testBit k then s k else 0) N
noncomputable def msk : List Nat → Nat
  | [] => 0
  | k :: r => 2 ^ k ||| msk r
theorem msk_bit (l : List Nat) (k : Nat) : (msk l).testBit k = decide (k ∈ l) := by
  induction l with
  | nil => simp [msk]
  | cons a l ih =>
    unfold msk
    rw [Nat.testBit_or, ih, Nat.testBit_two_pow]
    by_cases h : a = k
    · subst h; simp
    · simp [h, Ne.symm h]
theorem msk_lt {l : List Nat} {N : Nat} (h : ∀ k ∈ l, k < N) : msk l < 2 ^ N := by
  induction l with
  | nil => exact Nat.two_pow_pos N
  | cons a l ih => exact Nat.or_lt_two_pow (Nat.pow_lt_pow_right (by decide) (h a List.mem_cons_self)) (ih fun k hk => h k (List.mem_cons_of_mem _ hk))
theorem sumTo_plus (f g : Nat → Nat) (n : Nat) : sumTo (fun k => f k + g k) n = sumTo f n + sumTo g n := by
  induction n with
  | zero => rfl
  | succ n ih => show sumTo _ n + _ = (sumTo f n + f n) + (sumTo g n + g n); rw [ih]; lia
theorem sumTo_congr {f g : Nat → Nat} {n : Nat} (h : ∀ k, k < n → f k = g k) : sumTo f n = sumTo g n := by
  induction n with
  | zero => rfl
  | succ n ih => show sumTo f n + f n = sumTo g n + g n; rw [ih fun k hk => h k (by lia), h n (Nat.lt_succ_self n)]
theorem wsum_xor (s : Nat → Nat) (a b N : Nat) : wsum s a N + wsum s b N = wsum s (a ^^^ b) N + 2 * wsum s (a &&& b) N := by
  unfold wsum
  rw [show 2 * sumTo (fun k => if (a &&& b).testBit k then s k else 0) N = sumTo (fun k => if (a &&& b).testBit k then s k else 0) N + sumTo (fun k => if (a &&& b).testBit k then s k else 0) N by lia, ← sumTo_plus, ← sumTo_plus, ← sumTo_plus]
  refine sumTo_congr fun k zq => ?_
  rw [Nat.testBit_xor, Nat.testBit_and]
  cases a.testBit k <;> cases b.testBit k <;> simp
theorem wsum_zero (s : Nat → Nat) (N : Nat) : wsum s 0 N = 0 := by
  unfold wsum
  rw [sumTo_congr (g := fun zq => 0) fun k zq => by rw [Nat.zero_testBit]; rfl]
  induction N with
  | zero => rfl
  | succ n ih => show sumTo _ n + 0 = 0; rw [ih]
theorem wsum_pos {s : Nat → Nat} (hs : ∀ k, 1 ≤ s k) {x N k : Nat} (hk : k < N) (h : x.testBit k = true) : 0 < wsum s x N := by
  unfold wsum
  have h1 := sumTo_mono (fun k => if x.testBit k then s k else 0) (show k + 1 ≤ N from hk)
  have h2 : sumTo (fun k => if x.testBit k then s k else 0) (k + 1) = sumTo (fun k => if x.testBit k then s k else 0) k + (if x.testBit k then s k else 0) := rfl
  rw [h, if_pos rfl] at h2
  have := hs k
  lia
theorem wsum_eq0 {s : Nat → Nat} (hs : ∀ k, 1 ≤ s k) {x N : Nat} (hx : x < 2 ^ N) : (wsum s x N = 0) = (x = 0) := by
  refine propext ⟨fun h => ?_, fun h => by rw [h]; exact wsum_zero s N⟩
  refine Nat.eq_of_testBit_eq fun k => ?_
  rw [Nat.zero_testBit]
  cases q : x.testBit k with
  | false => rfl
  | true =>
    have hk : k < N := by
      refine Nat.lt_of_not_le fun hk => ?_
      rw [Nat.testBit_lt_two_pow (Nat.lt_of_lt_of_le hx (Nat.pow_le_pow_right (by decide) hk))] at q
      cases q
    have := wsum_pos hs hk q
    lia
theorem wsum_one (s : Nat → Nat) {p N : Nat} (h : p < N) : wsum s (2 ^ p) N = s p := by
  have key : ∀ n, wsum s (2 ^ p) n = if p < n then s p else 0 := by
    intro n
    induction n with
    | zero => rfl
    | succ n ih =>
      show wsum s (2 ^ p) n + (if (2 ^ p).testBit n then s n else 0) = _
      rw [ih, Nat.testBit_two_pow]
      by_cases q : p = n
      · subst q; rw [if_neg (Nat.lt_irrefl _), decide_eq_true rfl, if_pos rfl, if_pos (Nat.lt_succ_self _), Nat.zero_add]
      · rw [decide_eq_false q, if_neg (c := false = true) (by decide), Nat.add_zero]
        by_cases r : p < n
        · rw [if_pos r, if_pos (by lia)]
        · rw [if_neg r, if_neg (by lia)]
  rw [key, if_pos h]
noncomputable def wo (x T : Nat) : Nat := x ^^^ (x &&& T)
theorem wo_bit (x T k : Nat) : (wo x T).testBit k = (x.testBit k && !T.testBit k) := by
  unfold wo
  rw [Nat.testBit_xor, Nat.testBit_and]
  cases x.testBit k <;> cases T.testBit k <;> rfl
theorem wsum_wo (s : Nat → Nat) (x T p N : Nat) (hp : p < N) (hT : T.testBit p = false) : wsum s (wo x (T ||| 2 ^ p)) N + (if x.testBit p then s p else 0) = wsum s (wo x T) N := by
  have e : wsum s (2 ^ p) N = s p := wsum_one s hp
  cases q : x.testBit p with
  | false =>
    rw [if_neg (by decide), Nat.add_zero]
    refine sumTo_congr fun k zq => ?_
    rw [wo_bit, wo_bit, Nat.testBit_or, Nat.testBit_two_pow]
    by_cases r : p = k
    · subst r; rw [q]; rfl
    · rw [decide_eq_false r, Bool.or_false]
  | true =>
    rw [if_pos rfl, ← e]
    unfold wsum
    rw [← sumTo_plus]
    refine sumTo_congr fun k zq => ?_
    rw [wo_bit, wo_bit, Nat.testBit_or, Nat.testBit_two_pow]
    by_cases r : p = k
    · subst r; rw [q, hT]; simp
    · rw [decide_eq_false r, Bool.or_false]; simp
end Mine
end

section
open PySem
set_option Elab.async false
set_option tactic.hygienic false
set_option maxRecDepth 100000
set_option autoImplicit false
set_option linter.unusedVariables false
namespace Mine
noncomputable def force (x : Nat) (k : Nat → Bool) : Bool := match x with
  | .zero => k 0
  | .succ m => k (.succ m)
theorem force_eq (x : Nat) (k : Nat → Bool) : force x k = k x := by cases x <;> rfl
noncomputable def forceL : List Nat → (List Nat → Bool) → Bool
  | [], k => k []
  | x :: r, k => force x fun x => forceL r fun r => k (x :: r)
theorem forceL_eq (l : List Nat) : ∀ k, forceL l k = k l := by
  induction l with
  | nil => exact fun k => rfl
  | cons x r ih => exact fun k => by unfold forceL; rw [force_eq, ih]
noncomputable def forceM : List (List Nat) → (List (List Nat) → Bool) → Bool
  | [], k => k []
  | x :: r, k => forceL x fun x => forceM r fun r => k (x :: r)
theorem forceM_eq (l : List (List Nat)) : ∀ k, forceM l k = k l := by
  induction l with
  | nil => exact fun k => rfl
  | cons x r ih => exact fun k => by unfold forceM; rw [forceL_eq, ih]

noncomputable def figB (n : Nat) : Nat → Nat → List Nat
  | 0, _ => []
  | k + 1, x => x % n :: figB n k (x / n)
noncomputable def goF : List Nat → List Nat → List Nat → List Nat → (List Nat → List Nat → Bool) → Bool
  | [], l, u, o, k => k u o
  | g :: gs, l, u, o, k => match treeStep l u o g with
    | none => false
    | some t => forceL t.1 fun l => forceL t.2.1 fun u => forceL t.2.2 fun o => goF gs l u o k
theorem goF_true : ∀ (gs l u o : List Nat) (k : List Nat → List Nat → Bool), goF gs l u o k = true → ∃ t, treeGo gs l u o = some t ∧ k t.2.1 t.2.2 = true
  | [], l, u, o, k, h => ⟨(l, u, o), rfl, h⟩
  | g :: gs, l, u, o, k, h => by
    unfold goF at h
    cases e : treeStep l u o g with
    | none => rw [e] at h; cases h
    | some t =>
      rw [e] at h
      dsimp only at h
      rw [forceL_eq, forceL_eq, forceL_eq] at h
      obtain ⟨t', h1, h2⟩ := goF_true gs t.1 t.2.1 t.2.2 k h
      exact ⟨t', by unfold treeGo; rw [e]; exact h1, h2⟩
noncomputable def gt0 : List Nat → Nat → Nat
  | [], _ => 0
  | x :: r, .zero => x
  | x :: r, .succ i => gt0 r i
noncomputable def elimGo (N : Nat) (X : List Nat) : Nat → List Nat → Bool
  | _, [] => true
  | T, p :: r => decide (p < N) && (!T.testBit p && (wo (gt0 X p) T == 2 ^ p && force (T ||| 2 ^ p) fun T => elimGo N X T r))
noncomputable def nearV (R D : List Nat) (u v dv : Nat) : Bool := R.all fun w => Nat.beq w u || (Nat.beq w v || !(Nat.beq (Nat.land (gt0 D w) (Nat.xor (gt0 D w) dv)) 0))
noncomputable def nearD (R D : List Nat) (u : Nat) : List Nat := R.filter fun v => !(Nat.beq v u) && nearV R D u v (gt0 D v)
noncomputable def nearF (R X : List Nat) : List Nat → (List (List Nat) → Bool) → Bool
  | [], k => k []
  | u :: us, k => forceL (X.map (Nat.xor (gt0 X u))) fun D => forceL (nearD R D u) fun r => nearF R X us fun rs => k (r :: rs)
noncomputable def waysOf (up : List Nat) (n : Nat) : List (List Nat) := (List.range n).map fun u => (wayOf up 10 u).getD []
noncomputable def backF (n : Nat) (out : List Nat) : Nat → List (List Nat) → List Nat → Bool
  | 0, _, row => row == out
  | t + 1, N, row => match backStep n N with
    | none => false
    | some s => forceM s.2 fun N => force s.1 fun g => backF n out t N (row ++ [g])
theorem backF_true (n : Nat) (out : List Nat) : ∀ (t : Nat) (N : List (List Nat)) (row : List Nat), backF n out t N row = true → backGo n t N row = some out
  | 0, N, row, h => by
    have : row = out := by simpa [backF] using h
    rw [this]; rfl
  | t + 1, N, row, h => by
    unfold backF at h
    cases e : backStep n N with
    | none => rw [e] at h; cases h
    | some s =>
      rw [e] at h
      dsimp only at h
      rw [forceM_eq, force_eq] at h
      unfold backGo
      rw [e]
      exact backF_true n out t s.2 (row ++ [s.1]) h
noncomputable def chkUp (n : Nat) (row up ord : List Nat) : Bool :=
  decide (up.length = n) && (((List.range n).all fun u => (wayOf up 10 u).isSome) && (decide (ord.length + 1 = n) && forceM (waysOf up n) fun W => ((W.all fun w => w.all fun k => decide (k + 1 < n)) && ((W.getD (n - 1) [] == []) &&
      forceL (W.map msk) fun X => (elimGo (n - 1) X 0 ord.reverse && forceL (List.range n) fun R => nearF R X R fun N => backF n row (n - 2) N [])))))
noncomputable def chkTree (n : Nat) (row : List Nat) : Bool := forceL row fun row => goF (row ++ [n - 1]) ((List.range n).map fun k => 1 + row.count k) (List.replicate n (n - 1)) [] fun up ord => chkUp n row up ord
theorem chk4 : (List.range (4 ^ 2)).all (fun x => chkTree 4 (figB 4 2 x)) = true := by decide +kernel
theorem chk5 : (List.range (5 ^ 3)).all (fun x => chkTree 5 (figB 5 3 x)) = true := by decide +kernel
theorem c6_0 : (List.range 36).all (fun x => chkTree 6 (figB 6 4 (0 + x))) = true := by decide +kernel
theorem c6_1 : (List.range 36).all (fun x => chkTree 6 (figB 6 4 (36 + x))) = true := by decide +kernel
theorem c6_2 : (List.range 36).all (fun x => chkTree 6 (figB 6 4 (72 + x))) = true := by decide +kernel
theorem c6_3 : (List.range 36).all (fun x => chkTree 6 (figB 6 4 (108 + x))) = true := by decide +kernel
theorem c6_4 : (List.range 36).all (fun x => chkTree 6 (figB 6 4 (144 + x))) = true := by decide +kernel
theorem c6_5 : (List.range 36).all (fun x => chkTree 6 (figB 6 4 (180 + x))) = true := by decide +kernel
theorem c6_6 : (List.range 36).all (fun x => chkTree 6 (figB 6 4 (216 + x))) = true := by decide +kernel
theorem c6_7 : (List.range 36).all (fun x => chkTree 6 (figB 6 4 (252 + x))) = true := by decide +kernel
theorem c6_8 : (List.range 36).all (fun x => chkTree 6 (figB 6 4 (288 + x))) = true := by decide +kernel
theorem c6_9 : (List.range 36).all (fun x => chkTree 6 (figB 6 4 (324 + x))) = true := by decide +kernel
theorem c6_10 : (List.range 36).all (fun x => chkTree 6 (figB 6 4 (360 + x))) = true := by decide +kernel
theorem c6_11 : (List.range 36).all (fun x => chkTree 6 (figB 6 4 (396 + x))) = true := by decide +kernel
theorem c6_12 : (List.range 36).all (fun x => chkTree 6 (figB 6 4 (432 + x))) = true := by decide +kernel
theorem c6_13 : (List.range 36).all (fun x => chkTree 6 (figB 6 4 (468 + x))) = true := by decide +kernel
theorem c6_14 : (List.range 36).all (fun x => chkTree 6 (figB 6 4 (504 + x))) = true := by decide +kernel
theorem c6_15 : (List.range 36).all (fun x => chkTree 6 (figB 6 4 (540 + x))) = true := by decide +kernel
theorem c6_16 : (List.range 36).all (fun x => chkTree 6 (figB 6 4 (576 + x))) = true := by decide +kernel
theorem c6_17 : (List.range 36).all (fun x => chkTree 6 (figB 6 4 (612 + x))) = true := by decide +kernel
theorem c6_18 : (List.range 36).all (fun x => chkTree 6 (figB 6 4 (648 + x))) = true := by decide +kernel
theorem c6_19 : (List.range 36).all (fun x => chkTree 6 (figB 6 4 (684 + x))) = true := by decide +kernel
theorem c6_20 : (List.range 36).all (fun x => chkTree 6 (figB 6 4 (720 + x))) = true := by decide +kernel
theorem c6_21 : (List.range 36).all (fun x => chkTree 6 (figB 6 4 (756 + x))) = true := by decide +kernel
theorem c6_22 : (List.range 36).all (fun x => chkTree 6 (figB 6 4 (792 + x))) = true := by decide +kernel
theorem c6_23 : (List.range 36).all (fun x => chkTree 6 (figB 6 4 (828 + x))) = true := by decide +kernel
theorem c6_24 : (List.range 36).all (fun x => chkTree 6 (figB 6 4 (864 + x))) = true := by decide +kernel
theorem c6_25 : (List.range 36).all (fun x => chkTree 6 (figB 6 4 (900 + x))) = true := by decide +kernel
theorem c6_26 : (List.range 36).all (fun x => chkTree 6 (figB 6 4 (936 + x))) = true := by decide +kernel
theorem c6_27 : (List.range 36).all (fun x => chkTree 6 (figB 6 4 (972 + x))) = true := by decide +kernel
theorem c6_28 : (List.range 36).all (fun x => chkTree 6 (figB 6 4 (1008 + x))) = true := by decide +kernel
theorem c6_29 : (List.range 36).all (fun x => chkTree 6 (figB 6 4 (1044 + x))) = true := by decide +kernel
theorem c6_30 : (List.range 36).all (fun x => chkTree 6 (figB 6 4 (1080 + x))) = true := by decide +kernel
theorem c6_31 : (List.range 36).all (fun x => chkTree 6 (figB 6 4 (1116 + x))) = true := by decide +kernel
theorem c6_32 : (List.range 36).all (fun x => chkTree 6 (figB 6 4 (1152 + x))) = true := by decide +kernel
theorem c6_33 : (List.range 36).all (fun x => chkTree 6 (figB 6 4 (1188 + x))) = true := by decide +kernel
theorem c6_34 : (List.range 36).all (fun x => chkTree 6 (figB 6 4 (1224 + x))) = true := by decide +kernel
theorem c6_35 : (List.range 36).all (fun x => chkTree 6 (figB 6 4 (1260 + x))) = true := by decide +kernel
theorem chk6 (y : Nat) (h : y < 36) : (List.range 36).all (fun x => chkTree 6 (figB 6 4 (36 * y + x))) = true :=
  match y, h with
  | 0, _ => c6_0
  | 1, _ => c6_1
  | 2, _ => c6_2
  | 3, _ => c6_3
  | 4, _ => c6_4
  | 5, _ => c6_5
  | 6, _ => c6_6
  | 7, _ => c6_7
  | 8, _ => c6_8
  | 9, _ => c6_9
  | 10, _ => c6_10
  | 11, _ => c6_11
  | 12, _ => c6_12
  | 13, _ => c6_13
  | 14, _ => c6_14
  | 15, _ => c6_15
  | 16, _ => c6_16
  | 17, _ => c6_17
  | 18, _ => c6_18
  | 19, _ => c6_19
  | 20, _ => c6_20
  | 21, _ => c6_21
  | 22, _ => c6_22
  | 23, _ => c6_23
  | 24, _ => c6_24
  | 25, _ => c6_25
  | 26, _ => c6_26
  | 27, _ => c6_27
  | 28, _ => c6_28
  | 29, _ => c6_29
  | 30, _ => c6_30
  | 31, _ => c6_31
  | 32, _ => c6_32
  | 33, _ => c6_33
  | 34, _ => c6_34
  | 35, _ => c6_35
  | y + 36, h => absurd h (by lia)
theorem chk_all {n x : Nat} (hn : n = 4 ∨ n = 5 ∨ n = 6) (hx : x < n ^ (n - 2)) : chkTree n (figB n (n - 2) x) = true := by
  rcases hn with rfl | rfl | rfl
  · exact List.all_eq_true.mp chk4 x (List.mem_range.mpr hx)
  · exact List.all_eq_true.mp chk5 x (List.mem_range.mpr hx)
  · have e := List.all_eq_true.mp (chk6 (x / 36) (by show x / 36 < 36; have : x < 1296 := hx; lia)) (x % 36) (List.mem_range.mpr (by lia))
    rw [show 36 * (x / 36) + x % 36 = x by lia] at e
    exact e
theorem nearF_eq (R X : List Nat) : ∀ (us : List Nat) (k : List (List Nat) → Bool), nearF R X us k = k (us.map fun u => nearD R (X.map (Nat.xor (gt0 X u))) u)
  | [], k => rfl
  | u :: us, k => by unfold nearF; rw [forceL_eq, forceL_eq, nearF_eq R X us]; rfl
noncomputable abbrev Ws (up : List Nat) (u : Nat) : List Nat := (wayOf up 10 u).getD []
structure TreeOk (n : Nat) (row up ord : List Nat) : Prop where
  tree : treeOf row n = some (up, ord)
  upl : up.length = n
  way : ∀ u, u < n → wayOf up 10 u = some (Ws up u)
  wlt : ∀ u, u < n → ∀ k ∈ Ws up u, k + 1 < n
  ordl : ord.length + 1 = n
  root : Ws up (n - 1) = []
  elim : elimGo (n - 1) ((waysOf up n).map msk) 0 ord.reverse = true
  back : backGo n (n - 2) ((List.range n).map fun u => nearD (List.range n) (((waysOf up n).map msk).map (Nat.xor (gt0 ((waysOf up n).map msk) u))) u) [] = some row
theorem ways_get {up : List Nat} {n u : Nat} (h : u < n) : (waysOf up n)[u]? = some (Ws up u) := by
  unfold waysOf
  rw [List.getElem?_map, List.getElem?_range h]; rfl
theorem tree_good {n x : Nat} (hn : n = 4 ∨ n = 5 ∨ n = 6) (hx : x < n ^ (n - 2)) : ∃ up ord, TreeOk n (figB n (n - 2) x) up ord := by
  have h := chk_all hn hx
  unfold chkTree at h
  rw [forceL_eq] at h
  obtain ⟨t, h1, h2⟩ := goF_true _ _ _ _ _ h
  unfold chkUp at h2
  rw [forceM_eq, forceL_eq, forceL_eq, nearF_eq] at h2
  simp only [Bool.and_eq_true, decide_eq_true_eq] at h2
  obtain ⟨a1, a2, a3, a4, a5, a6, a7⟩ := h2
  have n0 : 0 < n := by rcases hn with rfl | rfl | rfl <;> decide
  have aw : ∀ u, u < n → wayOf t.2.1 10 u = some (Ws t.2.1 u) := fun u hu => by
    have := List.all_eq_true.mp a2 u (List.mem_range.mpr hu)
    obtain ⟨w, e⟩ := Option.isSome_iff_exists.mp this
    unfold Ws
    rw [e]; rfl
  refine ⟨t.2.1, t.2.2, ⟨by unfold treeOf; rw [h1]; rfl, a1, aw, fun u hu k hk => ?_, a3, ?_, a6, backF_true _ _ _ _ _ a7⟩⟩
  · have := List.all_eq_true.mp (List.all_eq_true.mp a4 (Ws t.2.1 u) (List.mem_of_getElem? (ways_get hu))) k hk
    exact of_decide_eq_true this
  · have e := ways_get (up := t.2.1) (show n - 1 < n by lia)
    rw [List.getD_eq_getElem?_getD, e] at a5
    simpa using a5
end Mine
end

section
open PySem
set_option Elab.async false
set_option tactic.hygienic false
set_option maxRecDepth 100000
set_option autoImplicit false
set_option linter.unusedVariables false
namespace Mine
theorem gt0_eq : ∀ (l : List Nat) (i : Nat), gt0 l i = l.getD i 0
  | [], _ => rfl
  | x :: r, 0 => rfl
  | x :: r, i + 1 => by
    rw [List.getD_cons_succ]; exact gt0_eq r i
noncomputable abbrev Xs (up : List Nat) (n : Nat) : List Nat := (waysOf up n).map msk
noncomputable abbrev xm (up : List Nat) (u : Nat) : Nat := msk (Ws up u)
theorem xs_get {up : List Nat} {n u : Nat} (h : u < n) : gt0 (Xs up n) u = xm up u := by
  rw [gt0_eq, List.getD_eq_getElem?_getD, List.getElem?_map, ways_get h]; rfl
theorem ds_get {up : List Nat} {n u w : Nat} (hu : u < n) (h : w < n) : gt0 ((Xs up n).map (Nat.xor (gt0 (Xs up n) u))) w = xm up u ^^^ xm up w := by
  rw [gt0_eq, List.getD_eq_getElem?_getD, List.getElem?_map, List.getElem?_map, ways_get h, xs_get hu]; rfl
structure IsDist (n : Nat) (up : List Nat) (s : Nat → Nat) (M : List (List Nat)) : Prop where
  sq : Sq n M
  at_ : ∀ u v, u < n → v < n → mat M u v = wsum s (xm up u ^^^ xm up v) (n - 1)
theorem xor_and (a b c : Nat) : (a ^^^ b) ^^^ (b ^^^ c) = a ^^^ c := by
  rw [Nat.xor_assoc, ← Nat.xor_assoc b b c, Nat.xor_self, Nat.zero_xor]
theorem xor_lt {a b N : Nat} (h : a < 2 ^ N) (h' : b < 2 ^ N) : a ^^^ b < 2 ^ N := Nat.xor_lt_two_pow h h'
theorem between_iff {s : Nat → Nat} (hs : ∀ k, 1 ≤ s k) {a b c N : Nat} (ha : a < 2 ^ N) (hb : b < 2 ^ N) (hc : c < 2 ^ N) : (wsum s (a ^^^ b) N + wsum s (b ^^^ c) N == wsum s (a ^^^ c) N) = Nat.beq (Nat.land (a ^^^ b) (b ^^^ c)) 0 := by
  have h1 := wsum_xor s (a ^^^ b) (b ^^^ c) N
  rw [xor_and] at h1
  have h2 := wsum_eq0 hs (Nat.and_lt_two_pow (a ^^^ b) (xor_lt hb hc))
  rw [Bool.eq_iff_iff, beq_iff_eq, Nat.beq_eq]
  show _ ↔ ((a ^^^ b) &&& (b ^^^ c)) = 0
  rw [← h2]
  constructor <;> intro h <;> lia
theorem beqE (a b : Nat) : Nat.beq a b = (a == b) := by rw [Bool.eq_iff_iff, Nat.beq_eq, beq_iff_eq]
theorem near_row {n : Nat} {up : List Nat} {s : Nat → Nat} {M : List (List Nat)} (hs : ∀ k, 1 ≤ s k) (hlt : ∀ u, u < n → xm up u < 2 ^ (n - 1)) (h : IsDist n up s M) {u : Nat} (hu : u < n) :
    nearD (List.range n) ((Xs up n).map (Nat.xor (gt0 (Xs up n) u))) u = nearRow M u := by
  unfold nearD nearRow
  rw [h.sq.1]
  refine List.filter_congr fun v hv => ?_
  have hv := List.mem_range.mp hv
  rw [ds_get hu hv]
  rw [beqE v u]
  refine congrArg (fun b => (!(v == u)) && b) ?_
  unfold nearV betw
  rw [h.sq.1, Bool.eq_iff_iff, List.all_eq_true, List.isEmpty_iff, List.filter_eq_nil_iff]
  refine forall_congr' fun w => forall_congr' fun hw => ?_
  have hw := List.mem_range.mp hw
  rw [ds_get hu hw, h.at_ u w hu hw, h.at_ w v hw hv, h.at_ u v hu hv, between_iff hs (hlt u hu) (hlt w hw) (hlt v hv)]
  have e : Nat.xor (xm up u ^^^ xm up w) (xm up u ^^^ xm up v) = xm up w ^^^ xm up v := by
    show (xm up u ^^^ xm up w) ^^^ (xm up u ^^^ xm up v) = _
    rw [Nat.xor_comm (xm up u) (xm up w), xor_and]
  rw [e]
  have b1 := beqE w u
  have b2 := beqE w v
  rw [b1, b2]
  cases (w == u) <;> cases (w == v) <;> cases (Nat.beq (Nat.land (xm up u ^^^ xm up w) (xm up w ^^^ xm up v)) 0) <;> simp
theorem TreeOk.lt {n : Nat} {row up ord : List Nat} (T : TreeOk n row up ord) {u : Nat} (hu : u < n) : xm up u < 2 ^ (n - 1) := msk_lt fun k hk => by have := T.wlt u hu k hk; lia
theorem TreeOk.near {n : Nat} {row up ord : List Nat} (T : TreeOk n row up ord) {s : Nat → Nat} (hs : ∀ k, 1 ≤ s k) {M : List (List Nat)} (h : IsDist n up s M) : backGo n (n - 2) (nearOf M) [] = some row := by
  rw [← T.back]
  congr 1
  unfold nearOf
  rw [h.sq.1]
  exact List.map_congr_left fun u hu => (near_row hs (fun u hu => T.lt hu) h (List.mem_range.mp hu)).symm
end Mine
end

section
open PySem
set_option Elab.async false
set_option tactic.hygienic false
set_option maxRecDepth 100000
set_option autoImplicit false
set_option linter.unusedVariables false
namespace Mine
noncomputable def Tk (p : Nat → Nat) : Nat → Nat
  | 0 => 0
  | t + 1 => Tk p t ||| 2 ^ p t
noncomputable def PC (s : Nat → Nat) (p : Nat → Nat) (X : Int) : Nat → Int × Int
  | 0 => (X, 1)
  | t + 1 => let q := PC s p X t; (-2 * q.1 * (s (p t) : Int) - q.2 * (s (p t) : Int) * (s (p t) : Int), -2 * (s (p t) : Int) * q.2)
noncomputable def hh (s : Nat → Nat) (p x : Nat → Nat) (N t i : Nat) : Int := (wsum s (wo (x i) (Tk p t)) N : Nat)
noncomputable def mm (s : Nat → Nat) (p x : Nat → Nat) (N t i j : Nat) : Int := (wsum s (wo (x i &&& x j) (Tk p t)) N : Nat)
noncomputable def EE (s : Nat → Nat) (p x : Nat → Nat) (N : Nat) (X : Int) (t i j : Nat) : Int := -2 * (PC s p X t).1 * mm s p x N t i j - (PC s p X t).2 * hh s p x N t i * hh s p x N t j
structure ElimOk (p x : Nat → Nat) (N : Nat) : Prop where
  lt : ∀ t, t < N → p t < N
  new : ∀ t, t < N → (Tk p t).testBit (p t) = false
  one : ∀ t, t < N → wo (x (t + 1)) (Tk p t) = 2 ^ p t
theorem ring1 (P C s h m h1 h2 : Int) (a b : Bool) : (-2 * P * s - C * s * s) * (-2 * P * (m + (if a && b then s else 0)) - C * (h1 + (if a then s else 0)) * (h2 + (if b then s else 0))) - (-2 * P * (if a then s else 0) - C * (h1 + (if a then s else 0)) * s) * (-2 * P * (if b then s else 0) - C * s * (h2 + (if b then s else 0))) =
    P * (-2 * (-2 * P * s - C * s * s) * m - (-2 * s * C) * h1 * h2) := by
  cases a <;> cases b <;> simp only [Bool.and_true, Bool.and_false, if_true, Bool.false_eq_true, if_false, Int.add_zero] <;> grind
theorem hh_step {s : Nat → Nat} {p x : Nat → Nat} {N : Nat} (o : ElimOk p x N) {t : Nat} (ht : t < N) (i : Nat) : hh s p x N t i = hh s p x N (t + 1) i + (if (x i).testBit (p t) then (s (p t) : Int) else 0) := by
  have := wsum_wo s (x i) (Tk p t) (p t) N (o.lt t ht) (o.new t ht)
  unfold hh
  rw [← this]
  show _ = ((wsum s (wo (x i) (Tk p t ||| 2 ^ p t)) N : Nat) : Int) + _
  split <;> simp
theorem mm_step {s : Nat → Nat} {p x : Nat → Nat} {N : Nat} (o : ElimOk p x N) {t : Nat} (ht : t < N) (i j : Nat) : mm s p x N t i j = mm s p x N (t + 1) i j + (if (x i).testBit (p t) && (x j).testBit (p t) then (s (p t) : Int) else 0) := by
  have := wsum_wo s (x i &&& x j) (Tk p t) (p t) N (o.lt t ht) (o.new t ht)
  unfold mm
  rw [← this, Nat.testBit_and]
  show _ = ((wsum s (wo (x i &&& x j) (Tk p t ||| 2 ^ p t)) N : Nat) : Int) + _
  split <;> simp
theorem wo_and (a b T : Nat) : wo (a &&& b) T = a &&& wo b T := by
  refine Nat.eq_of_testBit_eq fun k => ?_
  rw [wo_bit, Nat.testBit_and, Nat.testBit_and, wo_bit, Bool.and_assoc]
theorem and_pow (a q : Nat) : a &&& 2 ^ q = if a.testBit q then 2 ^ q else 0 := by
  refine Nat.eq_of_testBit_eq fun k => ?_
  rw [Nat.testBit_and, Nat.testBit_two_pow]
  by_cases h : q = k
  · subst h
    cases e : a.testBit q
    · simp
    · simp
  · rw [decide_eq_false h, Bool.and_false]
    split
    · rw [Nat.testBit_two_pow, decide_eq_false h]
    · rw [Nat.zero_testBit]
theorem mm_col {s : Nat → Nat} {p x : Nat → Nat} {N : Nat} (o : ElimOk p x N) {t : Nat} (ht : t < N) (i : Nat) : mm s p x N t i (t + 1) = if (x i).testBit (p t) then (s (p t) : Int) else 0 := by
  unfold mm
  rw [wo_and, o.one t ht, and_pow]
  split
  · rw [wsum_one s (o.lt t ht)]
  · rw [wsum_zero]; rfl
theorem mm_comm (s : Nat → Nat) (p x : Nat → Nat) (N t i j : Nat) : mm s p x N t i j = mm s p x N t j i := by unfold mm; rw [Nat.and_comm]
theorem hh_piv {s : Nat → Nat} {p x : Nat → Nat} {N : Nat} (o : ElimOk p x N) {t : Nat} (ht : t < N) : hh s p x N t (t + 1) = (s (p t) : Int) := by
  unfold hh
  rw [o.one t ht, wsum_one s (o.lt t ht)]
theorem bit_piv {p x : Nat → Nat} {N : Nat} (o : ElimOk p x N) {t : Nat} (ht : t < N) : (x (t + 1)).testBit (p t) = true := by
  have e : (wo (x (t + 1)) (Tk p t)).testBit (p t) = (2 ^ p t).testBit (p t) := by rw [o.one t ht]
  rw [wo_bit, Nat.testBit_two_pow, decide_eq_true rfl, Bool.and_eq_true] at e
  exact e.1
theorem EE_piv {s : Nat → Nat} {p x : Nat → Nat} {N : Nat} (X : Int) (o : ElimOk p x N) {t : Nat} (ht : t < N) : EE s p x N X t (t + 1) (t + 1) = (PC s p X (t + 1)).1 := by
  unfold EE
  rw [mm_col o ht, hh_piv o ht, bit_piv o ht, if_pos rfl]
  rfl
theorem EE_step {s : Nat → Nat} {p x : Nat → Nat} {N : Nat} (X : Int) (o : ElimOk p x N) {t : Nat} (ht : t < N) (i j : Nat) :
    EE s p x N X t (t + 1) (t + 1) * EE s p x N X t i j - EE s p x N X t i (t + 1) * EE s p x N X t (t + 1) j = (PC s p X t).1 * EE s p x N X (t + 1) i j := by
  rw [EE_piv X o ht]
  unfold EE
  rw [mm_comm s p x N t (t + 1) j, mm_col o ht, mm_col o ht, hh_piv o ht, hh_step o ht i, hh_step o ht j, mm_step o ht i j]
  exact ring1 _ _ _ 0 _ _ _ _ _
theorem EE_zero (s : Nat → Nat) (p x : Nat → Nat) (N : Nat) (X : Int) (i j : Nat) (d di dj : Nat) (h : d = wsum s (x i ^^^ x j) N) (hi : di = wsum s (x i) N) (hj : dj = wsum s (x j) N) :
    X * (X + d) - (X + di) * (X + dj) = EE s p x N X 0 i j := by
  have e := wsum_xor s (x i) (x j) N
  have z : ∀ y, wo y 0 = y := fun y => by unfold wo; rw [Nat.and_zero, Nat.xor_zero]
  show _ = -2 * X * ((wsum s (wo (x i &&& x j) 0) N : Nat) : Int) - 1 * ((wsum s (wo (x i) 0) N : Nat) : Int) * ((wsum s (wo (x j) 0) N : Nat) : Int)
  rw [z, z, z]
  subst h hi hj
  have e' : ((wsum s (x i) N : Nat) : Int) + (wsum s (x j) N : Nat) = (wsum s (x i ^^^ x j) N : Nat) + 2 * (wsum s (x i &&& x j) N : Nat) := by exact_mod_cast e
  generalize ((wsum s (x i) N : Nat) : Int) = A at *
  generalize ((wsum s (x j) N : Nat) : Int) = B at *
  generalize ((wsum s (x i ^^^ x j) N : Nat) : Int) = D at *
  generalize ((wsum s (x i &&& x j) N : Nat) : Int) = Cc at *
  grind
noncomputable def prodS (s p : Nat → Nat) : Nat → Nat
  | 0 => 1
  | t + 1 => prodS s p t * s (p t)
noncomputable def lenS (s p : Nat → Nat) : Nat → Nat
  | 0 => 0
  | t + 1 => lenS s p t + s (p t)
theorem PC_closed (s p : Nat → Nat) (X : Int) (t : Nat) : 2 * (PC s p X t).1 = (-2) ^ t * (prodS s p t : Int) * (2 * X + (lenS s p t : Int)) ∧ (PC s p X t).2 = (-2) ^ t * (prodS s p t : Int) := by
  induction t with
  | zero => exact ⟨by show 2 * X = (-2) ^ 0 * (1 : Int) * (2 * X + 0); grind, by show (1 : Int) = (-2) ^ 0 * 1; rfl⟩
  | succ t ih =>
    obtain ⟨h1, h2⟩ := ih
    have e1 : ((prodS s p (t + 1) : Nat) : Int) = (prodS s p t : Int) * (s (p t) : Int) := by show ((prodS s p t * s (p t) : Nat) : Int) = _; rw [Int.natCast_mul]
    have e2 : ((lenS s p (t + 1) : Nat) : Int) = (lenS s p t : Int) + (s (p t) : Int) := rfl
    rw [e1, e2, Int.pow_succ]
    show 2 * (-2 * (PC s p X t).1 * (s (p t) : Int) - (PC s p X t).2 * (s (p t) : Int) * (s (p t) : Int)) = _ ∧ -2 * (s (p t) : Int) * (PC s p X t).2 = _
    generalize (s (p t) : Int) = S at *
    generalize ((-2 : Int) ^ t) = Z at *
    generalize (prodS s p t : Int) = Q at *
    generalize (lenS s p t : Int) = L at *
    generalize (PC s p X t).1 = P at *
    generalize (PC s p X t).2 = Cc at *
    constructor <;> grind
end Mine
end

section
open PySem
set_option Elab.async false
set_option tactic.hygienic false
set_option maxRecDepth 100000
set_option autoImplicit false
set_option linter.unusedVariables false
namespace Mine
theorem bits_hi {a : Int} {A : Nat} (h : a.natAbs < 2 ^ A) : Builtin.Int.intBits a ≤ A := by
  unfold Builtin.Int.intBits
  by_cases h0 : a = 0
  · subst h0; exact Nat.zero_le _
  · rw [if_neg (by simpa using h0)]
    exact (Nat.log2_lt (by lia)).mpr h
theorem bits_lo {a : Int} {B : Nat} (h : 2 ^ B ≤ a.natAbs) : B + 1 ≤ Builtin.Int.intBits a := by
  have := Nat.two_pow_pos B
  unfold Builtin.Int.intBits
  rw [if_neg (by simp; lia)]
  exact Nat.succ_le_succ ((Nat.le_log2 (by lia)).mpr h)
theorem dmp_okN {a b : Int} {A B C : Nat} (ha : a.natAbs < 2 ^ A) (hb : 2 ^ B ≤ b.natAbs) (hb' : b.natAbs < 2 ^ C) (hAB : A ≤ 28 * (B + 1)) (hA : A ≤ 2000) (hC : C ≤ 1000) : dmpOk a b := by
  have h1 := bits_hi ha
  have h2 := bits_lo hb
  have h3 := bits_hi hb'
  unfold dmpOk
  have hd : Builtin.Int.intBits b * ndig a (Builtin.Int.intBits b) ≤ A + C := by
    unfold ndig
    rw [Int.toNat_natCast]
    have := Nat.mul_div_le (Builtin.Int.intBits a + Builtin.Int.intBits b - 1) (Builtin.Int.intBits b)
    lia
  refine ⟨small_abs hb' (by lia), by lia, ?_, by lia⟩
  refine Nat.le_of_lt_succ (Nat.lt_of_mul_lt_mul_left (a := Builtin.Int.intBits b) ?_)
  have h4 : Builtin.Int.intBits b * ndig a (Builtin.Int.intBits b) ≤ A + Builtin.Int.intBits b := by
    unfold ndig
    rw [Int.toNat_natCast]
    have := Nat.mul_div_le (Builtin.Int.intBits a + Builtin.Int.intBits b - 1) (Builtin.Int.intBits b)
    lia
  lia
theorem idm_okN {a b : Int} {A B C : Nat} (ha : a.natAbs < 2 ^ A) (hb : 2 ^ B ≤ b.natAbs) (hb' : b.natAbs < 2 ^ C) (hAB : A ≤ 28 * (B + 1)) (hA : A ≤ 2000) (hC : C ≤ 1000) : idmOk a b := by
  have := Nat.two_pow_pos B
  unfold idmOk
  refine ⟨by lia, dmp_okN (A := A) (B := B) (C := C) (Nat.lt_of_le_of_lt ?_ ha) ?_ ?_ hAB hA hC⟩
  · split <;> split <;> lia
  · split <;> lia
  · split <;> lia
theorem i2d_two {lo hi w : Nat} (hlo : lo < 2 ^ w) (hhi : hi < 2 ^ w) (h1 : 1 ≤ hi) (hw : 1 ≤ w) (hw' : w ≤ 1000) : i2dV [.int ((lo + hi * 2 ^ w : Nat) : Int), nat w] = some (.lst (nats [lo, hi])) := by
  have hp := Nat.two_pow_pos w
  have b1 : w + 1 ≤ Builtin.Int.intBits ((lo + hi * 2 ^ w : Nat) : Int) := bits_lo (by
    rw [Int.natAbs_natCast]
    have := Nat.mul_le_mul_right (2 ^ w) h1
    lia)
  have b2 : Builtin.Int.intBits ((lo + hi * 2 ^ w : Nat) : Int) ≤ 2 * w := bits_hi (by
    rw [Int.natAbs_natCast, show 2 * w = w + w by lia, Nat.pow_add]
    have := Nat.mul_le_mul_right (2 ^ w) (show hi + 1 ≤ 2 ^ w from hhi)
    lia)
  have nd : ndig ((lo + hi * 2 ^ w : Nat) : Int) (w : Int) = 2 := by
    unfold ndig
    rw [Int.toNat_natCast]
    generalize Builtin.Int.intBits ((lo + hi * 2 ^ w : Nat) : Int) = b at *
    rw [show b + w - 1 = w * 2 + (b - 1 - w) by lia, Nat.mul_add_div (by lia), Nat.div_eq_of_lt (by lia)]
  show (if 0 ≤ ((lo + hi * 2 ^ w : Nat) : Int) ∧ (1 : Int) ≤ (w : Int) ∧ ((w : Int)).toNat * Mine.ndig ((lo + hi * 2 ^ w : Nat) : Int) w ≤ 4000 ∧ Mine.ndig ((lo + hi * 2 ^ w : Nat) : Int) w ≤ 30 ∧ (w : Int) < 100000 then some (AV.lst (intL ((dgs ((w : Int)).toNat (Mine.ndig ((lo + hi * 2 ^ w : Nat) : Int) w) ((lo + hi * 2 ^ w : Nat) : Int).toNat).map Int.ofNat))) else none) = _
  rw [nd, Int.toNat_natCast, Int.toNat_natCast, if_pos ⟨Int.natCast_nonneg _, by lia, by lia, by decide, by lia⟩]
  have e1 : (lo + hi * 2 ^ w) % 2 ^ w = lo := by rw [Nat.add_mul_mod_self_right, Nat.mod_eq_of_lt hlo]
  have e2 : (lo + hi * 2 ^ w) / 2 ^ w = hi := by rw [Nat.add_mul_div_right _ _ hp, Nat.div_eq_of_lt hlo, Nat.zero_add]
  show some (AV.lst (intL ([(lo + hi * 2 ^ w) % 2 ^ w, (lo + hi * 2 ^ w) / 2 ^ w % 2 ^ w].map Int.ofNat))) = _
  rw [e1, e2, Nat.mod_eq_of_lt hhi]
theorem prod_le {s p : Nat → Nat} (h1 : ∀ k, 1 ≤ s k) (h2 : ∀ k, s k ≤ 2) (t : Nat) : 1 ≤ prodS s p t ∧ prodS s p t ≤ 2 ^ t ∧ lenS s p t ≤ 2 * t := by
  induction t with
  | zero => exact ⟨Nat.le_refl _, Nat.le_refl _, Nat.le_refl _⟩
  | succ t ih =>
    obtain ⟨a, b, c⟩ := ih
    have q1 := h1 (p t)
    have q2 := h2 (p t)
    refine ⟨?_, ?_, ?_⟩
    · show 1 ≤ prodS s p t * s (p t)
      exact Nat.mul_le_mul a q1
    · show prodS s p t * s (p t) ≤ 2 ^ (t + 1)
      rw [Nat.pow_succ]; exact Nat.mul_le_mul b q2
    · show lenS s p t + s (p t) ≤ 2 * (t + 1)
      lia
noncomputable def lowD (s p : Nat → Nat) (t : Nat) : Nat := prodS s p t * lenS s p t * 2 ^ t / 2
noncomputable def highD (s p : Nat → Nat) (t : Nat) : Nat := prodS s p t * 2 ^ t
theorem pow5 {t : Nat} (h : t ≤ 5) : 2 ^ t ≤ 32 := Nat.pow_le_pow_right (n := 2) (by decide) h
theorem low_lt {s p : Nat → Nat} (h1 : ∀ k, 1 ≤ s k) (h2 : ∀ k, s k ≤ 2) {t : Nat} (ht : t ≤ 5) : lowD s p t < 2 ^ 13 ∧ highD s p t ≤ 1024 ∧ 1 ≤ highD s p t := by
  obtain ⟨a, b, c⟩ := prod_le (p := p) h1 h2 t
  have e := pow5 ht
  have e0 := Nat.two_pow_pos t
  have q1 : prodS s p t * lenS s p t ≤ 32 * 10 := Nat.mul_le_mul (by lia) (by lia)
  have q2 : prodS s p t * lenS s p t * 2 ^ t ≤ 320 * 32 := Nat.mul_le_mul q1 e
  have q3 : prodS s p t * 2 ^ t ≤ 32 * 32 := Nat.mul_le_mul (by lia) e
  have q4 : 1 * 1 ≤ prodS s p t * 2 ^ t := Nat.mul_le_mul a e0
  unfold lowD highD
  exact ⟨by show _ < 8192; lia, q3, q4⟩
theorem piv_num (s p : Nat → Nat) (X : Nat) (t : Nat) : (PC s p (X : Int) t).1 = (if t % 2 = 1 then -1 else 1) * ((lowD s p t + highD s p t * X : Nat) : Int) := by
  have h := (PC_closed s p (X : Int) t).1
  have e : prodS s p t * lenS s p t * 2 ^ t = 2 * lowD s p t := by
    unfold lowD
    cases t with
    | zero => show 1 * 0 * 2 ^ 0 = 2 * (1 * 0 * 2 ^ 0 / 2); decide
    | succ t => rw [Nat.pow_succ, ← Nat.mul_assoc, Nat.mul_div_cancel _ (by decide)]; lia
  have z : ((-2 : Int)) ^ t = (if t % 2 = 1 then -1 else 1) * ((2 ^ t : Nat) : Int) := by
    clear h e
    induction t with
    | zero => rfl
    | succ t ih =>
      rw [Int.pow_succ, ih, Nat.pow_succ, Int.natCast_mul]
      by_cases q : t % 2 = 1
      · rw [if_pos q, if_neg (by lia)]; grind
      · rw [if_neg q, if_pos (by lia)]; grind
  have e' : (prodS s p t : Int) * (lenS s p t : Int) * ((2 ^ t : Nat) : Int) = 2 * (lowD s p t : Int) := by
    rw [← Int.natCast_mul, ← Int.natCast_mul, e]; rfl
  have e2 : ((highD s p t : Nat) : Int) = (prodS s p t : Int) * ((2 ^ t : Nat) : Int) := by unfold highD; rw [Int.natCast_mul]
  rw [z] at h
  rw [Int.natCast_add, Int.natCast_mul, e2]
  generalize ((2 ^ t : Nat) : Int) = Z at *
  generalize (prodS s p t : Int) = Q at *
  generalize (lenS s p t : Int) = L at *
  generalize (lowD s p t : Int) = LO at *
  generalize (PC s p (X : Int) t).1 = P at *
  generalize (X : Int) = Y at *
  by_cases q : t % 2 = 1
  · rw [if_pos q] at h ⊢; grind
  · rw [if_neg q] at h ⊢; grind
end Mine
end

section
open PySem
set_option Elab.async false
set_option tactic.hygienic false
set_option maxRecDepth 100000
set_option autoImplicit false
set_option linter.unusedVariables false
namespace Mine
theorem Tk_shift (p : Nat → Nat) (t : Nat) : Tk p (t + 1) = 2 ^ p 0 ||| Tk (fun i => p (i + 1)) t := by
  induction t with
  | zero => show 0 ||| 2 ^ p 0 = 2 ^ p 0 ||| 0; rw [Nat.zero_or, Nat.or_zero]
  | succ t ih =>
    show Tk p (t + 1) ||| 2 ^ p (t + 1) = 2 ^ p 0 ||| (Tk (fun i => p (i + 1)) t ||| 2 ^ p (t + 1))
    rw [ih, Nat.or_assoc]
theorem elimGo_at (N : Nat) (X : List Nat) : ∀ (r : List Nat) (T : Nat), elimGo N X T r = true → ∀ t, t < r.length →
    r.getD t 0 < N ∧ (T ||| Tk (fun i => r.getD i 0) t).testBit (r.getD t 0) = false ∧ wo (gt0 X (r.getD t 0)) (T ||| Tk (fun i => r.getD i 0) t) = 2 ^ r.getD t 0
  | [], _, _, t, ht => absurd ht (Nat.not_lt_zero t)
  | q :: r, T, h, t, ht => by
    unfold elimGo at h
    rw [force_eq] at h
    simp only [Bool.and_eq_true, decide_eq_true_eq, Bool.not_eq_true', beq_iff_eq] at h
    obtain ⟨h1, h2, h3, h4⟩ := h
    cases t with
    | zero =>
      show q < N ∧ (T ||| 0).testBit q = false ∧ wo (gt0 X q) (T ||| 0) = 2 ^ q
      rw [Nat.or_zero]
      exact ⟨h1, h2, h3⟩
    | succ t =>
      have := elimGo_at N X r (T ||| 2 ^ q) h4 t (by rw [List.length_cons] at ht; lia)
      rw [Nat.or_assoc] at this
      rw [Tk_shift]
      exact this
noncomputable abbrev walkOf (n : Nat) (ord : List Nat) : List Nat := (n - 1) :: ord.reverse
noncomputable abbrev pw (ord : List Nat) (t : Nat) : Nat := ord.reverse.getD t 0
noncomputable abbrev xw (n : Nat) (up ord : List Nat) (i : Nat) : Nat := xm up ((walkOf n ord).getD i 0)
theorem TreeOk.elimOk {n : Nat} {row up ord : List Nat} (T : TreeOk n row up ord) : ElimOk (pw ord) (xw n up ord) (n - 1) := by
  have hl : ord.reverse.length = n - 1 := by rw [List.length_reverse]; have := T.ordl; lia
  have h := fun t (ht : t < n - 1) => elimGo_at _ _ _ _ T.elim t (by rw [hl]; exact ht)
  refine ⟨fun t ht => (h t ht).1, fun t ht => ?_, fun t ht => ?_⟩
  · have := (h t ht).2.1
    rw [Nat.zero_or] at this
    exact this
  · have := (h t ht).2.2
    rw [Nat.zero_or, xs_get (Nat.lt_of_lt_of_le (h t ht).1 (Nat.sub_le n 1))] at this
    exact this
theorem TreeOk.walk_lt {n : Nat} {row up ord : List Nat} (T : TreeOk n row up ord) {i : Nat} (h : i < n) : (walkOf n ord).getD i 0 < n := by
  cases i with
  | zero => show n - 1 < n; lia
  | succ i =>
    have := T.elimOk.lt i (by lia)
    exact Nat.lt_of_lt_of_le this (Nat.sub_le n 1)
noncomputable def VV (s : Nat → Nat) (n : Nat) (up ord : List Nat) (X : Nat) : Nat → Nat → Nat → Int
  | 0, i, j => (X : Int) + ((wsum s (xw n up ord i ^^^ xw n up ord j) (n - 1) : Nat) : Int)
  | t + 1, i, j => EE s (pw ord) (xw n up ord) (n - 1) (X : Int) t i j
noncomputable abbrev PP (s : Nat → Nat) (ord : List Nat) (X k : Nat) : Int := (PC s (pw ord) (X : Int) k).1
theorem wsum_le {s : Nat → Nat} (h2 : ∀ k, s k ≤ 2) (x N : Nat) : wsum s x N ≤ 2 * N := by
  unfold wsum
  induction N with
  | zero => exact Nat.le_refl _
  | succ N ih =>
    show sumTo _ N + (if x.testBit N then s N else 0) ≤ _
    have := h2 N
    split <;> lia
theorem TreeOk.x0 {n : Nat} {row up ord : List Nat} (T : TreeOk n row up ord) : xw n up ord 0 = 0 := by
  show msk (Ws up (n - 1)) = 0
  rw [T.root]; rfl
theorem TreeOk.piv {n : Nat} {row up ord : List Nat} (T : TreeOk n row up ord) (s : Nat → Nat) (X : Nat) {k : Nat} (hk : k < n) : VV s n up ord X k k k = PP s ord X k := by
  cases k with
  | zero =>
    show (X : Int) + ((wsum s (xw n up ord 0 ^^^ xw n up ord 0) (n - 1) : Nat) : Int) = X
    rw [Nat.xor_self, wsum_zero]; simp
  | succ t => exact EE_piv (X : Int) T.elimOk (by lia)
theorem TreeOk.step0 {n : Nat} {row up ord : List Nat} (T : TreeOk n row up ord) (s : Nat → Nat) (X i j : Nat) :
    VV s n up ord X 0 0 0 * VV s n up ord X 0 i j - VV s n up ord X 0 i 0 * VV s n up ord X 0 0 j = VV s n up ord X 1 i j := by
  have e0 := T.piv s X (k := 0) (by have := T.ordl; lia)
  rw [e0]
  show (X : Int) * ((X : Int) + _) - ((X : Int) + ((wsum s (xw n up ord i ^^^ xw n up ord 0) (n - 1) : Nat) : Int)) * ((X : Int) + ((wsum s (xw n up ord 0 ^^^ xw n up ord j) (n - 1) : Nat) : Int)) = EE s (pw ord) (xw n up ord) (n - 1) (X : Int) 0 i j
  rw [T.x0, Nat.xor_zero, Nat.zero_xor]
  exact EE_zero s (pw ord) (xw n up ord) (n - 1) X i j _ _ _ rfl rfl rfl
theorem TreeOk.stepK {n : Nat} {row up ord : List Nat} (T : TreeOk n row up ord) (s : Nat → Nat) (X i j : Nat) {t : Nat} (ht : t + 1 < n) :
    VV s n up ord X (t + 1) (t + 1) (t + 1) * VV s n up ord X (t + 1) i j - VV s n up ord X (t + 1) i (t + 1) * VV s n up ord X (t + 1) (t + 1) j = PP s ord X t * VV s n up ord X (t + 2) i j :=
  EE_step (X : Int) T.elimOk (by lia) i j
theorem pp_bounds {s : Nat → Nat} (h1 : ∀ k, 1 ≤ s k) (h2 : ∀ k, s k ≤ 2) (ord : List Nat) {X k : Nat} (hX : 2 ^ 13 ≤ X) (hX' : X ≤ 2 ^ 24) (hk : k ≤ 5) : 2 ^ 13 ≤ (PP s ord X k).natAbs ∧ (PP s ord X k).natAbs < 2 ^ 35 := by
  obtain ⟨a, b, c⟩ := low_lt (p := pw ord) h1 h2 hk
  have e : (PP s ord X k).natAbs = lowD s (pw ord) k + highD s (pw ord) k * X := by
    rw [show PP s ord X k = _ from piv_num s (pw ord) X k]
    split
    · rw [Int.neg_one_mul, Int.natAbs_neg, Int.natAbs_natCast]
    · rw [Int.one_mul, Int.natAbs_natCast]
  rw [e]
  have q1 := Nat.mul_le_mul c hX
  have q2 := Nat.mul_le_mul b hX'
  have e13 : (2 : Nat) ^ 13 = 8192 := by decide
  have e24 : (2 : Nat) ^ 24 = 16777216 := by decide
  have e35 : (2 : Nat) ^ 35 = 34359738368 := by decide
  rw [e13] at *
  rw [e24] at *
  rw [e35]
  constructor <;> lia
theorem natAbs_mul_le {a b : Int} {A B : Nat} (ha : a.natAbs ≤ A) (hb : b.natAbs ≤ B) : (a * b).natAbs ≤ A * B := by rw [Int.natAbs_mul]; exact Nat.mul_le_mul ha hb
theorem natAbs_sub_le' (a b : Int) {A B : Nat} (ha : a.natAbs ≤ A) (hb : b.natAbs ≤ B) : (a - b).natAbs ≤ A + B := by lia
theorem vv_bound {s : Nat → Nat} (h1 : ∀ k, 1 ≤ s k) (h2 : ∀ k, s k ≤ 2) {n : Nat} (hn : n ≤ 6) (up ord : List Nat) {X k : Nat} (hX : 2 ^ 13 ≤ X) (hX' : X ≤ 2 ^ 24) (hk : k ≤ 6) (i j : Nat) : (VV s n up ord X k i j).natAbs < 2 ^ 40 := by
  have e24 : (2 : Nat) ^ 24 = 16777216 := by decide
  have e35 : (2 : Nat) ^ 35 = 34359738368 := by decide
  have e40 : (2 : Nat) ^ 40 = 1099511627776 := by decide
  cases k with
  | zero =>
    have := wsum_le h2 (xw n up ord i ^^^ xw n up ord j) (n - 1)
    show ((X : Int) + ((wsum s (xw n up ord i ^^^ xw n up ord j) (n - 1) : Nat) : Int)).natAbs < _
    lia
  | succ t =>
    have hP := (pp_bounds h1 h2 ord hX hX' (show t ≤ 5 by lia)).2
    have hC : ((PC s (pw ord) (X : Int) t).2).natAbs ≤ 1024 := by
      rw [(PC_closed s (pw ord) (X : Int) t).2, Int.natAbs_mul, Int.natAbs_pow, Int.natAbs_natCast]
      have := (low_lt (p := pw ord) h1 h2 (show t ≤ 5 by lia)).2.1
      unfold highD at this
      rw [Nat.mul_comm]; exact this
    have hm : (mm s (pw ord) (xw n up ord) (n - 1) t i j).natAbs ≤ 10 := by
      unfold mm; rw [Int.natAbs_natCast]
      have := wsum_le h2 (wo (xw n up ord i &&& xw n up ord j) (Tk (pw ord) t)) (n - 1)
      lia
    have hh1 : ∀ i, (hh s (pw ord) (xw n up ord) (n - 1) t i).natAbs ≤ 10 := fun i => by
      unfold hh; rw [Int.natAbs_natCast]
      have := wsum_le h2 (wo (xw n up ord i) (Tk (pw ord) t)) (n - 1)
      lia
    show (-2 * (PC s (pw ord) (X : Int) t).1 * mm s (pw ord) (xw n up ord) (n - 1) t i j - (PC s (pw ord) (X : Int) t).2 * hh s (pw ord) (xw n up ord) (n - 1) t i * hh s (pw ord) (xw n up ord) (n - 1) t j).natAbs < _
    have q1 := natAbs_mul_le (natAbs_mul_le (show (-2 : Int).natAbs ≤ 2 by decide) (Nat.le_of_lt hP)) hm
    have q2 := natAbs_mul_le (natAbs_mul_le hC (hh1 i)) (hh1 j)
    have := natAbs_sub_le' _ _ q1 q2
    rw [e35] at this
    rw [e40]
    lia
end Mine
end

section
open PySem PySem.W PyProof.Rows
set_option Elab.async false
set_option tactic.hygienic false
set_option maxRecDepth 100000
set_option autoImplicit false
set_option linter.unusedVariables false
namespace Mine
noncomputable def capsL : List Nat := [119808, 119860, 119912, 120016, 120172, 120224, 120276, 120328, 120380, 120432]
noncomputable def offsL : List Nat := [202, 228, 254, 298, 364, 390, 416, 442, 468, 494]
theorem rising_lt : ∀ (l : List KV) (x : KV), rising (x :: l) = true → ∀ y ∈ l, x.1 < y.1
  | [], _, _, y, hy => by cases hy
  | z :: l, x, h, y, hy => by
    unfold rising at h
    rw [Bool.and_eq_true, decide_eq_true_eq] at h
    rcases List.mem_cons.mp hy with rfl | hy
    · exact h.1
    · exact Int.lt_trans h.1 (rising_lt l z h.2 y hy)
theorem rising_tail (x : KV) (l : List KV) (h : rising (x :: l) = true) : rising l = true := by
  cases l with
  | nil => rfl
  | cons y l => unfold rising at h; rw [Bool.and_eq_true] at h; exact h.2
theorem rising_lookup : ∀ (l : List KV) (i : Nat) (k : Int) (v : Str), rising l = true → l[i]? = some (k, v) → l.lookup k = some v
  | [], i, _, _, _, e => by simp at e
  | x :: l, 0, k, v, h, e => by
    rw [List.getElem?_cons_zero] at e
    cases e
    rw [List.lookup_cons, beq_self_eq_true]
  | x :: l, i + 1, k, v, h, e => by
    rw [List.getElem?_cons_succ] at e
    have hlt := rising_lt l x h (k, v) (List.mem_of_getElem? e)
    have hne : (k == x.1) = false := by rw [beq_eq_false_iff_ne]; exact fun q => by rw [q] at hlt; exact Int.lt_irrefl _ hlt
    obtain ⟨a, b⟩ := x
    rw [List.lookup_cons, hne]
    exact rising_lookup l i k v (rising_tail _ l h) e
theorem rising_none (x : KV) (l : List KV) (k : Int) (h : rising (x :: l) = true) (hk : k < x.1) : (x :: l).lookup k = none := by
  rw [List.lookup_eq_none_iff]
  intro y hy
  rw [bne_iff_ne]
  rcases List.mem_cons.mp hy with rfl | hy
  · exact fun q => by rw [q] at hk; exact Int.lt_irrefl _ hk
  · exact fun q => by have := rising_lt l x h y hy; rw [← q] at this; exact Int.lt_irrefl _ (Int.lt_trans hk this)
theorem blocks1 : ((capsL.zip offsL).all fun q => decide ((data1.drop q.2).take 26 = (List.range 26).map fun c => (((q.1 + c : Nat) : Int), txt [97 + c]))) = true := by decide +kernel
theorem data1_rising : rising data1 = true := by
  have := rising1
  rw [Bool.and_eq_true] at this
  exact this.1
theorem b3_cap {d c : Nat} (hd : d ∈ capsL) (hc : c < 26) : b3 (d + c) = txt [97 + c] := by
  obtain ⟨i, hi, rfl⟩ := List.getElem_of_mem hd
  have hz : (capsL.zip offsL)[i]? = some (capsL[i], offsL[i]'hi) := by
    have hi2 : i < offsL.length := hi
    rw [List.getElem?_eq_getElem (by rw [List.length_zip]; exact Nat.lt_min.mpr ⟨hi, hi2⟩), List.getElem_zip]; rfl
  have h := of_decide_eq_true (List.all_eq_true.mp blocks1 _ (List.mem_of_getElem? hz))
  have e : data1[offsL[i]'hi + c]? = some (((capsL[i] + c : Nat) : Int), txt [97 + c]) := by
    have := congrArg (fun l => l[c]?) h
    simp only [List.getElem?_take, List.getElem?_drop, if_pos hc, List.getElem?_map, List.getElem?_range hc, Option.map_some] at this
    exact this
  unfold b3
  rw [rising_lookup data1 _ _ _ data1_rising e]
theorem lower_one {c d : Nat} (h0 : c ≠ 931) (h : Unicode.lowerOf c = [d]) : Txt.lower (txt [c]) = txt [d] := by
  have : (c == 0x3A3) = false := by rw [beq_eq_false_iff_ne]; exact h0
  show (⟨((#[c] : Array Nat).mapIdx fun i x => (Unicode.lowerAt #[c] i).toArray).flatten⟩ : Str) = _
  have e : Unicode.lowerAt #[c] 0 = [d] := by
    show (if (c == 0x3A3 && Unicode.endsWord #[c] 0) = true then [0x3C2] else Unicode.lowerOf c) = _
    rw [this, h]; rfl
  simp [e, txt]
theorem low_ascii : ((List.range 26).all fun c => decide (Unicode.lowerOf (97 + c) = [97 + c]) && decide (Unicode.lowerOf (65 + c) = [97 + c])) = true := by decide +kernel
theorem lower_ascii {c : Nat} (hc : c < 26) : Txt.lower (txt [97 + c]) = txt [97 + c] ∧ Txt.lower (txt [65 + c]) = txt [97 + c] := by
  have := List.all_eq_true.mp low_ascii c (List.mem_range.mpr hc)
  rw [Bool.and_eq_true] at this
  exact ⟨lower_one (by lia) (of_decide_eq_true this.1), lower_one (by lia) (of_decide_eq_true this.2)⟩
theorem first1 : ∃ x l, data1 = x :: l ∧ 150 < x.1 := by
  have : (match data1 with | x :: _ => decide (150 < x.1) | _ => false) = true := by decide +kernel
  cases e : data1 with
  | nil => rw [e] at this; cases this
  | cons x l => rw [e] at this; exact ⟨x, l, rfl, of_decide_eq_true this⟩
theorem b3_low {x : Nat} (h : x < 150) : b3 x = Txt.lower (txt [x]) := by
  obtain ⟨y, l, e, hy⟩ := first1
  have hr := data1_rising
  unfold b3
  rw [e] at hr ⊢
  rw [rising_none y l _ hr (by lia)]
noncomputable def gap (lo hi : Nat) : List (Nat × Nat × Nat) → Bool
  | [] => true
  | x :: r => Nat.ble hi x.1 || (Nat.blt x.2.1 lo && gap lo hi r)
theorem gap_none {lo hi c : Nat} (h1 : lo ≤ c) (h2 : c < hi) : ∀ l, gap lo hi l = true → Unicode.shifted l c = none
  | [], _ => rfl
  | (a, b, t) :: r, h => by
    unfold gap at h
    unfold Unicode.shifted
    by_cases q : c < a
    · rw [if_pos q]
    · rw [if_neg q]
      rw [Bool.or_eq_true, Bool.and_eq_true] at h
      rcases h with h | h
      · have : hi ≤ a := Nat.le_of_ble_eq_true h
        lia
      · have : b < lo := by have := h.1; simp [Nat.blt] at this; lia
        rw [if_neg (by lia)]
        exact gap_none h1 h2 r h.2
theorem gap1 : (gap 119808 120458 UnicodeData.oneLower && UnicodeData.severalLower.all fun x => Nat.blt x.1 119808) = true := by decide +kernel
theorem lower_cap {d c : Nat} (hd : d ∈ capsL) (hc : c < 26) : Txt.lower (txt [d + c]) = txt [d + c] := by
  have hb : 119808 ≤ d ∧ d ≤ 120432 := by
    have : (capsL.all fun d => decide (119808 ≤ d ∧ d ≤ 120432)) = true := by decide
    exact of_decide_eq_true (List.all_eq_true.mp this d hd)
  have g := gap1
  rw [Bool.and_eq_true] at g
  refine lower_one (by lia) ?_
  unfold Unicode.lowerOf Unicode.image
  have e : UnicodeData.severalLower.lookup (d + c) = none := by
    rw [List.lookup_eq_none_iff]
    intro y hy
    have := List.all_eq_true.mp g.2 y hy
    rw [bne_iff_ne]
    intro q
    simp [Nat.blt] at this
    lia
  rw [e, gap_none (by lia) (by lia) _ g.1]; rfl
end Mine
end

section
open PySem PySem.W PyProof.Rows
set_option Elab.async false
set_option tactic.hygienic false
set_option maxRecDepth 100000
set_option autoImplicit false
set_option linter.unusedVariables false
namespace Mine
noncomputable def chL (cap st : Nat) (s : Nat → Nat) (k : Nat) : Nat := (if s k = 1 then 65 else cap) + st + k
noncomputable def smL (st k : Nat) : Nat := 97 + st + k
noncomputable def letL (cap st : Nat) (s : Nat → Nat) (b : Bool) (k : Nat) : Nat := if b then chL cap st s k else smL st k
noncomputable def lowL (cap st : Nat) (s : Nat → Nat) (b : Bool) (k : Nat) : Nat := if b = true ∧ s k ≠ 1 then cap + st + k else 97 + st + k
theorem txt_inj {a b : Nat} : (txt [a] = txt [b]) ↔ a = b := ⟨fun e => by
  have := congrArg (fun s : Str => s.cps) e
  simpa using this, fun e => by rw [e]⟩
theorem low_let {cap st k : Nat} (hc : cap ∈ capsL) (s : Nat → Nat) (b : Bool) (h : st + k < 26) : Txt.lower (txt [letL cap st s b k]) = txt [lowL cap st s b k] := by
  have h1 := lower_ascii h
  have h2 := lower_cap hc h
  rw [← Nat.add_assoc, ← Nat.add_assoc] at h1
  rw [← Nat.add_assoc] at h2
  unfold letL lowL chL smL
  cases b with
  | false => rw [if_neg (by decide), if_neg (fun q => by cases q.1)]; exact h1.1
  | true =>
    rw [if_pos rfl]
    by_cases q : s k = 1
    · rw [if_pos q, if_neg (fun z => z.2 q)]; exact h1.2
    · rw [if_neg q, if_pos ⟨rfl, q⟩]; exact h2
theorem b3_let {cap st k : Nat} (hc : cap ∈ capsL) (s : Nat → Nat) (b : Bool) (h : st + k < 26) : b3 (letL cap st s b k) = txt [smL st k] := by
  have h1 := lower_ascii h
  have h2 := b3_cap hc h
  rw [← Nat.add_assoc, ← Nat.add_assoc] at h1
  rw [← Nat.add_assoc, ← Nat.add_assoc] at h2
  unfold letL chL smL
  cases b with
  | false => rw [if_neg (by decide), b3_low (by lia)]; exact h1.1
  | true =>
    rw [if_pos rfl]
    by_cases q : s k = 1
    · rw [if_pos q, b3_low (by lia)]; exact h1.2
    · rw [if_neg q]; exact h2
theorem caps_lo {cap : Nat} (h : cap ∈ capsL) : 119808 ≤ cap := by
  have : (capsL.all fun d => decide (119808 ≤ d)) = true := by decide
  exact of_decide_eq_true (List.all_eq_true.mp this cap h)
theorem sc_let {cap st i j : Nat} (hc : cap ∈ capsL) {s : Nat → Nat} (hs : ∀ k, s k = 1 ∨ s k = 2) (a b : Bool) (hi : st + i < 26) (hj : st + j < 26) :
    sc (letL cap st s b j) (letL cap st s a i) = if i = j then (if (a ^^ b) = true then s j else 0) else 2 := by
  have hcap := caps_lo hc
  unfold sc
  rw [low_let hc s b hj, low_let hc s a hi]
  simp only [txt_inj]
  unfold letL lowL chL smL
  by_cases e : i = j
  · subst e
    rw [if_pos rfl]
    rcases hs i with q | q <;> cases a <;> cases b <;> simp [q] <;> lia
  · rw [if_neg e]
    rcases hs i with q | q <;> rcases hs j with r | r <;> cases a <;> cases b <;> simp [q, r] <;> lia
noncomputable def textOf (cap st : Nat) (s : Nat → Nat) (N : Nat) (W : List Nat) : List Nat := (List.range N).map fun k => letL cap st s (decide (k ∈ W)) k
theorem text_get {cap st : Nat} {s : Nat → Nat} {N : Nat} {W : List Nat} {i x : Nat} (h : (textOf cap st s N W)[i]? = some x) : i < N ∧ x = letL cap st s (decide (i ∈ W)) i := by
  unfold textOf at h
  rw [List.getElem?_map] at h
  obtain ⟨j, hj, rfl⟩ := Option.map_eq_some_iff.mp h
  have hi : i < N := by have := (List.getElem?_eq_some_iff.mp hj).1; rwa [List.length_range] at this
  rw [List.getElem?_range hi] at hj
  cases hj
  exact ⟨hi, rfl⟩
theorem text_len (cap st : Nat) (s : Nat → Nat) (N : Nat) (W : List Nat) : (textOf cap st s N W).length = N := by unfold textOf; rw [List.length_map, List.length_range]
noncomputable def wd (s : Nat → Nat) (U V : List Nat) (k : Nat) : Nat := if (msk U ^^^ msk V).testBit k then s k else 0
theorem wd_eq (s : Nat → Nat) (U V : List Nat) (k : Nat) : wd s U V k = if (decide (k ∈ U) ^^ decide (k ∈ V)) = true then s k else 0 := by
  unfold wd
  rw [Nat.testBit_xor, msk_bit, msk_bit]
theorem apart_text {cap st N : Nat} (hc : cap ∈ capsL) {s : Nat → Nat} (hs : ∀ k, s k = 1 ∨ s k = 2) (hN : st + N ≤ 26) (U V : List Nat) : WApart sc (textOf cap st s N U) (textOf cap st s N V) (wd s U V) where
  len := by rw [text_len, text_len]
  two := fun i => by unfold wd; have := hs i; split <;> lia
  at' := fun i j x y hx hy => by
    obtain ⟨hi, rfl⟩ := text_get hx
    obtain ⟨hj, rfl⟩ := text_get hy
    rw [sc_let hc hs _ _ (by lia) (by lia), wd_eq]
    by_cases e : i = j
    · subst e; rfl
    · rw [if_neg e, if_neg e]
  zero := fun i x y hx hy => by
    obtain ⟨hi, rfl⟩ := text_get hx
    obtain ⟨_, rfl⟩ := text_get hy
    have hcap := caps_lo hc
    rw [wd_eq]
    unfold letL chL smL
    rcases hs i with q | q <;> by_cases a : i ∈ U <;> by_cases b : i ∈ V <;> simp [q, a, b] <;> lia
theorem lev_text {cap st N : Nat} (hc : cap ∈ capsL) {s : Nat → Nat} (hs : ∀ k, s k = 1 ∨ s k = 2) (hN : st + N ≤ 26) (h20 : N ≤ 20) (U V : List Nat) (mx : Nat) (hm : 2 * N ≤ mx) :
    levV [.str (txt (textOf cap st s N U)), .str (txt (textOf cap st s N V)), nat mx] = some (nat (wsum s (msk U ^^^ msk V) N)) := by
  show (if (txt (textOf cap st s N V)).length = (txt (textOf cap st s N U)).length ∧ (txt (textOf cap st s N U)).length ≤ 20 ∧ (0 : Int) ≤ (mx : Int) then some (nat (lev sc (txt (textOf cap st s N U)).cps.toList (txt (textOf cap st s N V)).cps.toList ((mx : Int)).toNat)) else none) = _
  rw [if_pos ⟨by rw [txt_len, txt_len, text_len, text_len], by rw [txt_len, text_len]; exact h20, Int.natCast_nonneg _⟩, Int.toNat_natCast]
  show some (nat (lev sc (textOf cap st s N U).toArray.toList (textOf cap st s N V).toArray.toList mx)) = _
  have hw : sumTo (wd s U V) (textOf cap st s N U).length = wsum s (msk U ^^^ msk V) N := by rw [text_len]; rfl
  rw [List.toList_toArray, List.toList_toArray, lev_spec sc _ _ _ _ (apart_text hc hs hN U V) (by rw [hw]; exact Nat.le_trans (wsum_le (fun k => by have := hs k; lia) _ _) hm), hw]
theorem b3_text {cap st N : Nat} (hc : cap ∈ capsL) (s : Nat → Nat) (hN : st + N ≤ 26) (U : List Nat) : (textOf cap st s N U).map b3 = (List.range N).map fun k => txt [smL st k] := by
  unfold textOf
  rw [List.map_map]
  refine List.map_congr_left fun k hk => ?_
  have := List.mem_range.mp hk
  exact b3_let hc s _ (by lia)
end Mine
end

section
open PySem PySem.W PyProof.Rows
set_option Elab.async false
set_option tactic.hygienic false
set_option maxRecDepth 100000
set_option autoImplicit false
set_option linter.unusedVariables false
namespace Mine
theorem add_nn (a b : Nat) : binV .Add (nat a) (nat b) = some (nat (a + b)) := rfl
theorem mod_nn (a : Nat) {b : Nat} (h : 0 < b) : binV .Mod (nat a) (nat b) = some (nat (a % b)) := by
  show binV .Mod (.int a) (.int b) = some (.int _)
  rw [mod_int _ _ (by lia), Int.fmod_eq_emod_of_nonneg _ (by lia)]; rfl
theorem div_nn (a : Nat) {b : Nat} (h : 0 < b) (hb : b < 10000000) : binV .FloorDiv (nat a) (nat b) = some (nat (a / b)) := by
  show binV .FloorDiv (.int a) (.int b) = some (.int _)
  rw [fdiv_int _ _ (by lia) (small_nat hb), Int.fdiv_eq_ediv_of_nonneg _ (by lia)]; rfl
theorem mul_nn {a b : Nat} (ha : small (a : Int) = true) (hb : small (b : Int) = true) : binV .Mult (nat a) (nat b) = some (nat (a * b)) := by
  show binV .Mult (.int a) (.int b) = some (.int _)
  rw [mul_int _ _ ha hb, Int.natCast_mul]
theorem pow_nn {a b : Nat} (ha : small (a : Int) = true) (hb : b < 4000) : binV .Pow (nat a) (nat b) = some (nat (a ^ b)) := by
  show binV .Pow (.int a) (.int b) = some (.int _)
  rw [pow_int _ _ ha (by lia) (by lia), Int.toNat_natCast, Int.natCast_pow]
theorem sub_nn {a b : Nat} (h : b ≤ a) : binV .Sub (nat a) (nat b) = some (nat (a - b)) := by
  show binV .Sub (.int a) (.int b) = some (.int _)
  rw [sub_int]; congr 2; lia
theorem for_nats {i : Nat} {B : SF} (l : List Nat) (Inv : Nat → List Slot → Prop) (h : ∀ k x sl, l[k]? = some x → Inv k sl → ∃ sl1, putS sl i (.val (nat x)) = some sl1 ∧ ∃ sl2, B sl1 = some (.next, sl2) ∧ Inv (k + 1) sl2) (sl : List Slot) (h0 : Inv 0 sl) :
    ∃ sl', forF i B (nats l) sl = some (.next, sl') ∧ Inv l.length sl' := by
  have := forF_inv (i := i) (f := B) Inv (fun zq => False) (nats l) (fun k x sl hx iv => ?_) sl h0
  · rw [nats_len] at this
    rcases this with q | ⟨_, _, _, f⟩
    · exact q
    · exact f.elim
  · obtain ⟨y, hy, rfl⟩ : ∃ y, l[k]? = some y ∧ x = nat y := by
      have hx' : ((l.map Int.ofNat).map AV.int)[k]? = some x := hx
      rw [List.getElem?_map, List.getElem?_map] at hx'
      obtain ⟨z, hz, rfl⟩ := Option.map_eq_some_iff.mp hx'
      obtain ⟨y, hy, rfl⟩ := Option.map_eq_some_iff.mp hz
      exact ⟨y, hy, rfl⟩
    obtain ⟨sl1, e1, sl2, e2, iv2⟩ := h k y sl hy iv
    exact ⟨rfl, sl1, e1, .inl ⟨sl2, e2, iv2⟩⟩
noncomputable abbrev rowsN (M : List (List Nat)) : List (List AV) := M.map nats
noncomputable abbrev rowsI (M : List (List Int)) : List (List AV) := M.map intL
noncomputable abbrev mutN (M : List (List Nat)) : AV := .mut ((rowsN M).map .mut)
theorem setItem2_of {i : Nat} {fa fb fe : List Slot → Option AV} {sl : List Slot} {rows : List (List AV)} {row : List AV} {a b : Nat} {v : AV} (hl : sl[i]?.bind mgr? = some rows) (ha : Ap fa sl = some (nat a)) (hb : Ap fb sl = some (nat b)) (he : Ap fe sl = some v) (hv : v.firm = true) (hr : rows[a]? = some row) (hb' : b < row.length) (ha' : a < 1000000) (hl' : row.length < 1000000) :
    setItem2F i fa fb fe sl = some (.next, sl.set i (.mgr (rows.set a (row.set b v)))) := by
  show (Ap fe sl).bind (fun v => ((Ap fa sl).bind avInt?).bind fun a => ((Ap fb sl).bind avInt?).bind fun b => _) = _
  rw [he, Option.bind_some, ha, hb]
  show ((sl[i]?.bind mgr?).bind fun rows => (rows[((a : Int)).toNat]?).bind fun row => _) = _
  rw [hl, Option.bind_some, Int.toNat_natCast, hr, Option.bind_some, if_pos ⟨hv, Int.natCast_nonneg a, by lia, Int.natCast_nonneg b, by lia, hl'⟩, Int.toNat_natCast]
noncomputable def setM {α : Type} (M : List (List α)) (a b : Nat) (v : α) : List (List α) := M.set a ((M.getD a []).set b v)
theorem rows_get {α : Type} {M : List (List α)} {a : Nat} (f : List α → List AV) (h : a < M.length) : (M.map f)[a]? = some (f (M.getD a [])) := by
  rw [List.getElem?_map, List.getD_eq_getElem?_getD, List.getElem?_eq_getElem h]; rfl
theorem rowsN_set (M : List (List Nat)) (a b v : Nat) : (rowsN M).set a ((nats (M.getD a [])).set b (nat v)) = rowsN (setM M a b v) := by
  unfold setM; show _ = List.map nats _; rw [List.map_set, nats_set]
theorem rowsI_set (M : List (List Int)) (a b : Nat) (v : Int) : (rowsI M).set a ((intL (M.getD a [])).set b (.int v)) = rowsI (setM M a b v) := by
  unfold setM; show _ = List.map intL _; rw [List.map_set, int_set]
theorem setM_sq {n : Nat} {M : List (List Nat)} (h : Sq n M) {a : Nat} (b v : Nat) (ha : a < n) : Sq n (setM M a b v) := by
  refine ⟨by unfold setM; rw [List.length_set]; exact h.1, fun r hr => ?_⟩
  unfold setM at hr
  rcases List.mem_or_eq_of_mem_set hr with q | q
  · exact h.2 r q
  · rw [q, List.length_set]; exact h.row ha
theorem mat_set {n : Nat} {M : List (List Nat)} (h : Sq n M) {a b : Nat} (v : Nat) (ha : a < n) (hb : b < n) (i j : Nat) : mat (setM M a b v) i j = if i = a ∧ j = b then v else mat M i j := by
  unfold mat setM
  by_cases e : i = a
  · subst e
    have h1 : (M.set i ((M.getD i []).set b v)).getD i [] = (M.getD i []).set b v := by
      rw [List.getD_eq_getElem?_getD, List.getElem?_set_self (by rw [h.1]; exact ha)]; rfl
    rw [h1]
    by_cases e2 : j = b
    · subst e2
      rw [if_pos ⟨rfl, rfl⟩, List.getD_eq_getElem?_getD, List.getElem?_set_self (by rw [h.row ha]; exact hb)]; rfl
    · rw [if_neg (fun q => e2 q.2), List.getD_eq_getElem?_getD, List.getElem?_set_ne (Ne.symm e2), ← List.getD_eq_getElem?_getD]
  · have h2 : (M.set a ((M.getD a []).set b v)).getD i [] = M.getD i [] := by
      rw [List.getD_eq_getElem?_getD, List.getElem?_set_ne (Ne.symm e), ← List.getD_eq_getElem?_getD]
    rw [if_neg (fun q => e q.1), h2]
theorem ap_mut {n : Nat} {M : List (List Nat)} (h : Sq n M) (hn : n < 1000) {f g k : List Slot → Option AV} {sl : List Slot} {i j : Nat} (hf : Ap f sl = some (mutN M)) (hg : Ap g sl = some (nat i)) (hk : Ap k sl = some (nat j)) (hi : i < n) (hj : j < n) :
    Ap (fun sl => ((f sl).bind fun a => (g sl).bind fun b => idxV a b).bind fun a => (k sl).bind fun b => idxV a b) sl = some (nat (mat M i j)) := by
  have hr := h.row hi
  refine ap_idx (ap_idx hf hg (idx_mut _ _ (.mut (nats (M.getD i []))) ?_ ?_)) hk (idx_nats _ _ _ (by rw [hr]; lia) (getD_get (by rw [hr]; exact hj)))
  · rw [List.length_map, List.length_map, h.1]; lia
  · rw [List.getElem?_map, rows_get nats (by rw [h.1]; exact hi)]; rfl
theorem mut_freeze (M : List (List Nat)) : freezeL [mutN M] = [.lst (matL M)] := by
  show [AV.lst (freezeL ((rowsN M).map .mut))] = _
  congr 2
  induction M with
  | nil => rfl
  | cons r M ih =>
    show freezeL (.mut (nats r) :: (rowsN M).map .mut) = _
    unfold freezeL
    rw [ih]
    show AV.lst (freezeL (nats r)) :: _ = _
    rw [show freezeL (nats r) = nats r from freeze_intL _]; rfl
theorem rowsOf_N (M : List (List Nat)) : newSlot 2 (matL M) = some (.mgr (rowsN M)) := by
  have e : rowsOf (matL M) = some (rowsN M) := by
    induction M with
    | nil => rfl
    | cons r M ih => show (rowsOf (matL M)).map _ = _; rw [ih]; rfl
  show (rowsOf (matL M)).bind _ = _
  rw [e, Option.bind_some, if_pos]
  rw [List.all_map, List.all_eq_true]
  intro r _
  show (asInts (nats r)).isSome = true
  rw [asInts_nats]; rfl
noncomputable abbrev matI (M : List (List Int)) : List AV := M.map fun r => .lst (intL r)
theorem matI_firm (M : List (List Int)) : firmL (matI M) = true := by
  induction M with
  | nil => rfl
  | cons r M ih => show (firmL (intL r) && firmL (matI M)) = true; rw [ih, show firmL (intL r) = true from firm_intL _]; rfl
theorem rowsOf_I (M : List (List Int)) : newSlot 2 (matI M) = some (.mgr (rowsI M)) := by
  have e : rowsOf (matI M) = some (rowsI M) := by
    induction M with
    | nil => rfl
    | cons r M ih => show (rowsOf (matI M)).map _ = _; rw [ih]; rfl
  show (rowsOf (matI M)).bind _ = _
  rw [e, Option.bind_some, if_pos]
  rw [List.all_map, List.all_eq_true]
  intro r _
  show (asInts (intL r)).isSome = true
  rw [show asInts (intL r) = some r from asInts_map _]; rfl
theorem newF_mgr {i : Nat} {f : List Slot → Option (List AV)} {sl sl' : List Slot} {xs : List AV} {rows : List (List AV)} (h : f sl = some xs) (hf : firmL xs = true) (hm : newSlot 2 xs = some (.mgr rows)) (hp : putS sl i (.mgr rows) = some sl') : newF 2 i f sl = some (.next, sl') := by
  unfold newF
  rw [h, Option.bind_some, if_pos hf, hm, Option.bind_some, hp]; rfl
theorem comp_fm {fi : List Slot → Option (List AV)} {f fe : List Slot → Option AV} {ix : List Nat} {sl : List Slot} {l : List Nat} (q : Nat → Bool) (g : Nat → Nat) (hi : fi sl = some (nats l)) (hl : l.length < 1000000)
    (h : ∀ x ∈ l, Ap f (cslots sl ix (nat x)) = some (.bool (q x)) ∧ (q x = true → Ap fe (cslots sl ix (nat x)) = some (nat (g x)))) : compF fi (fun sl => (f sl).bind truth) fe ix sl = some (nats ((l.filter q).map g)) := by
  unfold compF
  rw [hi, Option.bind_some, if_pos ⟨firm_intL _, by rw [nats_len]; exact hl⟩]
  clear hi hl
  induction l with
  | nil => rfl
  | cons x r ih =>
    obtain ⟨h1, h2⟩ := h x List.mem_cons_self
    have ih' := ih fun y hy => h y (List.mem_cons_of_mem _ hy)
    show compV _ fe (cslots sl ix) (nat x :: nats r) = _
    unfold compV
    show ((Ap f (cslots sl ix (nat x))).bind truth).bind _ = _
    rw [h1]
    show (some (q x)).bind _ = _
    rw [Option.bind_some, List.filter_cons]
    cases hq : q x with
    | false => rw [if_neg (by decide), ih', if_neg (by decide)]
    | true =>
      rw [if_pos rfl]
      show (Ap fe (cslots sl ix (nat x))).bind _ = _
      rw [h2 hq, Option.bind_some, if_pos (show (nat (g x)).firm = true from rfl), ih', if_pos rfl]; rfl
theorem sum_nats (l : List Nat) : sumV [.lst (nats l)] = some (nat l.sum) := by
  show (asInts (nats l)).map (fun ns => AV.int ns.sum) = _
  rw [asInts_nats]
  show some (AV.int _) = some (AV.int _)
  congr 2
  induction l with
  | nil => rfl
  | cons x l ih => rw [List.map_cons, List.sum_cons, ih, List.sum_cons, Int.natCast_add]; rfl
theorem sum_pick (q : Nat → Bool) (g : Nat → Nat) (N : Nat) : (((List.range N).filter q).map g).sum = sumTo (fun k => if q k then g k else 0) N := by
  induction N with
  | zero => rfl
  | succ N ih =>
    rw [List.range_succ, List.filter_append, List.map_append, List.sum_append, ih]
    show _ = sumTo _ N + _
    congr 1
    rw [List.filter_cons]
    dsimp only
    cases q N with
    | true => rw [if_pos rfl, if_pos rfl]; show [g N].sum = g N; simp
    | false => rw [if_neg (by decide), if_neg (by decide)]; rfl
theorem in_nats (k : Nat) (l : List Nat) : cmpV .In (nat k) (.lst (nats l)) = some (decide (k ∈ l)) := by
  show ((some (nats l)).bind asInts).map (fun ns => ns.any (· == (k : Int))) = _
  rw [Option.bind_some, asInts_nats]
  show some _ = some _
  congr 1
  rw [Bool.eq_iff_iff, List.any_eq_true, decide_eq_true_eq]
  constructor
  · rintro ⟨x, hx, e⟩
    obtain ⟨y, hy, rfl⟩ := List.mem_map.mp hx
    rw [beq_iff_eq] at e
    rw [← Int.ofNat.inj e]; exact hy
  · exact fun h => ⟨(k : Int), List.mem_map.mpr ⟨k, h, rfl⟩, beq_self_eq_true _⟩
theorem neq_bool (a b : Bool) : cmpV .NotEq (.bool a) (.bool b) = some (a ^^ b) := by cases a <;> cases b <;> rfl
end Mine
end

section
open PySem PySem.W PyProof.Rows
set_option Elab.async false
set_option tactic.hygienic false
set_option maxRecDepth 100000
set_option autoImplicit false
set_option linter.unusedVariables false
namespace Mine
noncomputable def drawnA (xs : List Int) : List Nat := (xs.take 3).map fun x => (x.fmod 1000000).toNat
noncomputable def drawnL (xs : List Int) : List Nat := drawnA xs ++ [120, 25, 37].drop (drawnA xs).length
theorem drawn_len (xs : List Int) : (drawnA xs).length ≤ 3 := by unfold drawnA; rw [List.length_map, List.length_take]; exact Nat.min_le_left _ _
theorem drawn3 (xs : List Int) : ∃ a b c, drawnL xs = [a, b, c] := by
  have h := drawn_len xs
  unfold drawnL
  generalize drawnA xs = l at *
  match l, h with
  | [], _ => exact ⟨_, _, _, rfl⟩
  | [a], _ => exact ⟨_, _, _, rfl⟩
  | [a, b], _ => exact ⟨_, _, _, rfl⟩
  | [a, b, c], _ => exact ⟨_, _, _, rfl⟩
  | a :: b :: c :: d :: l, h => exact absurd h (by simp)
structure D02 where
  xs : List Int
  d0 : Nat
  d1 : Nat
  d2 : Nat
  up : List Nat
  ord : List Nat
namespace D02
variable (e : D02)
noncomputable abbrev n : Nat := 4 + e.d0 % 3
noncomputable abbrev x : Nat := e.d0 / 3 % e.n ^ (e.n - 2)
noncomputable abbrev row : List Nat := figB e.n (e.n - 2) e.x
noncomputable def s (k : Nat) : Nat := 1 + e.d1 / 2 ^ k % 2
noncomputable abbrev st : Nat := e.d1 / 64 % 22
noncomputable abbrev cap : Nat := capsL.getD (e.d2 % 10) 0
noncomputable abbrev w : Nat := 13 + e.d2 / 10 % 12
noncomputable abbrev small : List AV := (List.range (e.n - 1)).map fun k => AV.str (txt [smL e.st k])
noncomputable abbrev changed : List AV := (List.range (e.n - 1)).map fun k => AV.str (txt [chL e.cap e.st e.s k])
noncomputable abbrev texts : List AV := (waysOf e.up e.n).map fun W => AV.str (txt (textOf e.cap e.st e.s (e.n - 1) W))
end D02
structure Ok02 (e : D02) : Prop where
  dr : drawnL e.xs = [e.d0, e.d1, e.d2]
  hl : e.xs.length < 1000
  tree : TreeOk e.n e.row e.up e.ord
noncomputable abbrev Q0 (e : D02) (t : List Slot) : List Slot := .scr (intL e.xs) :: .val (.lst (nats [e.d0, e.d1, e.d2])) :: .val (nat e.n) :: .val (nat e.x) :: t
noncomputable abbrev Q1 (e : D02) (j4 j6 j7 : Slot) (t : List Slot) : List Slot := Q0 e (j4 :: .mls (nats e.row) :: j6 :: j7 :: .val (.lst (nats e.up)) :: .val (.lst (nats e.ord)) :: .val (.lst (nats ((List.range (e.n - 1)).map e.s))) :: .val (nat e.st) :: .val (nat e.cap) :: .val (nat e.w) ::
  .val (.lst e.small) :: .val (.lst e.changed) :: .val (.lst (matL (waysOf e.up e.n))) :: .val (.lst e.texts) :: t)
theorem slice_view3 (xs : List Int) (h : xs.length < 1000000) : sliceV (.view (intL xs)) .none (.int 3) = some (.lst (intL (xs.take 3))) := by
  show (if (intL xs).length < 1000000 then some (AV.lst (sliceL (intL xs) none (some 3))) else none) = _
  have hl : (intL xs).length = xs.length := by simp [intL]
  rw [hl, if_pos h]
  congr 2
  unfold sliceL
  rw [hl]
  show ((intL xs).drop 0).take (clipAt xs.length 3 - 0) = _
  rw [show (3 : Int) = ((3 : Nat) : Int) from rfl, clipAt_nat, List.drop_zero, Nat.sub_zero]
  unfold intL
  rw [← List.map_take, ← List.take_take, List.take_of_length_le (Nat.le_refl xs.length)]
theorem slice_disp (m : Nat) (h : m ≤ 3) : sliceLV (.lst (nats [120, 25, 37])) (nat m) .none = some (.lst (nats ([120, 25, 37].drop m))) := by
  match m, h with
  | 0, _ => rfl
  | 1, _ => rfl
  | 2, _ => rfl
  | 3, _ => rfl
  | m + 4, h => exact absurd h (by lia)
theorem ap_sliceL {f g h : List Slot → Option AV} {sl : List Slot} {a b c r : AV} (hf : Ap f sl = some a) (hg : Ap g sl = some b) (hh : Ap h sl = some c) (e : sliceLV a b c = some r) : Ap (fun sl => (f sl).bind fun a => (g sl).bind fun b => (h sl).bind fun c => sliceLV a b c) sl = some r := by
  show ((Ap f sl).bind fun a => (Ap g sl).bind fun b => (Ap h sl).bind fun c => sliceLV a b c) = _
  rw [hf, Option.bind_some, hg, Option.bind_some, hh, Option.bind_some, e]
noncomputable def modM : AV → AV
  | .int i => .int (i.fmod 1000000)
  | a => a
theorem drawnA_eq (xs : List Int) : (intL (xs.take 3)).map modM = nats (drawnA xs) := by
  unfold drawnA
  show ((xs.take 3).map AV.int).map modM = ((((xs.take 3).map fun x => (x.fmod 1000000).toNat).map Int.ofNat).map AV.int)
  rw [List.map_map, List.map_map, List.map_map]
  refine List.map_congr_left fun x zq => ?_
  show AV.int (x.fmod 1000000) = AV.int (((x.fmod 1000000).toNat : Nat) : Int)
  rw [Int.toNat_of_nonneg (Int.fmod_nonneg_of_pos x (by decide))]
theorem lv_ten6 : binV .Pow (.int 10) (.int 6) = some (.int 1000000) := by rw [pow_int _ _ (by decide +kernel) (by decide) (by decide)]; rfl
noncomputable abbrev U25 : List Slot := [.unset, .unset, .unset, .unset, .unset, .unset, .unset, .unset, .unset, .unset, .unset, .unset, .unset, .unset, .unset, .unset, .unset, .unset, .unset, .unset, .unset, .unset, .unset, .unset, .unset]
noncomputable abbrev U23 : List Slot := [.unset, .unset, .unset, .unset, .unset, .unset, .unset, .unset, .unset, .unset, .unset, .unset, .unset, .unset, .unset, .unset, .unset, .unset, .unset, .unset, .unset, .unset, .unset]
noncomputable abbrev U22 : List Slot := [.unset, .unset, .unset, .unset, .unset, .unset, .unset, .unset, .unset, .unset, .unset, .unset, .unset, .unset, .unset, .unset, .unset, .unset, .unset, .unset, .unset, .unset]
noncomputable abbrev U21 : List Slot := [.unset, .unset, .unset, .unset, .unset, .unset, .unset, .unset, .unset, .unset, .unset, .unset, .unset, .unset, .unset, .unset, .unset, .unset, .unset, .unset, .unset]
noncomputable abbrev U20 : List Slot := [.unset, .unset, .unset, .unset, .unset, .unset, .unset, .unset, .unset, .unset, .unset, .unset, .unset, .unset, .unset, .unset, .unset, .unset, .unset, .unset]
noncomputable abbrev U19 : List Slot := [.unset, .unset, .unset, .unset, .unset, .unset, .unset, .unset, .unset, .unset, .unset, .unset, .unset, .unset, .unset, .unset, .unset, .unset, .unset]
noncomputable abbrev U18' : List Slot := [.unset, .unset, .unset, .unset, .unset, .unset, .unset, .unset, .unset, .unset, .unset, .unset, .unset, .unset, .unset, .unset, .unset, .unset]
noncomputable abbrev U17 : List Slot := [.unset, .unset, .unset, .unset, .unset, .unset, .unset, .unset, .unset, .unset, .unset, .unset, .unset, .unset, .unset, .unset, .unset]
noncomputable abbrev U16 : List Slot := [.unset, .unset, .unset, .unset, .unset, .unset, .unset, .unset, .unset, .unset, .unset, .unset, .unset, .unset, .unset, .unset]
noncomputable abbrev U15 : List Slot := [.unset, .unset, .unset, .unset, .unset, .unset, .unset, .unset, .unset, .unset, .unset, .unset, .unset, .unset, .unset]
noncomputable abbrev U29 : List Slot := .unset :: .unset :: .unset :: .unset :: U25
theorem putMany2 {sl sl1 sl2 : List Slot} {i j : Nat} {a b : AV} (h1 : putS sl i (.val a) = some sl1) (h2 : putS sl1 j (.val b) = some sl2) (ha : a.firm = true) (hb : b.firm = true) : putMany sl [i, j] [a, b] = some sl2 := by
  unfold putMany
  rw [if_pos ha, h1, Option.bind_some]
  unfold putMany
  rw [if_pos hb, h2, Option.bind_some]; rfl
theorem loopR (e : D02) (B : SF) (hB : ∀ (rest : Nat) (row : List Nat) (t fig : Slot), rest < 1296 → row.length < 1000 → B (Q0 e (.val (nat rest) :: .mls (nats row) :: t :: fig :: U25)) = some (.next, Q0 e (.val (nat (rest / e.n)) :: .mls (nats (row ++ [rest % e.n])) :: t :: .val (nat (rest % e.n)) :: U25)))
    (hx : e.x < 1296) (hn : e.n ≤ 6) : ∃ j4 j6 j7, forF 6 B (nats (List.range (e.n - 2))) (Q0 e (.val (nat e.x) :: .mls (nats []) :: .unset :: .unset :: U25)) = some (.next, Q0 e (j4 :: .mls (nats e.row) :: j6 :: j7 :: U25)) := by
  have main := for_nats (i := 6) (B := B) (List.range (e.n - 2)) (fun k sl => ∃ (rest : Nat) (row : List Nat) (a b : Slot), sl = Q0 e (.val (nat rest) :: .mls (nats row) :: a :: b :: U25) ∧ rest < 1296 ∧ row.length = k ∧ row ++ figB e.n (e.n - 2 - k) rest = e.row)
    (fun k y sl hy iv => ?_) (Q0 e (.val (nat e.x) :: .mls (nats []) :: .unset :: .unset :: U25)) ⟨e.x, [], .unset, .unset, rfl, hx, rfl, rfl⟩
  · obtain ⟨sl', h, rest, row, a, b, rfl, h1, h2, h3⟩ := main
    rw [List.length_range, Nat.sub_self] at h3
    rw [show row = e.row by rw [← h3]; exact (List.append_nil row).symm] at h
    exact ⟨_, _, _, h⟩
  · obtain ⟨rest, row, a, b, rfl, h1, h2, h3⟩ := iv
    have hk : k < e.n - 2 := by have := (List.getElem?_eq_some_iff.mp hy).1; rwa [List.length_range] at this
    refine ⟨_, rfl, _, hB rest row (.val (nat y)) b h1 (by lia), rest / e.n, row ++ [rest % e.n], _, _, rfl, Nat.lt_of_le_of_lt (Nat.div_le_self _ _) h1, by rw [List.length_append, h2]; rfl, ?_⟩
    rw [← h3, show e.n - 2 - k = (e.n - 2 - (k + 1)) + 1 by lia, List.append_assoc]; rfl
theorem chr_nat {c : Nat} (h : c ≤ 1114111) : chrV [nat c] = some (.str (txt [c])) := by
  show (if 0 ≤ (c : Int) ∧ (c : Int) ≤ 0x10FFFF then some (AV.str ⟨#[((c : Int)).toNat]⟩) else none) = _
  rw [if_pos ⟨Int.natCast_nonneg c, by lia⟩, Int.toNat_natCast]
theorem join_chars (l : List Nat) (h : l.length = 3 ∨ l.length = 4 ∨ l.length = 5) : joinV (.str "") (.lst (l.map fun c => AV.str (txt [c]))) = some (.str (txt l)) := by
  rcases h with h | h | h
  · match l, h with
    | [a, b, c], _ => rfl
  · match l, h with
    | [a, b, c, d], _ => rfl
  · match l, h with
    | [a, b, c, d, f], _ => rfl
theorem comp_mapL {fi : List Slot → Option (List AV)} {fe : List Slot → Option AV} {ix : List Nat} {sl : List Slot} {Ws : List (List Nat)} (g : List Nat → AV) (hi : fi sl = some (matL Ws)) (hl : Ws.length < 1000000)
    (h : ∀ W ∈ Ws, Ap fe (cslots sl ix (.lst (nats W))) = some (g W) ∧ (g W).firm = true) : compF fi (fun zq => some true) fe ix sl = some (Ws.map g) := by
  unfold compF
  rw [hi, Option.bind_some, if_pos ⟨matL_firm _, by rw [List.length_map]; exact hl⟩]
  clear hi hl
  induction Ws with
  | nil => rfl
  | cons x r ih =>
    obtain ⟨h2, h3⟩ := h x List.mem_cons_self
    show compV _ fe (cslots sl ix) (.lst (nats x) :: matL r) = _
    unfold compV
    rw [Option.bind_some, if_pos rfl]
    show (Ap fe (cslots sl ix (.lst (nats x)))).bind _ = _
    rw [h2, Option.bind_some, if_pos h3, ih fun y hy => h y (List.mem_cons_of_mem _ hy)]; rfl
theorem strs_firm {α : Type} (l : List α) (g : α → Str) : firmL (l.map fun k => AV.str (g k)) = true := by
  induction l with
  | nil => rfl
  | cons a l ih => show (true && firmL (l.map fun k => AV.str (g k))) = true; rw [ih]; rfl
end Mine
end

section
open PySem PySem.W PyProof.Rows
set_option Elab.async false
set_option tactic.hygienic false
set_option maxRecDepth 100000
set_option autoImplicit false
set_option linter.unusedVariables false
namespace Mine
noncomputable abbrev U14 : List Slot := [.unset, .unset, .unset, .unset, .unset, .unset, .unset, .unset, .unset, .unset, .unset, .unset, .unset, .unset]
noncomputable abbrev U13 : List Slot := [.unset, .unset, .unset, .unset, .unset, .unset, .unset, .unset, .unset, .unset, .unset, .unset, .unset]
noncomputable abbrev U11 : List Slot := [.unset, .unset, .unset, .unset, .unset, .unset, .unset, .unset, .unset, .unset, .unset]
noncomputable def D02.D (e : D02) (i j : Nat) : Nat := wsum e.s (xm e.up i ^^^ xm e.up j) (e.n - 1)
theorem D02.D_comm (e : D02) (i j : Nat) : e.D i j = e.D j i := by unfold D02.D; rw [Nat.xor_comm]
theorem D02.D_self (e : D02) (i : Nat) : e.D i i = 0 := by unfold D02.D; rw [Nat.xor_self, wsum_zero]
noncomputable abbrev Q2 (e : D02) (j4 j6 j7 : Slot) (M M' : List (List Nat)) (t : List Slot) : List Slot := Q1 e j4 j6 j7 (.mgr (rowsN M) :: .mgr (rowsN M') :: t)
noncomputable def zeroM (n : Nat) : List (List Nat) := (List.range n).map fun zq => List.replicate n 0
theorem zeroM_sq (n : Nat) : Sq n (zeroM n) := by
  refine ⟨by unfold zeroM; rw [List.length_map, List.length_range], fun r hr => ?_⟩
  obtain ⟨_, _, rfl⟩ := List.mem_map.mp hr
  exact List.length_replicate
theorem zeroM_at (n i j : Nat) : mat (zeroM n) i j = 0 := by
  unfold mat zeroM
  rw [List.getD_eq_getElem?_getD, List.getD_eq_getElem?_getD, List.getElem?_map]
  cases (List.range n)[i]? with
  | none => rfl
  | some a =>
    show (List.replicate n 0)[j]?.getD 0 = 0
    rw [List.getElem?_replicate]
    split <;> rfl
structure MInv (e : D02) (u v : Nat) (M : List (List Nat)) : Prop where
  sq : Sq e.n M
  at_ : ∀ i j, i < e.n → j < e.n → mat M i j = if (i < u ∧ j < u) ∨ (i = u ∧ j < v) ∨ (j = u ∧ i < v) then e.D i j else 0
theorem MInv.zero (e : D02) : MInv e 0 0 (zeroM e.n) := ⟨zeroM_sq _, fun i j zq zq => by rw [zeroM_at, if_neg (by lia)]⟩
theorem MInv.step {e : D02} {u v : Nat} {M : List (List Nat)} (h : MInv e u v M) (hv : v < u) (hu : u < e.n) : MInv e u (v + 1) (setM (setM M u v (e.D u v)) v u (e.D u v)) := by
  have s1 := setM_sq h.sq v (e.D u v) hu
  refine ⟨setM_sq s1 u (e.D u v) (by lia), fun i j hi hj => ?_⟩
  rw [mat_set s1 _ (by lia) hu, mat_set h.sq _ hu (by lia), h.at_ i j hi hj]
  by_cases a : i = v ∧ j = u
  · rw [if_pos a, if_pos (by lia), a.1, a.2, e.D_comm]
  · rw [if_neg a]
    by_cases b : i = u ∧ j = v
    · rw [if_pos b, if_pos (by lia), b.1, b.2]
    · rw [if_neg b]
      by_cases c : (i < u ∧ j < u) ∨ (i = u ∧ j < v) ∨ (j = u ∧ i < v)
      · rw [if_pos c, if_pos (by lia)]
      · rw [if_neg c, if_neg (by lia)]
theorem MInv.next {e : D02} {u : Nat} {M : List (List Nat)} (h : MInv e u u M) : MInv e (u + 1) 0 M := by
  refine ⟨h.sq, fun i j hi hj => ?_⟩
  rw [h.at_ i j hi hj]
  by_cases c : (i < u ∧ j < u) ∨ (i = u ∧ j < u) ∨ (j = u ∧ i < u)
  · rw [if_pos c, if_pos (by lia)]
  · rw [if_neg c]
    by_cases d : i = u ∧ j = u
    · rw [if_pos (by lia), d.1, d.2, e.D_self]
    · rw [if_neg (by lia)]
theorem MInv.done {e : D02} {M : List (List Nat)} (h : MInv e e.n 0 M) : IsDist e.n e.up e.s M := ⟨h.sq, fun u v hu hv => by rw [h.at_ u v hu hv, if_pos (by lia)]; rfl⟩
theorem loopV (e : D02) (j4 j6 j7 : Slot) (B : SF) {u : Nat} (hu : u < e.n)
    (hB : ∀ (M : List (List Nat)) (v : Nat), v < u → Sq e.n M → B (Q2 e j4 j6 j7 M M (.val (nat u) :: .val (nat v) :: U11)) = some (.next, Q2 e j4 j6 j7 (setM (setM M u v (e.D u v)) v u (e.D u v)) (setM (setM M u v (e.D u v)) v u (e.D u v)) (.val (nat u) :: .val (nat v) :: U11)))
    (M : List (List Nat)) (h : MInv e u 0 M) (s : Slot) : ∃ M' s', forF 21 B (nats (List.range u)) (Q2 e j4 j6 j7 M M (.val (nat u) :: s :: U11)) = some (.next, Q2 e j4 j6 j7 M' M' (.val (nat u) :: s' :: U11)) ∧ MInv e (u + 1) 0 M' := by
  have main := for_nats (i := 21) (B := B) (List.range u) (fun k sl => ∃ M s, sl = Q2 e j4 j6 j7 M M (.val (nat u) :: s :: U11) ∧ MInv e u k M) (fun k y sl hy iv => ?_) (Q2 e j4 j6 j7 M M (.val (nat u) :: s :: U11)) ⟨M, s, rfl, h⟩
  · obtain ⟨sl', e1, M', s', rfl, h'⟩ := main
    rw [List.length_range] at h'
    exact ⟨M', s', e1, h'.next⟩
  · obtain ⟨M, s, rfl, h'⟩ := iv
    have hk : k < u := by have := (List.getElem?_eq_some_iff.mp hy).1; rwa [List.length_range] at this
    rw [List.getElem?_range hk] at hy
    cases hy
    exact ⟨_, rfl, _, hB M k hk h'.sq, _, _, rfl, h'.step hk hu⟩
theorem loopU (e : D02) (j4 j6 j7 : Slot) (B : SF)
    (hB : ∀ (M : List (List Nat)) (u : Nat) (s : Slot), u < e.n → MInv e u 0 M → ∃ M' s', B (Q2 e j4 j6 j7 M M (.val (nat u) :: s :: U11)) = some (.next, Q2 e j4 j6 j7 M' M' (.val (nat u) :: s' :: U11)) ∧ MInv e (u + 1) 0 M') :
    ∃ M s t, forF 20 B (nats (List.range e.n)) (Q2 e j4 j6 j7 (zeroM e.n) (zeroM e.n) U13) = some (.next, Q2 e j4 j6 j7 M M (s :: t :: U11)) ∧ IsDist e.n e.up e.s M := by
  have main := for_nats (i := 20) (B := B) (List.range e.n) (fun k sl => ∃ M s t, sl = Q2 e j4 j6 j7 M M (s :: t :: U11) ∧ MInv e k 0 M) (fun k y sl hy iv => ?_) (Q2 e j4 j6 j7 (zeroM e.n) (zeroM e.n) U13) ⟨_, _, _, rfl, .zero e⟩
  · obtain ⟨sl', e1, M', s', t', rfl, h'⟩ := main
    rw [List.length_range] at h'
    exact ⟨M', s', t', e1, h'.done⟩
  · obtain ⟨M, s, t, rfl, h'⟩ := iv
    have hk : k < e.n := by have := (List.getElem?_eq_some_iff.mp hy).1; rwa [List.length_range] at this
    rw [List.getElem?_range hk] at hy
    cases hy
    obtain ⟨M', t', e1, h2⟩ := hB M k t hk h'
    exact ⟨_, rfl, _, e1, _, _, _, rfl, h2⟩
theorem getD_setM {α : Type} (d : α) (M : List (List α)) {a b : Nat} (v : α) (ha : a < M.length) (hb : b < (M.getD a []).length) (i j : Nat) : ((setM M a b v).getD i []).getD j d = if i = a ∧ j = b then v else (M.getD i []).getD j d := by
  unfold setM
  by_cases e : i = a
  · subst e
    have h1 : (M.set i ((M.getD i []).set b v)).getD i [] = (M.getD i []).set b v := by
      rw [List.getD_eq_getElem?_getD, List.getElem?_set_self ha]; rfl
    rw [h1]
    by_cases e2 : j = b
    · subst e2
      rw [if_pos ⟨rfl, rfl⟩, List.getD_eq_getElem?_getD, List.getElem?_set_self hb]; rfl
    · rw [if_neg (fun q => e2 q.2), List.getD_eq_getElem?_getD, List.getElem?_set_ne (Ne.symm e2), ← List.getD_eq_getElem?_getD]
  · have h2 : (M.set a ((M.getD a []).set b v)).getD i [] = M.getD i [] := by
      rw [List.getD_eq_getElem?_getD, List.getElem?_set_ne (Ne.symm e), ← List.getD_eq_getElem?_getD]
    rw [if_neg (fun q => e q.1), h2]
noncomputable abbrev D02.X (e : D02) : Nat := 2 ^ e.w
noncomputable abbrev D02.V (e : D02) (k a b : Nat) : Int := VV e.s e.n e.up e.ord e.X k a b
noncomputable abbrev D02.P (e : D02) (k : Nat) : Int := PP e.s e.ord e.X k
structure SqI (n : Nat) (T : List (List Int)) : Prop where
  len : T.length = n
  row : ∀ r ∈ T, r.length = n
theorem SqI.at {n : Nat} {T : List (List Int)} (h : SqI n T) {i : Nat} (hi : i < n) : (T.getD i []).length = n := by
  have hi' : i < T.length := by rw [h.len]; exact hi
  rw [List.getD_eq_getElem?_getD, List.getElem?_eq_getElem hi']
  exact h.row _ (List.getElem_mem hi')
theorem SqI.set {n : Nat} {T : List (List Int)} (h : SqI n T) {a : Nat} (b : Nat) (v : Int) (ha : a < n) : SqI n (setM T a b v) := by
  refine ⟨by unfold setM; rw [List.length_set]; exact h.len, fun r hr => ?_⟩
  unfold setM at hr
  rcases List.mem_or_eq_of_mem_set hr with q | q
  · exact h.row r q
  · rw [q, List.length_set]; exact h.at ha
structure TInv (e : D02) (k i j : Nat) (T : List (List Int)) : Prop where
  sq : SqI e.n T
  at_ : ∀ a b, k ≤ a → k ≤ b → a < e.n → b < e.n → (T.getD a []).getD b 0 = if k < a ∧ k < b ∧ (a < i ∨ (a = i ∧ b < j)) then e.V (k + 1) a b else e.V k a b
theorem TInv.step {e : D02} {k i j : Nat} {T : List (List Int)} (h : TInv e k i j T) (hi : k < i) (hi' : i < e.n) (hj : k < j) (hj' : j < e.n) : TInv e k i (j + 1) (setM T i j (e.V (k + 1) i j)) := by
  refine ⟨h.sq.set j _ hi', fun a b ha hb ha' hb' => ?_⟩
  rw [getD_setM 0 T _ (by rw [h.sq.len]; exact hi') (by rw [h.sq.at hi']; exact hj'), h.at_ a b ha hb ha' hb']
  by_cases q : a = i ∧ b = j
  · rw [if_pos q, if_pos (by lia), q.1, q.2]
  · rw [if_neg q]
    by_cases c : k < a ∧ k < b ∧ (a < i ∨ (a = i ∧ b < j))
    · rw [if_pos c, if_pos (by lia)]
    · rw [if_neg c, if_neg (by lia)]
theorem TInv.row {e : D02} {k i : Nat} {T : List (List Int)} (h : TInv e k i e.n T) : TInv e k (i + 1) (k + 1) T := by
  refine ⟨h.sq, fun a b ha hb ha' hb' => ?_⟩
  rw [h.at_ a b ha hb ha' hb']
  by_cases c : k < a ∧ k < b ∧ (a < i ∨ (a = i ∧ b < e.n))
  · rw [if_pos c, if_pos (by lia)]
  · rw [if_neg c, if_neg (by lia)]
theorem TInv.done {e : D02} {k : Nat} {T : List (List Int)} (h : TInv e k e.n (k + 1) T) : TInv e (k + 1) (k + 2) (k + 2) T := by
  refine ⟨h.sq, fun a b ha hb ha' hb' => ?_⟩
  rw [h.at_ a b (by lia) (by lia) ha' hb', if_pos (by lia), if_neg (by lia)]
noncomputable abbrev Q3 (e : D02) (j4 j6 j7 : Slot) (M : List (List Nat)) (u v bk : Slot) (T : List (List Int)) (bf pr ln k pv i j vl : Slot) : List Slot := Q2 e j4 j6 j7 M M [u, v, bk, .val (.lst (nats (walkOf e.n e.ord))), .mgr (rowsI T), bf, pr, ln, k, pv, i, j, vl]
theorem range'_get {a m k y : Nat} (h : (List.range' a m)[k]? = some y) : k < m ∧ y = a + k := by
  have hk : k < m := by have := (List.getElem?_eq_some_iff.mp h).1; rwa [List.length_range'] at this
  rw [List.getElem?_range' hk] at h
  cases h
  exact ⟨hk, by lia⟩
theorem loopJ (e : D02) (j6 j7 : Slot) (M : List (List Nat)) (u v bk bf pr ln kk pv : Slot) {k i : Nat} (hi : k < i) (hi' : i < e.n) (B : SF)
    (hB : ∀ (T : List (List Int)) (j : Nat) (j4 vl : Slot), TInv e k i j T → k < j → j < e.n → ∃ j4' vl', B (Q3 e j4 j6 j7 M u v bk T bf pr ln kk pv (.val (nat i)) (.val (nat j)) vl) = some (.next, Q3 e j4' j6 j7 M u v bk (setM T i j (e.V (k + 1) i j)) bf pr ln kk pv (.val (nat i)) (.val (nat j)) vl'))
    (T : List (List Int)) (j4 sj vl : Slot) (h : TInv e k i (k + 1) T) :
    ∃ T' j4' sj' vl', forF 31 B (nats (List.range' (k + 1) (e.n - (k + 1)))) (Q3 e j4 j6 j7 M u v bk T bf pr ln kk pv (.val (nat i)) sj vl) = some (.next, Q3 e j4' j6 j7 M u v bk T' bf pr ln kk pv (.val (nat i)) sj' vl') ∧ TInv e k (i + 1) (k + 1) T' := by
  have main := for_nats (i := 31) (B := B) (List.range' (k + 1) (e.n - (k + 1))) (fun m sl => ∃ T j4 sj vl, sl = Q3 e j4 j6 j7 M u v bk T bf pr ln kk pv (.val (nat i)) sj vl ∧ TInv e k i (k + 1 + m) T) (fun m y sl hy iv => ?_) (Q3 e j4 j6 j7 M u v bk T bf pr ln kk pv (.val (nat i)) sj vl) ⟨T, j4, sj, vl, rfl, h⟩
  · obtain ⟨sl', e1, T', j4', sj', vl', rfl, h'⟩ := main
    rw [List.length_range', show k + 1 + (e.n - (k + 1)) = e.n by lia] at h'
    exact ⟨T', j4', sj', vl', e1, h'.row⟩
  · obtain ⟨T, j4, sj, vl, rfl, h'⟩ := iv
    obtain ⟨hm, rfl⟩ := range'_get hy
    obtain ⟨j4', vl', e2⟩ := hB T (k + 1 + m) j4 vl h' (by lia) (by lia)
    exact ⟨_, rfl, _, e2, _, _, _, _, rfl, h'.step hi hi' (by lia) (by lia)⟩
theorem loopI (e : D02) (j6 j7 : Slot) (M : List (List Nat)) (u v bk bf pr ln kk pv : Slot) {k : Nat} (hk : k < e.n) (B : SF)
    (hB : ∀ (T : List (List Int)) (i : Nat) (j4 sj vl : Slot), TInv e k i (k + 1) T → k < i → i < e.n → ∃ T' j4' sj' vl', B (Q3 e j4 j6 j7 M u v bk T bf pr ln kk pv (.val (nat i)) sj vl) = some (.next, Q3 e j4' j6 j7 M u v bk T' bf pr ln kk pv (.val (nat i)) sj' vl') ∧ TInv e k (i + 1) (k + 1) T')
    (T : List (List Int)) (j4 si sj vl : Slot) (h : TInv e k (k + 1) (k + 1) T) :
    ∃ T' j4' si' sj' vl', forF 30 B (nats (List.range' (k + 1) (e.n - (k + 1)))) (Q3 e j4 j6 j7 M u v bk T bf pr ln kk pv si sj vl) = some (.next, Q3 e j4' j6 j7 M u v bk T' bf pr ln kk pv si' sj' vl') ∧ TInv e (k + 1) (k + 2) (k + 2) T' := by
  have main := for_nats (i := 30) (B := B) (List.range' (k + 1) (e.n - (k + 1))) (fun m sl => ∃ T j4 si sj vl, sl = Q3 e j4 j6 j7 M u v bk T bf pr ln kk pv si sj vl ∧ TInv e k (k + 1 + m) (k + 1) T) (fun m y sl hy iv => ?_) (Q3 e j4 j6 j7 M u v bk T bf pr ln kk pv si sj vl) ⟨T, j4, si, sj, vl, rfl, h⟩
  · obtain ⟨sl', e1, T', j4', si', sj', vl', rfl, h'⟩ := main
    rw [List.length_range', show k + 1 + (e.n - (k + 1)) = e.n by lia] at h'
    exact ⟨T', j4', si', sj', vl', e1, h'.done⟩
  · obtain ⟨T, j4, si, sj, vl, rfl, h'⟩ := iv
    obtain ⟨hm, rfl⟩ := range'_get hy
    obtain ⟨T', j4', sj', vl', e2, h2⟩ := hB T (k + 1 + m) j4 sj vl h' (by lia) (by lia)
    exact ⟨_, rfl, _, e2, _, _, _, _, _, rfl, h2⟩
noncomputable def D02.bf (e : D02) (k : Nat) : Int := if k = 0 then 1 else e.P (k - 1)
noncomputable abbrev Q4 (e : D02) (j4 j6 j7 : Slot) (M : List (List Nat)) (u v bk : Slot) (T : List (List Int)) (k : Nat) (kk pv i j vl : Slot) : List Slot := Q3 e j4 j6 j7 M u v bk T (.val (.int (e.bf k))) (.val (nat (prodS e.s (pw e.ord) (k - 1)))) (.val (nat (lenS e.s (pw e.ord) (k - 1)))) kk pv i j vl
theorem loopK (e : D02) (j6 j7 : Slot) (M : List (List Nat)) (u v bk : Slot) (B : SF)
    (hB : ∀ (T : List (List Int)) (k : Nat) (j4 pv i j vl : Slot), k < e.n → TInv e k (k + 1) (k + 1) T → ∃ T' j4' pv' i' j' vl', B (Q4 e j4 j6 j7 M u v bk T k (.val (nat k)) pv i j vl) = some (.next, Q4 e j4' j6 j7 M u v bk T' (k + 1) (.val (nat k)) pv' i' j' vl') ∧ TInv e (k + 1) (k + 2) (k + 2) T')
    (T : List (List Int)) (j4 kk pv i j vl : Slot) (h : TInv e 0 1 1 T) :
    ∃ T' j4' kk' pv' i' j' vl', forF 28 B (nats (List.range e.n)) (Q4 e j4 j6 j7 M u v bk T 0 kk pv i j vl) = some (.next, Q4 e j4' j6 j7 M u v bk T' e.n kk' pv' i' j' vl') := by
  have main := for_nats (i := 28) (B := B) (List.range e.n) (fun m sl => ∃ T j4 kk pv i j vl, sl = Q4 e j4 j6 j7 M u v bk T m kk pv i j vl ∧ TInv e m (m + 1) (m + 1) T) (fun m y sl hy iv => ?_) (Q4 e j4 j6 j7 M u v bk T 0 kk pv i j vl) ⟨T, j4, kk, pv, i, j, vl, rfl, h⟩
  · obtain ⟨sl', e1, T', j4', kk', pv', i', j', vl', rfl, h'⟩ := main
    rw [List.length_range] at e1
    exact ⟨T', j4', kk', pv', i', j', vl', e1⟩
  · obtain ⟨T, j4, kk, pv, i, j, vl, rfl, h'⟩ := iv
    have hm : m < e.n := by have := (List.getElem?_eq_some_iff.mp hy).1; rwa [List.length_range] at this
    rw [List.getElem?_range hm] at hy
    cases hy
    obtain ⟨T', j4', pv', i', j', vl', e2, h2⟩ := hB T m j4 pv i j vl hm h'
    exact ⟨_, rfl, _, e2, _, _, _, _, _, _, _, rfl, h2⟩
theorem int_getD {l : List Int} {j : Nat} (h : j < l.length) : (intL l)[j]? = some (.int (l.getD j 0)) := int_get l j h
theorem ap_tab {n : Nat} {T : List (List Int)} (h : SqI n T) (hn : n < 1000) {f g k : List Slot → Option AV} {sl : List Slot} {i j : Nat} (hf : Ap f sl = some (.mut ((rowsI T).map .mut))) (hg : Ap g sl = some (nat i)) (hk : Ap k sl = some (nat j)) (hi : i < n) (hj : j < n) :
    Ap (fun sl => ((f sl).bind fun a => (g sl).bind fun b => idxV a b).bind fun a => (k sl).bind fun b => idxV a b) sl = some (.int ((T.getD i []).getD j 0)) := by
  have hr := h.at hi
  refine ap_idx (ap_idx hf hg (idx_mut _ _ (.mut (intL (T.getD i []))) ?_ ?_)) hk (idx_mut _ _ _ (by rw [show (intL (T.getD i [])).length = (T.getD i []).length by simp [intL], hr]; lia) (int_getD (by rw [hr]; exact hj)))
  · rw [List.length_map, List.length_map, h.len]; lia
  · rw [List.getElem?_map, rows_get intL (by rw [h.len]; exact hi)]; rfl
theorem range2_nat (a b : Nat) (ha : a < 1000000) (hb : b < 1000000) : rangeV [nat a, nat b] = some (nats (List.range' a (b - a))) := by
  show (if -1000000 < (a : Int) ∧ (a : Int) < 1000000 ∧ (b : Int) < 1000000 ∧ -1000000 < (b : Int) then some (countUp (a : Int) (b : Int)) else none) = _
  rw [if_pos ⟨by lia, by lia, by lia, by lia⟩]
  unfold countUp
  rw [show ((b : Int) - (a : Int)).toNat = b - a by lia, List.range'_eq_map_range]
  show some _ = some ((((List.range (b - a)).map (a + ·)).map Int.ofNat).map AV.int)
  rw [List.map_map, List.map_map]
  congr 1
end Mine
end

section
open PySem PySem.W PyProof.Rows
set_option Elab.async false
set_option tactic.hygienic false
set_option maxRecDepth 100000
set_option autoImplicit false
set_option linter.unusedVariables false
namespace Mine
theorem strL_lay : ∀ l : List Str, (∀ x ∈ l, (PyData.str x).canLay0 = true) → PyData.canLayAll0 (pyL (l.map AV.str)) = true
  | [], _ => rfl
  | x :: l, h => by
    show ((PyData.str x).canLay0 && PyData.canLayAll0 (pyL (l.map AV.str))) = true
    rw [strL_lay l fun y hy => h y (List.mem_cons_of_mem _ hy), h x List.mem_cons_self]; rfl
theorem strL_eqv : ∀ l : List Str, PyData.eqvAll (pyL (l.map AV.str)) (pyL (l.map AV.str)) = true
  | [] => rfl
  | x :: l => by show (PyData.eqv (.str x) (.str x) && PyData.eqvAll (pyL (l.map AV.str)) (pyL (l.map AV.str))) = true; rw [strL_eqv l]; simp [PyData.eqv]
theorem strL_depth : ∀ l : List Str, PyData.depthAll (pyL (l.map AV.str)) ≤ 1
  | [] => by decide
  | x :: l => by
    have ih := strL_depth l
    show PyData.depthAll (PyData.str x :: pyL (l.map AV.str)) ≤ 1
    simp only [PyData.depthAll, PyData.depth]
    lia
theorem neq_strs (l : List Str) (hl : ∀ x ∈ l, (PyData.str x).canLay0 = true) : cmpV .NotEq (.lst (l.map AV.str)) (.lst (l.map AV.str)) = some false := by
  show (if (PyData.canLayAll0 (pyL (l.map AV.str)) && PyData.canLayAll0 (pyL (l.map AV.str)) && decide ((PyData.list (pyL (l.map AV.str))).depth < 500)) = true then some (PyData.eqvAll (pyL (l.map AV.str)) (pyL (l.map AV.str))) else none).map (!·) = _
  have h := strL_depth l
  have hd : (PyData.list (pyL (l.map AV.str))).depth < 500 := by simp only [PyData.depth]; lia
  rw [strL_lay l hl, strL_eqv, decide_eq_true hd]; rfl
theorem neq_ints (l : List Int) : cmpV .NotEq (.lst (intL l)) (.lst (intL l)) = some false := by
  show (if (PyData.canLayAll0 (pyL (intL l)) && PyData.canLayAll0 (pyL (intL l)) && decide ((PyData.list (pyL (intL l))).depth < 500)) = true then some (PyData.eqvAll (pyL (intL l)) (pyL (intL l))) else none).map (!·) = _
  have h := intL_depth l
  have hd : (PyData.list (pyL (intL l))).depth < 500 := by simp only [PyData.depth]; lia
  rw [intL_lay, intL_eqv, decide_eq_true hd]; rfl
theorem mutL_lay : ∀ M : List (List Nat), PyData.canLayAll0 (pyL ((rowsN M).map .mut)) = true
  | [] => rfl
  | r :: M => by
    show (PyData.canLayAll0 (pyL (nats r)) && PyData.canLayAll0 (pyL ((rowsN M).map .mut))) = true
    rw [mutL_lay M, show PyData.canLayAll0 (pyL (nats r)) = true from intL_lay _]; rfl
theorem mutL_eqv : ∀ M : List (List Nat), PyData.eqvAll (pyL ((rowsN M).map .mut)) (pyL ((rowsN M).map .mut)) = true
  | [] => rfl
  | r :: M => by
    show (PyData.eqvAll (pyL (nats r)) (pyL (nats r)) && PyData.eqvAll (pyL ((rowsN M).map .mut)) (pyL ((rowsN M).map .mut))) = true
    rw [mutL_eqv M, show PyData.eqvAll (pyL (nats r)) (pyL (nats r)) = true from intL_eqv _]; rfl
theorem mutL_depth : ∀ M : List (List Nat), PyData.depthAll (pyL ((rowsN M).map .mut)) ≤ 2
  | [] => by decide
  | r :: M => by
    have ih := mutL_depth M
    have h : PyData.depthAll (pyL (nats r)) ≤ 1 := intL_depth _
    show PyData.depthAll (PyData.list (pyL (nats r)) :: pyL ((rowsN M).map .mut)) ≤ 2
    simp only [PyData.depthAll, PyData.depth]
    lia
theorem eq_muts (M : List (List Nat)) : cmpV .Eq (mutN M) (mutN M) = some true := by
  show (if (PyData.canLayAll0 (pyL ((rowsN M).map .mut)) && PyData.canLayAll0 (pyL ((rowsN M).map .mut)) && decide ((PyData.list (pyL ((rowsN M).map .mut))).depth < 500)) = true then some (PyData.eqvAll (pyL ((rowsN M).map .mut)) (pyL ((rowsN M).map .mut))) else none) = _
  have h := mutL_depth M
  have hd : (PyData.list (pyL ((rowsN M).map .mut))).depth < 500 := by simp only [PyData.depth]; lia
  rw [mutL_lay, mutL_eqv, decide_eq_true hd]; rfl
theorem figB_sum (n : Nat) : ∀ (m x p : Nat), x < n ^ m → ((List.range m).map fun k => (figB n m x).getD k 0 * n ^ (k + p)).sum = x * n ^ p
  | 0, x, p, h => by have : x = 0 := by simpa using h
                     subst this; simp
  | m + 1, x, p, h => by
    have ih := figB_sum n m (x / n) (p + 1) (Nat.div_lt_of_lt_mul (by rw [Nat.mul_comm]; exact h))
    rw [List.range_succ_eq_map, List.map_cons, List.map_map, List.sum_cons]
    show x % n * n ^ (0 + p) + ((List.range m).map fun k => (figB n m (x / n)).getD k 0 * n ^ (k + 1 + p)).sum = _
    have e : ((List.range m).map fun k => (figB n m (x / n)).getD k 0 * n ^ (k + 1 + p)) = (List.range m).map fun k => (figB n m (x / n)).getD k 0 * n ^ (k + (p + 1)) := List.map_congr_left fun k zq => by rw [show k + 1 + p = k + (p + 1) by lia]
    rw [e, ih, Nat.zero_add, Nat.pow_succ, ← Nat.mul_assoc, Nat.mul_right_comm, ← Nat.add_mul]
    congr 1
    have := Nat.mod_add_div x n
    rw [Nat.mul_comm] at this
    exact this
theorem figB_len (n : Nat) : ∀ m x, (figB n m x).length = m
  | 0, _ => rfl
  | m + 1, x => by unfold figB; rw [List.length_cons, figB_len]
theorem figB_lt {n : Nat} (hn : 0 < n) : ∀ (m x k : Nat), (figB n m x).getD k 0 < n
  | 0, x, k => by unfold figB; simp; exact hn
  | m + 1, x, 0 => Nat.mod_lt _ hn
  | m + 1, x, k + 1 => by
    show (figB n m (x / n)).getD k 0 < n
    exact figB_lt hn m (x / n) k
theorem rev_nats (l : List Nat) (h : l.length < 1000000) : revV (.lst (nats l)) (.int (-1)) = some (.lst (nats l.reverse)) := by
  show (if (-1 : Int) = -1 ∧ (nats l).length < 1000000 then some (AV.lst (nats l).reverse) else none) = _
  rw [if_pos ⟨rfl, by rw [nats_len]; exact h⟩]
  simp [nats, intL]
theorem ap_rev {f h : List Slot → Option AV} {sl : List Slot} {a c r : AV} (hf : Ap f sl = some a) (hh : Ap h sl = some c) (e : revV a c = some r) : Ap (fun sl => (f sl).bind fun a => (h sl).bind fun c => revV a c) sl = some r := by
  show ((Ap f sl).bind fun a => (Ap h sl).bind fun c => revV a c) = _
  rw [hf, Option.bind_some, hh, Option.bind_some, e]
theorem for_then {i : Nat} {fi : List Slot → Option (List AV)} {B : SF} {sl sl1 : List Slot} {xs : List AV} (h : fi sl = some xs) (e : forF i B xs sl = some (.next, sl1)) :
    seqF (fun sl => (fi sl).bind fun xs => forF i B xs sl) (fun sl => some (.next, sl)) sl = some (.next, sl1) := skip_next (for_of h e) rfl
theorem u_body {α β : Type} {c : List Slot → Option AV} {r g0 : SF} {i : Nat} {fi : List Slot → Option (List AV)} {B : SF} {sl : List Slot} {xs : List AV} {st : α → β → List Slot} {R : α → Prop} (hc : Ap c sl = some (.bool false)) (hg : g0 sl = some (.next, sl)) (h : fi sl = some xs)
    (H : ∃ a b, forF i B xs sl = some (.next, st a b) ∧ R a) : ∃ a b, seqF (ifF c r g0) (seqF (fun sl => (fi sl).bind fun xs => forF i B xs sl) (fun sl => some (.next, sl))) sl = some (.next, st a b) ∧ R a := by
  obtain ⟨a, b, e, r⟩ := H
  exact ⟨a, b, skip_false hc hg (for_then h e), r⟩
noncomputable def b3Of : AV → AV
  | .str ⟨⟨[c]⟩⟩ => .str (b3 c)
  | a => a
theorem b3_call (c : Nat) : b3V [.str (txt [c])] = some (.str (b3 c)) := rfl
noncomputable def tab0 (e : D02) : List (List Int) := (walkOf e.n e.ord).map fun u => (walkOf e.n e.ord).map fun v => ((e.X : Int) + (e.D u v : Int))
theorem tab0_inv (e : D02) (h : e.ord.length + 1 = e.n) : TInv e 0 1 1 (tab0 e) := by
  have hl : (walkOf e.n e.ord).length = e.n := by show e.ord.reverse.length + 1 = _; rw [List.length_reverse]; exact h
  refine ⟨⟨by unfold tab0; rw [List.length_map]; exact hl, fun r hr => ?_⟩, fun a b zq zq ha hb => ?_⟩
  · obtain ⟨_, _, rfl⟩ := List.mem_map.mp hr
    rw [List.length_map]; exact hl
  · rw [if_neg (by lia)]
    unfold tab0
    have ga : ∀ {i}, i < e.n → (walkOf e.n e.ord)[i]? = some ((walkOf e.n e.ord).getD i 0) := fun {i} hi => by
      rw [List.getD_eq_getElem?_getD, List.getElem?_eq_getElem (by rw [hl]; exact hi)]; rfl
    rw [List.getD_eq_getElem?_getD, List.getD_eq_getElem?_getD, List.getElem?_map, ga ha]
    rw [Option.map_some, Option.getD_some, List.getElem?_map, ga hb]
    rfl
theorem mulA {a b : Nat} (ha : small (a : Int) = true) (hb : small (b : Int) = true) : augV .Mult (nat a) (nat b) = some (nat (a * b)) := by
  show ((if (small (a : Int) && small (b : Int)) = true then some ((a : Int) * (b : Int)) else none).map AV.int) = _
  rw [if_pos (by rw [ha, hb]; rfl), ← Int.natCast_mul]; rfl
theorem addA (a b : Nat) : augV .Add (nat a) (nat b) = some (nat (a + b)) := rfl
theorem i_body {α β γ δ : Type} {i : Nat} {fi : List Slot → Option (List AV)} {B : SF} {sl : List Slot} {xs : List AV} {st : α → β → γ → δ → List Slot} {R : α → Prop} (h : fi sl = some xs)
    (H : ∃ a b c d, forF i B xs sl = some (.next, st a b c d) ∧ R a) : ∃ a b c d, seqF (fun sl => (fi sl).bind fun xs => forF i B xs sl) (fun sl => some (.next, sl)) sl = some (.next, st a b c d) ∧ R a := by
  obtain ⟨a, b, c, d, e, r⟩ := H
  exact ⟨a, b, c, d, for_then h e, r⟩
noncomputable def KQ (e : D02) (j6 j7 : Slot) (M : List (List Nat)) (u v bk : Slot) (k : Nat) (o : Option (Fl × List Slot)) : Prop :=
  ∃ T' j4' pv' i' j' vl', o = some (.next, Q4 e j4' j6 j7 M u v bk T' (k + 1) (.val (nat k)) pv' i' j' vl') ∧ TInv e (k + 1) (k + 2) (k + 2) T'
theorem kq_skip {e : D02} {j6 j7 : Slot} {M : List (List Nat)} {u v bk : Slot} {k : Nat} {f g : SF} {sl sl1 : List Slot} (h : f sl = some (.next, sl1)) (h2 : KQ e j6 j7 M u v bk k (g sl1)) : KQ e j6 j7 M u v bk k (seqF f g sl) := by
  rw [seqF_next h]; exact h2
theorem kq_false {e : D02} {j6 j7 : Slot} {M : List (List Nat)} {u v bk : Slot} {k : Nat} {c : List Slot → Option AV} {f g h : SF} {sl : List Slot} (hc : Ap c sl = some (.bool false)) (hg : g sl = some (.next, sl)) (h2 : KQ e j6 j7 M u v bk k (h sl)) : KQ e j6 j7 M u v bk k (seqF (ifF c f g) h sl) := by
  rw [skip_false hc hg rfl]; exact h2
theorem kq_for {α β γ δ ε : Type} {e : D02} {j6 j7 : Slot} {M : List (List Nat)} {u v bk : Slot} {k i : Nat} {fi : List Slot → Option (List AV)} {B g : SF} {sl : List Slot} {xs : List AV} {st : α → β → γ → δ → ε → List Slot} {R : α → Prop} (h : fi sl = some xs)
    (H : ∃ a b c d f, forF i B xs sl = some (.next, st a b c d f) ∧ R a) (h2 : ∀ a b c d f, R a → KQ e j6 j7 M u v bk k (g (st a b c d f))) : KQ e j6 j7 M u v bk k (seqF (fun sl => (fi sl).bind fun xs => forF i B xs sl) g sl) := by
  obtain ⟨a, b, c, d, f, e1, r⟩ := H
  rw [seqF_next (for_of h e1)]
  exact h2 a b c d f r
theorem bf_succ (e : D02) (k : Nat) : e.bf (k + 1) = e.P k := if_neg (by lia)
end Mine
end

section
open PySem PySem.W PyProof.Rows
set_option Elab.async false
set_option tactic.hygienic false
set_option maxRecDepth 100000
set_option autoImplicit false
set_option linter.unusedVariables false
namespace Mine
noncomputable abbrev U10 : List Slot := [.unset, .unset, .unset, .unset, .unset, .unset, .unset, .unset, .unset, .unset]
noncomputable abbrev U9 : List Slot := [.unset, .unset, .unset, .unset, .unset, .unset, .unset, .unset, .unset]
noncomputable abbrev U8 : List Slot := [.unset, .unset, .unset, .unset, .unset, .unset, .unset, .unset]
noncomputable abbrev U7 : List Slot := [.unset, .unset, .unset, .unset, .unset, .unset, .unset]
noncomputable abbrev U6 : List Slot := [.unset, .unset, .unset, .unset, .unset, .unset]
noncomputable abbrev U5 : List Slot := [.unset, .unset, .unset, .unset, .unset]
set_option maxHeartbeats 8000000 in
theorem part1 (e : D02) (ok : Ok02 e) : ∃ sl', law_.1 (.scr (intL e.xs) :: .unset :: .unset :: .unset :: U29) = some (.ret (.bool true), sl') := by
  have hl := ok.hl
  have hn : e.n = 4 ∨ e.n = 5 ∨ e.n = 6 := by show 4 + e.d0 % 3 = 4 ∨ 4 + e.d0 % 3 = 5 ∨ 4 + e.d0 % 3 = 6; lia
  simp only [law_, pk]
  refine ex_next (sl1 := .scr (intL e.xs) :: .val (.lst (nats (drawnA e.xs))) :: .unset :: .unset :: U29) (newF_val ((comp_mapG modM (listOf_ap (ap_slice (ap_var rfl) ap_con ap_con (slice_view3 e.xs (by lia)))) (firm_intL _) (by rw [show (intL (e.xs.take 3)).length = (e.xs.take 3).length by simp [intL], List.length_take]; lia) (fun x hx => ?_)).trans (congrArg some (drawnA_eq e.xs))) (firm_intL _) rfl) ?_
  · obtain ⟨i, hi, rfl⟩ := List.mem_map.mp hx
    exact ⟨rfl, ap_bin (ap_var rfl) (ap_bin ap_con ap_con lv_ten6) (mod_int i 1000000 (by decide)), rfl⟩
  refine ex_next (sl1 := .scr (intL e.xs) :: .val (.lst (nats (drawnL e.xs))) :: .unset :: .unset :: U29) (setF_ap (ap_bin (ap_var rfl) (ap_sliceL (ap_list (xs := nats [120, 25, 37]) rfl (by show 3 < 1000000; decide)) (ap_fn (cons_of (ap_var rfl) rfl) (lenV_lst _ (by rw [nats_len]; have := drawn_len e.xs; lia))) ap_con (by rw [nats_len]; exact slice_disp _ (drawn_len e.xs))) (add_natL (drawnA e.xs) _ (by have := drawn_len e.xs; rw [List.length_drop]; show _ + (3 - _) < _; lia))) (firm_intL _) rfl) ?_
  rw [ok.dr]
  have hp : 0 < e.n ^ (e.n - 2) := Nat.pow_pos (by lia)
  have hx : e.x < 1296 := by
    refine Nat.lt_of_lt_of_le (Nat.mod_lt _ hp) ?_
    rcases hn with h | h | h <;> rw [h] <;> decide
  have small_sz : small (e.n : Int) = true := small_nat (by lia)
  refine ex_next (sl1 := .scr (intL e.xs) :: .val (.lst (nats [e.d0, e.d1, e.d2])) :: .val (nat e.n) :: .unset :: U29) (setF_ap (ap_bin ap_con (ap_bin (ap_idx (ap_var rfl) ap_con (idx_lstn [e.d0, e.d1, e.d2] 0 e.d0 (by show 3 < 1000000; decide) rfl)) ap_con (mod_nn e.d0 (b := 3) (by decide))) (add_nn 4 (e.d0 % 3))) rfl rfl) ?_
  refine ex_next (sl1 := Q0 e U29) (setF_ap (ap_bin (ap_bin (ap_idx (ap_var rfl) ap_con (idx_lstn [e.d0, e.d1, e.d2] 0 e.d0 (by show 3 < 1000000; decide) rfl)) ap_con (div_nn e.d0 (b := 3) (by decide) (by decide))) (ap_bin (ap_var rfl) (ap_bin (ap_var rfl) ap_con (sub_nn (a := e.n) (b := 2) (by lia))) (pow_nn small_sz (by lia))) (mod_nn _ hp)) rfl rfl) ?_
  refine ex_next (sl1 := Q0 e (.val (nat e.x) :: .unset :: .unset :: .unset :: U25)) (setF_ap (ap_var rfl) rfl rfl) ?_
  refine ex_next (sl1 := Q0 e (.val (nat e.x) :: .mls (nats []) :: .unset :: .unset :: U25)) (newF_of (i := 5) (l := []) rfl rfl) ?_
  refine Exists.elim (loopR e _ (fun rest row t fig hr hrow => ?_) hx (by lia)) fun j4 HA => HA.elim fun j6 HB => HB.elim fun j7 el => ex_for (xs := nats (List.range (e.n - 2))) ?_ el ?_
  · refine skip_next (unpackF_eq (xs := [nat (rest / e.n), nat (rest % e.n)]) (tupOf_ap (ap_callZ (cons_of (ap_var rfl) (cons_of (ap_var rfl) rfl)) rfl ?_)) rfl) ?_
    · refine (idm_call (a := (rest : Int)) (b := (e.n : Int)) (idm_okN (A := 11) (B := 2) (C := 3) (by rw [Int.natAbs_natCast]; exact Nat.lt_of_lt_of_le hr (by decide)) (by rw [Int.natAbs_natCast]; show 4 ≤ e.n; lia) (by rw [Int.natAbs_natCast]; show e.n < 8; lia) (by decide) (by decide) (by decide))).trans ?_
      rw [Int.fdiv_eq_ediv_of_nonneg _ (by lia), Int.fmod_eq_emod_of_nonneg _ (by lia)]; rfl
    · exact skip_next (append_of (l := row) rfl (ap_var rfl) (by lia)) rfl
  · exact range_of (cons_of (ap_bin (ap_var rfl) ap_con (sub_nn (a := e.n) (b := 2) (by lia))) rfl) (range_nat (e.n - 2) (by lia))
  have T := ok.tree
  have hrl : e.row.length < 1000 := by
    have : ∀ k y, (figB e.n k y).length = k := fun k => by
      induction k with
      | zero => exact fun y => rfl
      | succ k ih => exact fun y => by unfold figB; rw [List.length_cons, ih]
    rw [this]; lia
  refine ex_next (sl1 := Q0 e (j4 :: .mls (nats e.row) :: j6 :: j7 :: .val (.lst (nats e.up)) :: .val (.lst (nats e.ord)) :: U23)) (unpackF_eq (xs := [.lst (nats e.up), .lst (nats e.ord)]) (tupOf_ap (ap_callZ (cons_of (ap_var rfl) (cons_of (ap_var rfl) rfl)) (by show AV.lst (freezeL (nats e.row)) :: _ = _; rw [show freezeL (nats e.row) = nats e.row from freeze_intL _]; rfl) (tree_run e.row e.n e.up e.ord (by lia) (by lia) hrl T.tree))) (putMany2 rfl rfl (firm_intL _) (firm_intL _))) ?_
  clear el HA HB
  have rg : ∀ {t : List Slot}, (fun sl : List Slot => (consV (fun sl => (sl[2]?.bind Slot.read).bind fun a => (some (AV.int 1)).bind fun b => binV .Sub a b) (fun zq => some []) sl).bind rangeV) (Q0 e t) = some (nats (List.range (e.n - 1))) := fun {t} =>
    range_of (cons_of (ap_bin (ap_var rfl) ap_con (sub_nn (a := e.n) (b := 1) (by lia))) rfl) (range_nat (e.n - 1) (by lia))
  have rl : (List.range (e.n - 1)).length < 1000000 := by rw [List.length_range]; lia
  refine ex_next (sl1 := Q0 e (j4 :: .mls (nats e.row) :: j6 :: j7 :: .val (.lst (nats e.up)) :: .val (.lst (nats e.ord)) :: .val (.lst (nats ((List.range (e.n - 1)).map e.s))) :: U22)) (newF_val ((comp_mapN (fun k => nat (e.s k)) rg rl fun k hk => ⟨?_, rfl⟩).trans (congrArg some (nats_map _ _))) (firm_intL _) rfl) ?_
  · have hk := List.mem_range.mp hk
    have h2 : 2 ^ k ≤ 32 := pow5 (by lia)
    exact ap_bin ap_con (ap_bin (ap_bin (ap_idx (ap_var rfl) ap_con (idx_lstn [e.d0, e.d1, e.d2] 1 e.d1 (by show 3 < 1000000; decide) rfl)) (ap_bin ap_con (ap_var rfl) (pow_nn (a := 2) (b := k) (by decide +kernel) (by lia))) (div_nn e.d1 (Nat.two_pow_pos k) (by lia))) ap_con (mod_nn (e.d1 / 2 ^ k) (b := 2) (by decide))) (add_nn 1 _)
  refine ex_next (sl1 := Q0 e (j4 :: .mls (nats e.row) :: j6 :: j7 :: .val (.lst (nats e.up)) :: .val (.lst (nats e.ord)) :: .val (.lst (nats ((List.range (e.n - 1)).map e.s))) :: .val (nat e.st) :: U21)) (setF_ap (ap_bin (ap_bin (ap_idx (ap_var rfl) ap_con (idx_lstn [e.d0, e.d1, e.d2] 1 e.d1 (by show 3 < 1000000; decide) rfl)) ap_con (div_nn e.d1 (b := 64) (by decide) (by decide))) ap_con (mod_nn (e.d1 / 64) (b := 22) (by decide))) rfl rfl) ?_
  have hcap : e.cap ∈ capsL ∧ capsL[e.d2 % 10]? = some e.cap := by
    have hlt : e.d2 % 10 < capsL.length := by show _ < 10; lia
    rw [show e.cap = capsL[e.d2 % 10] by show capsL.getD _ _ = _; rw [List.getD_eq_getElem?_getD, List.getElem?_eq_getElem hlt]; rfl]
    exact ⟨List.getElem_mem hlt, List.getElem?_eq_getElem hlt⟩
  refine ex_next (sl1 := Q0 e (j4 :: .mls (nats e.row) :: j6 :: j7 :: .val (.lst (nats e.up)) :: .val (.lst (nats e.ord)) :: .val (.lst (nats ((List.range (e.n - 1)).map e.s))) :: .val (nat e.st) :: .val (nat e.cap) :: U20)) (setF_ap (ap_idx (ap_list (xs := nats capsL) rfl (by show 10 < 1000000; decide)) (ap_bin (ap_idx (ap_var rfl) ap_con (idx_lstn [e.d0, e.d1, e.d2] 2 e.d2 (by show 3 < 1000000; decide) rfl)) ap_con (mod_nn e.d2 (b := 10) (by decide))) (idx_lstn capsL _ e.cap (by show 10 < 1000000; decide) hcap.2)) rfl rfl) ?_
  refine ex_next (sl1 := Q0 e (j4 :: .mls (nats e.row) :: j6 :: j7 :: .val (.lst (nats e.up)) :: .val (.lst (nats e.ord)) :: .val (.lst (nats ((List.range (e.n - 1)).map e.s))) :: .val (nat e.st) :: .val (nat e.cap) :: .val (nat e.w) :: U19)) (setF_ap (ap_bin ap_con (ap_bin (ap_bin (ap_idx (ap_var rfl) ap_con (idx_lstn [e.d0, e.d1, e.d2] 2 e.d2 (by show 3 < 1000000; decide) rfl)) ap_con (div_nn e.d2 (b := 10) (by decide) (by decide))) ap_con (mod_nn (e.d2 / 10) (b := 12) (by decide))) (add_nn 13 _)) rfl rfl) ?_
  have hst : e.st < 22 := Nat.mod_lt _ (by decide)
  refine ex_next (sl1 := Q0 e (j4 :: .mls (nats e.row) :: j6 :: j7 :: .val (.lst (nats e.up)) :: .val (.lst (nats e.ord)) :: .val (.lst (nats ((List.range (e.n - 1)).map e.s))) :: .val (nat e.st) :: .val (nat e.cap) :: .val (nat e.w) :: .val (.lst e.small) :: U18')) (newF_val (comp_mapN (fun k => AV.str (txt [smL e.st k])) rg rl fun k hk => ⟨?_, rfl⟩) (strs_firm _ _) rfl) ?_
  · have hk := List.mem_range.mp hk
    exact ap_fn (cons_of (ap_bin (ap_bin ap_con (ap_var rfl) (add_nn 97 e.st)) (ap_var rfl) (add_nn _ k)) rfl) (chr_nat (by lia))
  have hN : e.st + (e.n - 1) ≤ 26 := by lia
  have chi : e.cap ≤ 120432 := by
    have : (capsL.all fun d => decide (d ≤ 120432)) = true := by decide
    exact of_decide_eq_true (List.all_eq_true.mp this _ hcap.1)
  have sget : ∀ k, k < e.n - 1 → ((List.range (e.n - 1)).map e.s)[k]? = some (e.s k) := fun k hk => by rw [List.getElem?_map, List.getElem?_range hk]; rfl
  refine ex_next (sl1 := Q0 e (j4 :: .mls (nats e.row) :: j6 :: j7 :: .val (.lst (nats e.up)) :: .val (.lst (nats e.ord)) :: .val (.lst (nats ((List.range (e.n - 1)).map e.s))) :: .val (nat e.st) :: .val (nat e.cap) :: .val (nat e.w) :: .val (.lst e.small) :: .val (.lst e.changed) :: U17)) (newF_val (comp_mapN (fun k => AV.str (txt [chL e.cap e.st e.s k])) rg rl fun k hk => ⟨?_, rfl⟩) (strs_firm _ _) rfl) ?_
  · have hk := List.mem_range.mp hk
    have hit : Ap (iteV (fun sl => (((sl[1]?.bind Slot.read).bind fun a => (sl[0]?.bind Slot.read).bind fun b => idxV a b).bind fun a => (some (AV.int 1)).bind fun b => (cmpV .Eq a b).map AV.bool)) (fun zq => some (AV.int 65)) (fun sl => sl[2]?.bind Slot.read)) [.val (nat k), .val (.lst (nats ((List.range (e.n - 1)).map e.s))), .val (nat e.cap), .val (nat e.st)] = some (nat (if e.s k = 1 then 65 else e.cap)) := by
      have hc := ap_cmp (sl := [.val (nat k), .val (.lst (nats ((List.range (e.n - 1)).map e.s))), .val (nat e.cap), .val (nat e.st)]) (ap_idx (f := fun sl => sl[1]?.bind Slot.read) (g := fun sl => sl[0]?.bind Slot.read) (ap_var rfl) (ap_var rfl) (idx_lstn _ k (e.s k) (by rw [List.length_map]; exact rl) (sget k hk))) (ap_con (v := .int 1)) (eq_natB (e.s k) 1)
      by_cases q : e.s k = 1
      · rw [if_pos q]
        exact ap_ite_t hc (by rw [q]; rfl) ap_con
      · rw [if_neg q]
        exact ap_ite_f hc (by rw [show (e.s k == 1) = false from beq_eq_false_iff_ne.mpr q]; rfl) (ap_var rfl)
    refine ap_fn (cons_of (ap_bin (ap_bin hit (ap_var rfl) (add_nn _ e.st)) (ap_var rfl) (add_nn _ k)) rfl) (chr_nat ?_)
    split <;> lia
  refine ex_next (sl1 := Q0 e (j4 :: .mls (nats e.row) :: j6 :: j7 :: .val (.lst (nats e.up)) :: .val (.lst (nats e.ord)) :: .val (.lst (nats ((List.range (e.n - 1)).map e.s))) :: .val (nat e.st) :: .val (nat e.cap) :: .val (nat e.w) :: .val (.lst e.small) :: .val (.lst e.changed) :: .val (.lst (matL (waysOf e.up e.n))) :: U16)) (newF_val ((comp_mapN (fun u => AV.lst (nats (Ws e.up u))) (range_of (cons_of (ap_var rfl) rfl) (range_nat e.n (by lia))) (by rw [List.length_range]; lia) fun u hu => ⟨?_, firm_intL _⟩).trans (congrArg some (by unfold waysOf; show _ = List.map _ (List.map _ _); rw [List.map_map]; rfl))) (matL_firm _) rfl) ?_
  · have hu := List.mem_range.mp hu
    exact ap_callZ (cons_of (ap_var rfl) (cons_of (ap_var rfl) rfl)) (by show AV.lst (freezeL (nats e.up)) :: _ = _; rw [show freezeL (nats e.up) = nats e.up from freeze_intL _]; rfl) (way_run e.up u (Ws e.up u) (by rw [T.upl]; lia) (T.way u hu))
  have wl : (waysOf e.up e.n).length = e.n := by unfold waysOf; rw [List.length_map, List.length_range]
  refine ex_next (sl1 := Q1 e j4 j6 j7 U15) (newF_val (comp_mapL (fun W => AV.str (txt (textOf e.cap e.st e.s (e.n - 1) W))) (listOf_ap (ap_var rfl)) (by rw [wl]; lia) fun W hW => ⟨?_, rfl⟩) (strs_firm _ _) rfl) ?_
  · have jn := join_chars (textOf e.cap e.st e.s (e.n - 1) W) (by rw [text_len]; lia)
    refine ap_join ap_con (ap_comp ((comp_mapN (fun k => AV.str (txt [letL e.cap e.st e.s (decide (k ∈ W)) k])) (range_of (cons_of (ap_bin (ap_var rfl) ap_con (sub_nn (a := e.n) (b := 1) (by lia))) rfl) (range_nat (e.n - 1) (by lia))) rl fun k hk => ⟨?_, rfl⟩).trans (congrArg some (by unfold textOf; rw [List.map_map]; rfl)))) jn
    have hk := List.mem_range.mp hk
    have g1 : e.small[k]? = some (.str (txt [smL e.st k])) := by rw [List.getElem?_map, List.getElem?_range hk]; rfl
    have g2 : e.changed[k]? = some (.str (txt [chL e.cap e.st e.s k])) := by rw [List.getElem?_map, List.getElem?_range hk]; rfl
    have ll : ∀ f : Nat → AV, ((List.range (e.n - 1)).map f).length < 1000000 := fun f => by rw [List.length_map]; exact rl
    unfold letL
    by_cases q : k ∈ W
    · rw [decide_eq_true q, if_pos rfl]
      exact ap_ite_t (ap_cmp (ap_var rfl) (ap_var rfl) ((in_nats k W).trans (by rw [decide_eq_true q]))) rfl (ap_idx (ap_var rfl) (ap_var rfl) (idx_lst e.changed k _ (ll _) g2))
    · rw [decide_eq_false q, if_neg (by decide)]
      exact ap_ite_f (ap_cmp (ap_var rfl) (ap_var rfl) ((in_nats k W).trans (by rw [decide_eq_false q]))) rfl (ap_idx (ap_var rfl) (ap_var rfl) (idx_lst e.small k _ (ll _) g1))
  have n6 : e.n ≤ 6 := by lia
  have n4 : 4 ≤ e.n := by lia
  have s12 : ∀ k, e.s k = 1 ∨ e.s k = 2 := fun k => by unfold D02.s; lia
  have s1 : ∀ k, 1 ≤ e.s k := fun k => by have := s12 k; lia
  have s2 : ∀ k, e.s k ≤ 2 := fun k => by have := s12 k; lia
  refine ex_next (sl1 := Q1 e j4 j6 j7 (.mgr (rowsN (zeroM e.n)) :: U14)) (newF_mgr (xs := matL (zeroM e.n)) ((comp_mapN (fun zq => AV.lst (nats (List.replicate e.n 0))) (range_of (cons_of (ap_var rfl) rfl) (range_nat e.n (by lia))) (by rw [List.length_range]; lia) fun k hk => ⟨ap_rep (ap_list (xs := nats [0]) rfl (by show 1 < 1000000; decide)) (ap_var rfl) (rep_nats 0 e.n (by lia)), firm_intL _⟩).trans (congrArg some (by unfold zeroM; show _ = List.map _ (List.map _ _); rw [List.map_map]; rfl))) (matL_firm _) (rowsOf_N _) rfl) ?_
  refine ex_next (sl1 := Q2 e j4 j6 j7 (zeroM e.n) (zeroM e.n) U13) (newF_mgr (xs := matL (zeroM e.n)) ((comp_mapN (fun zq => AV.lst (nats (List.replicate e.n 0))) (range_of (cons_of (ap_var rfl) rfl) (range_nat e.n (by lia))) (by rw [List.length_range]; lia) fun k hk => ⟨ap_rep (ap_list (xs := nats [0]) rfl (by show 1 < 1000000; decide)) (ap_var rfl) (rep_nats 0 e.n (by lia)), firm_intL _⟩).trans (congrArg some (by unfold zeroM; show _ = List.map _ (List.map _ _); rw [List.map_map]; rfl))) (matL_firm _) (rowsOf_N _) rfl) ?_
  have tg : ∀ i, i < e.n → e.texts[i]? = some (.str (txt (textOf e.cap e.st e.s (e.n - 1) (Ws e.up i)))) := fun i hi => by rw [List.getElem?_map, ways_get hi]; rfl
  have tl : e.texts.length < 1000000 := by rw [List.length_map, wl]; lia
  have wg : ∀ i, i < e.n → (matL (waysOf e.up e.n))[i]? = some (.lst (nats (Ws e.up i))) := fun i hi => by rw [List.getElem?_map, ways_get hi]; rfl
  have mwl : (matL (waysOf e.up e.n)).length < 1000000 := by rw [List.length_map, wl]; lia
  refine Exists.elim (loopU e j4 j6 j7 _ (fun M u s hu hM => ?_)) fun M HA => HA.elim fun su HB => HB.elim fun sv HC => ex_for (xs := nats (List.range e.n)) ?_ HC.1 ?_
  · refine u_body (st := fun M' s' => Q2 e j4 j6 j7 M' M' (.val (nat u) :: s' :: U11)) (R := MInv e (u + 1) 0) ?_ rfl (range_of (cons_of (ap_var rfl) rfl) (range_nat u (by lia))) (loopV e j4 j6 j7 _ hu (fun M v hv sq => ?_) M hM s)
    rotate_left
    · have hv' : v < e.n := by lia
      have sq1 := setM_sq sq v (e.D u v) hu
      have sq2 := setM_sq sq1 u (e.D u v) hv'
      have m1 : mat (setM M u v (e.D u v)) u v = e.D u v := by rw [mat_set sq _ hu hv', if_pos ⟨rfl, rfl⟩]
      refine skip_next (sl1 := Q2 e j4 j6 j7 (setM M u v (e.D u v)) M (.val (nat u) :: .val (nat v) :: U11)) ((setItem2_of (rows := rowsN M) (row := nats (M.getD u [])) (a := u) (b := v) (v := nat (e.D u v)) rfl (ap_var rfl) (ap_var rfl) ?_ rfl (rows_get nats (by rw [sq.1]; exact hu)) (by rw [nats_len, sq.row hu]; exact hv') (by lia) (by rw [nats_len, sq.row hu]; lia)).trans (by rw [rowsN_set]; rfl)) ?_
      · exact ap_callZ (cons_of (ap_idx (ap_var rfl) (ap_var rfl) (idx_lst e.texts u _ tl (tg u hu))) (cons_of (ap_idx (ap_var rfl) (ap_var rfl) (idx_lst e.texts v _ tl (tg v hv'))) (cons_of (ap_bin ap_con (ap_var rfl) (mul_nn (a := 2) (b := e.n) (by decide +kernel) small_sz)) rfl))) rfl (lev_text hcap.1 s12 hN (by lia) (Ws e.up u) (Ws e.up v) (2 * e.n) (by lia))
      refine skip_next (sl1 := Q2 e j4 j6 j7 (setM (setM M u v (e.D u v)) v u (e.D u v)) M (.val (nat u) :: .val (nat v) :: U11)) ((setItem2_of (rows := rowsN (setM M u v (e.D u v))) (row := nats ((setM M u v (e.D u v)).getD v [])) (a := v) (b := u) (v := nat (e.D u v)) rfl (ap_var rfl) (ap_var rfl) ?_ rfl (rows_get nats (by rw [sq1.1]; exact hv')) (by rw [nats_len, sq1.row hv']; exact hu) (by lia) (by rw [nats_len, sq1.row hv']; lia)).trans (by rw [rowsN_set]; rfl)) ?_
      · exact (ap_mut sq1 (by lia) (ap_var rfl) (ap_var rfl) (ap_var rfl) hu hv').trans (by rw [m1])
      refine skip_next (sl1 := Q2 e j4 j6 j7 (setM (setM M u v (e.D u v)) v u (e.D u v)) (setM M u v (e.D u v)) (.val (nat u) :: .val (nat v) :: U11)) ((setItem2_of (rows := rowsN M) (row := nats (M.getD u [])) (a := u) (b := v) (v := nat (e.D u v)) rfl (ap_var rfl) (ap_var rfl) ?_ rfl (rows_get nats (by rw [sq.1]; exact hu)) (by rw [nats_len, sq.row hu]; exact hv') (by lia) (by rw [nats_len, sq.row hu]; lia)).trans (by rw [rowsN_set]; rfl)) ?_
      · refine ap_fn (cons_of (ap_comp (comp_fm (fun k => decide (k ∈ Ws e.up u) ^^ decide (k ∈ Ws e.up v)) e.s (range_of (cons_of (ap_bin (ap_var rfl) ap_con (sub_nn (a := e.n) (b := 1) (by lia))) rfl) (range_nat (e.n - 1) (by lia))) rl fun k hk => ⟨?_, fun zq => ?_⟩)) rfl) ((sum_nats _).trans ?_)
        · exact ap_cmp (ap_cmp (ap_var rfl) (ap_idx (ap_var rfl) (ap_var rfl) (idx_lst _ u _ mwl (wg u hu))) (in_nats k (Ws e.up u))) (ap_cmp (ap_var rfl) (ap_idx (ap_var rfl) (ap_var rfl) (idx_lst _ v _ mwl (wg v hv'))) (in_nats k (Ws e.up v))) (neq_bool _ _)
        · exact ap_idx (ap_var rfl) (ap_var rfl) (idx_lstn _ k (e.s k) (by rw [List.length_map]; exact rl) (sget k (List.mem_range.mp hk)))
        · rw [sum_pick]
          exact congrArg (fun y => some (nat y)) (sumTo_congr fun k zq => (wd_eq e.s (Ws e.up u) (Ws e.up v) k).symm)
      refine skip_next (sl1 := Q2 e j4 j6 j7 (setM (setM M u v (e.D u v)) v u (e.D u v)) (setM (setM M u v (e.D u v)) v u (e.D u v)) (.val (nat u) :: .val (nat v) :: U11)) ((setItem2_of (rows := rowsN (setM M u v (e.D u v))) (row := nats ((setM M u v (e.D u v)).getD v [])) (a := v) (b := u) (v := nat (e.D u v)) rfl (ap_var rfl) (ap_var rfl) ?_ rfl (rows_get nats (by rw [sq1.1]; exact hv')) (by rw [nats_len, sq1.row hv']; exact hu) (by lia) (by rw [nats_len, sq1.row hv']; lia)).trans (by rw [rowsN_set]; rfl)) rfl
      exact (ap_mut sq1 (by lia) (ap_var rfl) (ap_var rfl) (ap_var rfl) hu hv').trans (by rw [m1])
    · have hs : e.small = ((List.range (e.n - 1)).map fun k => txt [smL e.st k]).map AV.str := by show _ = List.map _ (List.map _ _); rw [List.map_map]; rfl
      have hb := b3_text hcap.1 e.s hN (Ws e.up u)
      have hb2 : ((textOf e.cap e.st e.s (e.n - 1) (Ws e.up u)).map fun c => AV.str (txt [c])).map b3Of = e.small := by
        rw [hs, ← hb, List.map_map, List.map_map]; rfl
      have hq : cmpV .NotEq (.lst e.small) (.lst e.small) = some false := by
        rw [hs]
        refine neq_strs _ fun x hx => ?_
        obtain ⟨k, hk, rfl⟩ := List.mem_map.mp hx
        have := List.mem_range.mp hk
        have h3 : smL e.st k < 0x110000 := by unfold smL; lia
        show (#[smL e.st k] : Array Nat).all (· < 0x110000) = true
        simp [h3]
      refine (ap_cmp (ap_comp ((comp_mapG b3Of ((strOf_ap (ap_idx (ap_var rfl) (ap_var rfl) (idx_lst e.texts u _ tl (tg u hu)))).trans (congrArg some (signs_txt _))) (strs_firm _ _) (by rw [List.length_map, text_len]; lia) fun x hx => ?_).trans (congrArg some hb2))) (ap_var rfl) hq)
      · obtain ⟨c, _, rfl⟩ := List.mem_map.mp hx
        exact ⟨rfl, ap_callZ (cons_of (ap_var rfl) rfl) rfl (b3_call c), rfl⟩
  · exact range_of (cons_of (ap_var rfl) rfl) (range_nat e.n (by lia))
  have hD := HC.2
  clear HC HB HA
  have hDat : ∀ u v, u < e.n → v < e.n → mat M u v = e.D u v := fun u v hu hv => hD.at_ u v hu hv
  refine ex_next (sl1 := Q2 e j4 j6 j7 M M (su :: sv :: .val (.lst (nats e.row)) :: U10)) (setF_ap (ap_callZ (cons_of (ap_var rfl) rfl) (mut_freeze M) (back_run hD.sq (by lia) (by lia) (T.near s1 hD))) (firm_intL _) rfl) ?_
  have hrow : e.row.length = e.n - 2 := figB_len _ _ _
  have hsum : ((List.range e.row.length).map fun k => e.row.getD k 0 * e.n ^ k).sum = e.x := by
    rw [hrow]
    have := figB_sum e.n (e.n - 2) e.x 0 (Nat.mod_lt _ hp)
    simpa using this
  refine ex_falseA (ap_cmp (ap_fn (cons_of (ap_comp ((comp_mapN (fun k => nat (e.row.getD k 0 * e.n ^ k)) (range_of (cons_of (ap_fn (cons_of (ap_var rfl) rfl) ((lenV_lst _ (by rw [nats_len]; lia)).trans (by rw [nats_len]))) rfl) (range_nat e.row.length (by lia))) (by rw [List.length_range]; lia) fun k hk => ⟨?_, rfl⟩).trans (congrArg some (nats_map _ _)))) rfl) ((sum_nats _).trans (by rw [hsum]))) (ap_var rfl) (neq_natB e.x e.x)) (by rw [beq_self_eq_true]; rfl) rfl ?_
  · have hk := List.mem_range.mp hk
    have h1 : e.row.getD k 0 < e.n := figB_lt (by lia) _ _ _
    have h2 : e.n ^ k < 10000000 := by
      refine Nat.lt_of_le_of_lt (Nat.pow_le_pow_left n6 k) (Nat.lt_of_le_of_lt (Nat.pow_le_pow_right (n := 6) (by decide) (show k ≤ 4 by lia)) (by decide))
    exact ap_bin (ap_idx (ap_var rfl) (ap_var rfl) (idx_lstn _ k _ (by lia) (getD_get hk))) (ap_bin (ap_var rfl) (ap_var rfl) (pow_nn small_sz (by lia))) (mul_nn (small_nat (by lia)) (small_nat h2))
  have hol : e.ord.length + 1 = e.n := T.ordl
  refine ex_next (sl1 := Q2 e j4 j6 j7 M M (su :: sv :: .val (.lst (nats e.row)) :: .val (.lst (nats (walkOf e.n e.ord))) :: U9)) (setF_ap (ap_bin (ap_list (xs := nats [e.n - 1]) (cons_of (ap_bin (ap_var rfl) ap_con (sub_nn (a := e.n) (b := 1) (by lia))) rfl) (by show 1 < 1000000; decide)) (ap_rev (ap_var rfl) (ap_un ap_con rfl) (rev_nats e.ord (by lia))) (add_natL [e.n - 1] e.ord.reverse (by rw [List.length_reverse]; show 1 + _ < _; lia))) (firm_intL _) rfl) ?_
  have hwl : (walkOf e.n e.ord).length = e.n := by show e.ord.reverse.length + 1 = _; rw [List.length_reverse]; exact hol
  have hwm : ∀ u ∈ walkOf e.n e.ord, u < e.n := fun u hu => by
    obtain ⟨i, hi, rfl⟩ := List.getElem_of_mem hu
    have := T.walk_lt (i := i) (by lia)
    rw [List.getD_eq_getElem?_getD, List.getElem?_eq_getElem hi] at this
    exact this
  refine ex_next (sl1 := Q2 e j4 j6 j7 M M (su :: sv :: .val (.lst (nats e.row)) :: .val (.lst (nats (walkOf e.n e.ord))) :: .mgr (rowsI (tab0 e)) :: U8)) (newF_mgr (xs := matI (tab0 e)) ((comp_mapN (fun u => AV.lst (intL ((walkOf e.n e.ord).map fun v => ((e.X : Int) + (e.D u v : Int))))) (listOf_ap (ap_var rfl)) (by rw [hwl]; lia) fun u hu => ⟨ap_comp ((comp_mapN (fun v => AV.int ((e.X : Int) + (e.D u v : Int))) (listOf_ap (ap_var rfl)) (by rw [hwl]; lia) fun v hv => ⟨?_, rfl⟩).trans (congrArg some (by show _ = List.map _ (List.map _ _); rw [List.map_map]; rfl))), firm_intL _⟩).trans (congrArg some (by unfold tab0; show _ = List.map _ (List.map _ _); rw [List.map_map]; rfl))) (matI_firm _) (rowsOf_I _) rfl) ?_
  · exact ap_bin (ap_bin ap_con (ap_var rfl) (pow_nn (a := 2) (b := e.w) (by decide +kernel) (by lia))) ((ap_mut hD.sq (by lia) (ap_var rfl) (ap_var rfl) (ap_var rfl) (hwm u hu) (hwm v hv)).trans (by rw [hDat u v (hwm u hu) (hwm v hv)])) (add_int _ _)
  refine ex_next (sl1 := Q2 e j4 j6 j7 M M (su :: sv :: .val (.lst (nats e.row)) :: .val (.lst (nats (walkOf e.n e.ord))) :: .mgr (rowsI (tab0 e)) :: .val (.int 1) :: U7)) (setF_ap ap_con rfl rfl) ?_
  refine ex_next (sl1 := Q2 e j4 j6 j7 M M (su :: sv :: .val (.lst (nats e.row)) :: .val (.lst (nats (walkOf e.n e.ord))) :: .mgr (rowsI (tab0 e)) :: .val (.int 1) :: .val (.int 1) :: U6)) (setF_ap ap_con rfl rfl) ?_
  refine ex_next (sl1 := Q4 e j4 j6 j7 M su sv (.val (.lst (nats e.row))) (tab0 e) 0 .unset .unset .unset .unset .unset) (setF_ap ap_con rfl rfl) ?_
  have hX : 2 ^ 13 ≤ e.X := Nat.pow_le_pow_right (by decide) (by lia)
  have hX' : e.X ≤ 2 ^ 24 := Nat.pow_le_pow_right (by decide) (by lia)
  refine Exists.elim (loopK e j6 j7 M su sv (.val (.lst (nats e.row))) _ (fun T' k j4 pv i j vl hk hT => ?_) (tab0 e) j4 .unset .unset .unset .unset .unset (tab0_inv e hol)) fun T' H => H.elim fun j4' H => H.elim fun kk' H => H.elim fun pv' H => H.elim fun i' H => H.elim fun j' H => H.elim fun vl' H => ex_for (xs := nats (List.range e.n)) ?_ H ?_
  rotate_left
  · exact range_of (cons_of (ap_var rfl) rfl) (range_nat e.n (by lia))
  · exact ret_ap (ap_flat rfl (ap_cmp (ap_var rfl) (ap_var rfl) (eq_muts M)))
  · obtain ⟨lo1, hi1, hi0⟩ := low_lt (p := pw e.ord) s1 s2 (show k ≤ 5 by lia)
    obtain ⟨pr1, pr2, ln2⟩ := prod_le (p := pw e.ord) s1 s2 k
    have p5 := pow5 (show k ≤ 5 by lia)
    have hpiv := T.piv e.s e.X hk
    have hPn := piv_num e.s (pw e.ord) e.X k
    have hb := pp_bounds s1 s2 e.ord hX hX' (show k ≤ 5 by lia)
    show KQ e j6 j7 M su sv (.val (.lst (nats e.row))) k _
    refine kq_skip (sl1 := Q3 e j4 j6 j7 M su sv (.val (.lst (nats e.row))) T' (.val (.int (e.bf k))) (.val (nat (prodS e.s (pw e.ord) k))) (.val (nat (lenS e.s (pw e.ord) k))) (.val (nat k)) pv i j vl) ?_ ?_
    · cases k with
      | zero => exact (ifF_falseA (ap_cmp (ap_var rfl) ap_con (gt_nat 0 0)) rfl).trans rfl
      | succ t =>
        have ht : t < e.n - 1 := by lia
        have hpt := T.elimOk.lt t ht
        obtain ⟨q1, q2, q3⟩ := prod_le (p := pw e.ord) s1 s2 t
        have p5t := pow5 (show t ≤ 5 by lia)
        have wk : (walkOf e.n e.ord)[t + 1]? = some (pw e.ord t) := getD_get (l := walkOf e.n e.ord) (by rw [hwl]; lia)
        have st : ∀ {sl : List Slot}, sl[10]? = some (.val (.lst (nats ((List.range (e.n - 1)).map e.s)))) → sl[23]? = some (.val (.lst (nats (walkOf e.n e.ord)))) → sl[28]? = some (.val (nat (t + 1))) → Ap (fun sl => (sl[10]?.bind Slot.read).bind fun a => ((sl[23]?.bind Slot.read).bind fun a => (sl[28]?.bind Slot.read).bind fun b => idxV a b).bind fun b => idxV a b) sl = some (nat (e.s (pw e.ord t))) := fun {sl} h1 h2 h3 =>
          ap_idx (ap_var (by rw [h1]; rfl)) (ap_idx (ap_var (by rw [h2]; rfl)) (ap_var (by rw [h3]; rfl)) (idx_lstn _ (t + 1) _ (by lia) wk)) (idx_lstn _ _ _ (by rw [List.length_map]; exact rl) (sget _ hpt))
        refine (ifF_trueA (ap_cmp (ap_var rfl) ap_con (gt_nat (t + 1) 0)) (by rw [decide_eq_true (Nat.succ_pos t)]; rfl)).trans ?_
        refine skip_next (aug_ap (a := nat (prodS e.s (pw e.ord) t)) rfl (st rfl rfl rfl) (mulA (small_nat (by lia)) (small_nat (by have := s2 (pw e.ord t); lia)))) ?_
        exact skip_next (aug_ap (a := nat (lenS e.s (pw e.ord) t)) rfl (st rfl rfl rfl) (addA _ _)) rfl
    have pk : (T'.getD k []).getD k 0 = e.P k := by rw [hT.at_ k k (Nat.le_refl _) (Nat.le_refl _) hk hk, if_neg (by lia)]; exact hpiv
    refine kq_skip (sl1 := Q3 e j4 j6 j7 M su sv (.val (.lst (nats e.row))) T' (.val (.int (e.bf k))) (.val (nat (prodS e.s (pw e.ord) k))) (.val (nat (lenS e.s (pw e.ord) k))) (.val (nat k)) (.val (.int (e.P k))) i j vl) (setF_ap ((ap_tab hT.sq (by lia) (ap_var rfl) (ap_var rfl) (ap_var rfl) hk hk).trans (by rw [pk])) rfl rfl) ?_
    have hpos : 1 ≤ lowD e.s (pw e.ord) k + highD e.s (pw e.ord) k * e.X := by
      have := Nat.mul_le_mul hi0 hX
      have e13 : (2 : Nat) ^ 13 = 8192 := by decide
      lia
    have hPn' : e.P k = (if k % 2 = 1 then -1 else 1) * ((lowD e.s (pw e.ord) k + highD e.s (pw e.ord) k * e.X : Nat) : Int) := hPn
    refine kq_false ?_ rfl ?_
    · have habs : absV [.int (e.P k)] = some (nat (lowD e.s (pw e.ord) k + highD e.s (pw e.ord) k * e.X)) := by
        show some (AV.int (if e.P k < 0 then -e.P k else e.P k)) = some (AV.int _)
        rw [hPn']
        generalize lowD e.s (pw e.ord) k + highD e.s (pw e.ord) k * e.X = z at *
        by_cases q : k % 2 = 1
        · rw [if_pos q, Int.neg_one_mul, if_pos (by lia), Int.neg_neg]
        · rw [if_neg q, Int.one_mul, if_neg (by lia)]
      have hw13 : 2 ^ 13 ≤ 2 ^ e.w := hX
      have e13 : (2 : Nat) ^ 13 = 8192 := by decide
      have hdig : i2dV [nat (lowD e.s (pw e.ord) k + highD e.s (pw e.ord) k * e.X), nat e.w] = some (.lst (nats [lowD e.s (pw e.ord) k, highD e.s (pw e.ord) k])) := i2d_two (by lia) (by lia) hi0 (by lia) (by lia)
      have sp : small ((prodS e.s (pw e.ord) k : Nat) : Int) = true := small_nat (by lia)
      have sl' : small ((lenS e.s (pw e.ord) k : Nat) : Int) = true := small_nat (by lia)
      have s2k : small ((2 ^ k : Nat) : Int) = true := small_nat (by lia)
      have hpl : prodS e.s (pw e.ord) k * lenS e.s (pw e.ord) k ≤ 32 * 10 := Nat.mul_le_mul (by lia) (by lia)
      have pw2 : binV .Pow (.int 2) (nat k) = some (nat (2 ^ k)) := pow_nn (a := 2) (b := k) (by decide +kernel) (by lia)
      refine ap_cmp (ap_callZ (cons_of (ap_fn (cons_of (ap_var rfl) rfl) habs) (cons_of (ap_var rfl) rfl)) rfl hdig) (ap_list (xs := nats [lowD e.s (pw e.ord) k, highD e.s (pw e.ord) k]) (cons_of (ap_bin (ap_bin (ap_bin (ap_var rfl) (ap_var rfl) (mul_nn sp sl')) (ap_bin ap_con (ap_var rfl) pw2) (mul_nn (small_nat (by lia)) s2k)) ap_con (div_nn (prodS e.s (pw e.ord) k * lenS e.s (pw e.ord) k * 2 ^ k) (b := 2) (by decide) (by decide))) (cons_of (ap_bin (ap_var rfl) (ap_bin ap_con (ap_var rfl) pw2) (mul_nn sp s2k)) rfl)) (by show 2 < 1000000; decide)) (neq_ints _)
    refine kq_false ?_ rfl ?_
    · have hsg : (decide (e.P k < 0) ^^ (k % 2 == 1)) = false := by
        rw [hPn']
        generalize lowD e.s (pw e.ord) k + highD e.s (pw e.ord) k * e.X = z at *
        by_cases q : k % 2 = 1
        · rw [if_pos q, Int.neg_one_mul, decide_eq_true (by lia), q]; rfl
        · rw [if_neg q, Int.one_mul, decide_eq_false (by lia), beq_eq_false_iff_ne.mpr q]; rfl
      exact ap_cmp (ap_cmp (ap_var rfl) ap_con (lt_int (e.P k) 0)) (ap_cmp (ap_bin (ap_var rfl) ap_con (mod_nn k (b := 2) (by decide))) ap_con (eq_natB (k % 2) 1)) ((neq_bool _ _).trans (by rw [hsg]))
    have rg2 : ∀ {t : List Slot}, t[28]? = some (.val (nat k)) → t[2]? = some (.val (nat e.n)) → (consV (fun sl => (sl[28]?.bind Slot.read).bind fun a => (some (AV.int 1)).bind fun b => binV .Add a b) (consV (fun sl => sl[2]?.bind Slot.read) fun zq => some []) t).bind rangeV = some (nats (List.range' (k + 1) (e.n - (k + 1)))) := fun {t} h1 h2 =>
      range_of (f := consV (fun sl => (sl[28]?.bind Slot.read).bind fun a => (some (AV.int 1)).bind fun b => binV .Add a b) (consV (fun sl => sl[2]?.bind Slot.read) fun zq => some [])) (cons_of (ap_bin (ap_var (by rw [h1]; rfl)) ap_con (add_nn k 1)) (cons_of (ap_var (by rw [h2]; rfl)) rfl)) (range2_nat (k + 1) e.n (by lia) (by lia))
    refine kq_for (st := fun T' j4' si' sj' vl' => Q3 e j4' j6 j7 M su sv (.val (.lst (nats e.row))) T' (.val (.int (e.bf k))) (.val (nat (prodS e.s (pw e.ord) k))) (.val (nat (lenS e.s (pw e.ord) k))) (.val (nat k)) (.val (.int (e.P k))) si' sj' vl') (R := TInv e (k + 1) (k + 2) (k + 2)) (rg2 rfl rfl)
      (loopI e j6 j7 M su sv (.val (.lst (nats e.row))) (.val (.int (e.bf k))) (.val (nat (prodS e.s (pw e.ord) k))) (.val (nat (lenS e.s (pw e.ord) k))) (.val (nat k)) (.val (.int (e.P k))) hk _ (fun T2 i j4 sj vl hT2 hi hi' => ?_) T' j4 i j vl hT) (fun T2 j4' si' sj' vl' h2 => ?_)
    rotate_left
    · have hq : Q4 e j4' j6 j7 M su sv (.val (.lst (nats e.row))) T2 (k + 1) (.val (nat k)) (.val (.int (e.P k))) si' sj' vl' = Q3 e j4' j6 j7 M su sv (.val (.lst (nats e.row))) T2 (.val (.int (e.P k))) (.val (nat (prodS e.s (pw e.ord) k))) (.val (nat (lenS e.s (pw e.ord) k))) (.val (nat k)) (.val (.int (e.P k))) si' sj' vl' := by
        show Q3 e j4' j6 j7 M su sv (.val (.lst (nats e.row))) T2 (.val (.int (e.bf (k + 1)))) (.val (nat (prodS e.s (pw e.ord) k))) (.val (nat (lenS e.s (pw e.ord) k))) (.val (nat k)) (.val (.int (e.P k))) si' sj' vl' = _
        rw [bf_succ]
      exact ⟨T2, j4', _, si', sj', vl', (skip_next (setF_ap (ap_var rfl) rfl rfl) rfl).trans (congrArg (fun s => some (Fl.next, s)) hq.symm), h2⟩
    · refine i_body (st := fun T' j4' sj' vl' => Q3 e j4' j6 j7 M su sv (.val (.lst (nats e.row))) T' (.val (.int (e.bf k))) (.val (nat (prodS e.s (pw e.ord) k))) (.val (nat (lenS e.s (pw e.ord) k))) (.val (nat k)) (.val (.int (e.P k))) (.val (nat i)) sj' vl') (R := TInv e k (i + 1) (k + 1)) (rg2 rfl rfl)
        (loopJ e j6 j7 M su sv (.val (.lst (nats e.row))) (.val (.int (e.bf k))) (.val (nat (prodS e.s (pw e.ord) k))) (.val (nat (lenS e.s (pw e.ord) k))) (.val (nat k)) (.val (.int (e.P k))) hi hi' _ (fun T3 j j4 vl hT3 hj hj' => ?_) T2 j4 sj vl hT2)
      have bV : ∀ a b, (e.V k a b).natAbs < 2 ^ 40 := fun a b => vv_bound s1 s2 n6 e.up e.ord hX hX' (by lia) a b
      have sV : ∀ a b, Mine.small (e.V k a b) = true := fun a b => small_abs (bV a b) (by decide)
      have sP : Mine.small (e.P k) = true := small_abs hb.2 (by decide)
      have tij : (T3.getD i []).getD j 0 = e.V k i j := by rw [hT3.at_ i j (by lia) (by lia) hi' hj', if_neg (by lia)]
      have tik : (T3.getD i []).getD k 0 = e.V k i k := by rw [hT3.at_ i k (by lia) (by lia) hi' hk, if_neg (by lia)]
      have tkj : (T3.getD k []).getD j 0 = e.V k k j := by rw [hT3.at_ k j (by lia) (by lia) hk hj', if_neg (by lia)]
      have hnum : ∀ {vl : Slot}, setF 32 (fun sl => ((sl[29]?.bind Slot.read).bind fun a => (((sl[24]?.bind Slot.read).bind fun a => (sl[30]?.bind Slot.read).bind fun b => idxV a b).bind fun a => (sl[31]?.bind Slot.read).bind fun b => idxV a b).bind fun b => binV .Mult a b).bind fun a =>
          ((((sl[24]?.bind Slot.read).bind fun a => (sl[30]?.bind Slot.read).bind fun b => idxV a b).bind fun a => (sl[28]?.bind Slot.read).bind fun b => idxV a b).bind fun a => (((sl[24]?.bind Slot.read).bind fun a => (sl[28]?.bind Slot.read).bind fun b => idxV a b).bind fun a => (sl[31]?.bind Slot.read).bind fun b => idxV a b).bind fun b => binV .Mult a b).bind fun b => binV .Sub a b)
          (Q3 e j4 j6 j7 M su sv (.val (.lst (nats e.row))) T3 (.val (.int (e.bf k))) (.val (nat (prodS e.s (pw e.ord) k))) (.val (nat (lenS e.s (pw e.ord) k))) (.val (nat k)) (.val (.int (e.P k))) (.val (nat i)) (.val (nat j)) vl) =
          some (.next, Q3 e j4 j6 j7 M su sv (.val (.lst (nats e.row))) T3 (.val (.int (e.bf k))) (.val (nat (prodS e.s (pw e.ord) k))) (.val (nat (lenS e.s (pw e.ord) k))) (.val (nat k)) (.val (.int (e.P k))) (.val (nat i)) (.val (nat j)) (.val (.int (e.P k * e.V k i j - e.V k i k * e.V k k j)))) := fun {vl} =>
        setF_ap (ap_bin (ap_bin (ap_var rfl) ((ap_tab hT3.sq (by lia) (ap_var rfl) (ap_var rfl) (ap_var rfl) hi' hj').trans (by rw [tij])) (mul_int _ _ sP (sV i j))) (ap_bin ((ap_tab hT3.sq (by lia) (ap_var rfl) (ap_var rfl) (ap_var rfl) hi' hk).trans (by rw [tik])) ((ap_tab hT3.sq (by lia) (ap_var rfl) (ap_var rfl) (ap_var rfl) hk hj').trans (by rw [tkj])) (mul_int _ _ (sV i k) (sV k j))) (sub_int _ _)) rfl rfl
      have set2 : ∀ (jx : Slot) (v : Int), setItem2F 24 (fun sl => sl[30]?.bind Slot.read) (fun sl => sl[31]?.bind Slot.read) (fun sl => sl[32]?.bind Slot.read) (Q3 e jx j6 j7 M su sv (.val (.lst (nats e.row))) T3 (.val (.int (e.bf k))) (.val (nat (prodS e.s (pw e.ord) k))) (.val (nat (lenS e.s (pw e.ord) k))) (.val (nat k)) (.val (.int (e.P k))) (.val (nat i)) (.val (nat j)) (.val (.int v))) = some (.next, Q3 e jx j6 j7 M su sv (.val (.lst (nats e.row))) (setM T3 i j v) (.val (.int (e.bf k))) (.val (nat (prodS e.s (pw e.ord) k))) (.val (nat (lenS e.s (pw e.ord) k))) (.val (nat k)) (.val (.int (e.P k))) (.val (nat i)) (.val (nat j)) (.val (.int v))) := fun jx v =>
        (setItem2_of (rows := rowsI T3) (row := intL (T3.getD i [])) (a := i) (b := j) (v := .int v) rfl (ap_var rfl) (ap_var rfl) (ap_var rfl) rfl (rows_get intL (by rw [hT3.sq.len]; exact hi')) (by rw [show (intL (T3.getD i [])).length = (T3.getD i []).length by simp [intL], hT3.sq.at hi']; exact hj') (by lia) (by rw [show (intL (T3.getD i [])).length = (T3.getD i []).length by simp [intL], hT3.sq.at hi']; lia)).trans (by rw [rowsI_set]; rfl)
      rcases Nat.eq_zero_or_pos k with k0 | k0
      · have hN0 : e.P k * e.V k i j - e.V k i k * e.V k k j = e.V (k + 1) i j := by
          have h0 := T.step0 e.s e.X i j
          rw [T.piv e.s e.X (k := 0) (by lia)] at h0
          rw [k0]; exact h0
        rw [← hN0]
        exact ⟨j4, _, skip_next hnum (skip_false (ap_cmp (ap_var rfl) ap_con ((gt_nat k 0).trans (by rw [k0]; rfl))) rfl (skip_next (set2 _ _) rfl))⟩
      · obtain ⟨t, ht⟩ : ∃ t, k = t + 1 := ⟨k - 1, by lia⟩
        have hN1 : e.P k * e.V k i j - e.V k i k * e.V k k j = e.P t * e.V (k + 1) i j := by
          have h0 : VV e.s e.n e.up e.ord e.X (t + 1) (t + 1) (t + 1) * VV e.s e.n e.up e.ord e.X (t + 1) i j - VV e.s e.n e.up e.ord e.X (t + 1) i (t + 1) * VV e.s e.n e.up e.ord e.X (t + 1) (t + 1) j = PP e.s e.ord e.X t * VV e.s e.n e.up e.ord e.X (t + 1 + 1) i j := T.stepK e.s e.X i j (by lia)
          rw [← ht, hpiv] at h0
          exact h0
        have hbf : e.bf k = e.P t := by rw [ht]; exact bf_succ e t
        have hPt := pp_bounds s1 s2 e.ord hX hX' (show t ≤ 5 by lia)
        have hNb : (e.P k * e.V k i j - e.V k i k * e.V k k j).natAbs < 2 ^ 82 :=
          Nat.lt_of_le_of_lt (natAbs_sub_le' _ _ (natAbs_mul_le (Nat.le_of_lt hb.2) (Nat.le_of_lt (bV i j))) (natAbs_mul_le (Nat.le_of_lt (bV i k)) (Nat.le_of_lt (bV k j)))) (by decide +kernel)
        have hP0 : e.P t ≠ 0 := fun q => by
          have := hPt.1
          rw [show PP e.s e.ord e.X t = 0 from q] at this
          exact absurd this (by decide)
        have hidm : idmV [.int (e.P k * e.V k i j - e.V k i k * e.V k k j), .int (e.bf k)] = some (.tup [.int (e.V (k + 1) i j), .int 0]) := by
          rw [hbf]
          refine (idm_call (idm_okN (A := 82) (B := 13) (C := 35) hNb hPt.1 hPt.2 (by decide) (by decide) (by decide))).trans ?_
          rw [hN1, Int.mul_fdiv_cancel_left _ hP0, Int.mul_fmod_right]
        exact ⟨.val (.int 0), _, skip_next hnum (skip_next ((ifF_trueA (ap_cmp (ap_var rfl) ap_con (gt_nat k 0)) (by rw [decide_eq_true k0]; rfl)).trans (skip_next (unpackF_eq (tupOf_ap (ap_callZ (cons_of (ap_var rfl) (cons_of (ap_var rfl) rfl)) rfl hidm)) rfl) (skip_false (ap_cmp (ap_var rfl) ap_con (neq_int 0 0)) rfl rfl))) (skip_next (set2 (.val (.int 0)) (e.V (k + 1) i j)) rfl))⟩
theorem law_run (xs : List Int) (hlen : xs.length < 1000) : ∃ sl', law_.1 (.scr (intL xs) :: List.replicate 32 .unset) = some (.ret (.bool true), sl') := by
  obtain ⟨d0, d1, d2, hd⟩ := drawn3 xs
  have hn : 4 + d0 % 3 = 4 ∨ 4 + d0 % 3 = 5 ∨ 4 + d0 % 3 = 6 := by lia
  obtain ⟨up, ord, T⟩ := tree_good (x := d0 / 3 % (4 + d0 % 3) ^ (4 + d0 % 3 - 2)) hn (Nat.mod_lt _ (Nat.pow_pos (by lia)))
  exact part1 ⟨xs, d0, d1, d2, up, ord⟩ ⟨hd, hlen, T⟩
end Mine
end

section
open PySem PySem.W PyProof.Rows
set_option Elab.async false
set_option tactic.hygienic false
set_option maxRecDepth 100000
set_option autoImplicit false
set_option linter.unusedVariables false
namespace Mine
theorem ints_repL {W : Addr → Prop} {h : Heap} : ∀ {vs : List Value} {xs : List Int}, IntsAre vs xs → RepL W h (intL xs) vs
  | _, _, .nil => rfl
  | _, _, .cons n t r => ⟨_, _, rfl, ⟨t, rfl⟩, ints_repL r⟩
theorem law_call (G : Gl) (ok : Ok1 G) (A : Around) (s : Shared) (a d : Addr) (us : List Value) (xs : List Int) (ro : Room A 36) (kk : Kept G.h₀ s.heap) (H : Heap) (tb0 : TB H s.heap) (hm : G.mg "law" = some (.ref a)) (hl : s.heap.IsList d us.toArray) (hi : IntsAre us xs) (hlen : xs.length < 1000)
    {Q : Value → Shared → Prop} (hQ : ∀ s', Ext s s' → Q (.bool true) s') : wpAny G.M A (PySem.call (.ref a) [.ref d]) Q (fun zq zq => False) s := by
  have hd : dLaw ∈ recsOf G.q := by rw [ok.q]; exact (rec_mem "law" (by kernel_rfl)).1
  have hname : dLaw.name = "law" := (rec_mem "law" (by kernel_rfl)).2
  obtain ⟨sl', h1⟩ := law_run xs hlen
  refine call_open (lvl := 35) (d := dLaw) (names := nLaw) hd law_ok (fun h hk env zq A W s sl m os va ro ef eo st fl sl' hf Q hQ => law_.2 (G.at h hk) (ok.at h hk) A W env s sl m os va ro ef eo st fl sl' hf Q hQ) (by rw [hname]; exact hm)
    ro kk tb0 rfl (sl0 := Slot.scr (intL xs) :: List.replicate 32 .unset) (fun W h' hW hk i sv hs => ?_) h1 fun s' flow xx fr => ?_
  · cases i with
    | zero =>
      cases hs
      refine ⟨fun zq => ⟨_, rfl, rfl, d, us, rfl, fun w => ?_, ?_, ints_repL hi, firm_intL _⟩, fun h => nomatch h⟩
      · obtain ⟨o', e', _⟩ := hl
        rw [hW d w] at e'; cases e'
      · obtain ⟨o', e', r⟩ := hl
        exact ⟨o', hk _ _ e', r⟩
    | succ i =>
      rw [List.getElem?_cons_succ] at hs
      exact ⟨fun h => absurd h (by simp), fun zq => List.eq_of_mem_replicate (List.mem_of_getElem? hs)⟩
  · obtain ⟨v, rfl, rv⟩ := fr
    cases (show v = .bool true from rv)
    exact hQ s' xx

end Mine
end

section
open PySem PySem.W PyProof.Rows
set_option Elab.async false
set_option tactic.hygienic false
set_option maxRecDepth 100000
set_option autoImplicit false
set_option linter.unusedVariables false
namespace Mine
theorem tbf_top {loose : List Str} {mean : ExcName → Option Value} {mg mb : Str → Option Value} {h : Heap} (T : Top q1 loose mean mg mb h) (g q : Str) (hs : ((recsOf q1).find? (fun d => d.name == g)).isSome = true) (hp : (innerPos (.stmts (recAt g).body)).isSome = true) {P : Addr} (t : TabIs mg h g P) : TBf g q P h := by
  obtain ⟨hm, hn⟩ := rec_mem g hs
  obtain ⟨a, o, pm, code, doc, h1, h2, h3, h4⟩ := T.fn _ hm
  obtain ⟨a', o', fd, c, P', k1, k2, k3, k4, k5, k6⟩ := T.tab _ hm
  obtain ⟨a2, o2, fd2, c2, oc2, vs2, t1, t2, t3, t4, t5, t6, t7⟩ := t
  rw [hn] at h1 k1
  rw [h1] at k1 t1; cases k1; cases t1
  rw [h2] at k2 t2; cases k2; cases t2
  rw [h3] at k3 t3; cases k3; cases t3
  rw [k4] at t4; cases t4
  obtain ⟨pos, hpos⟩ := Option.isSome_iff_exists.mp hp
  have hc := CodeHd.of k5 k6
  have e : P' = P := by
    obtain ⟨⟨oc, vs, e1, e2, e3, e4⟩, _⟩ := k6
    rw [e1] at t5; cases t5
    rw [e3] at t6; cases t6
    rw [e4] at t7; cases t7; rfl
  subst e
  exact ⟨mg, a, o, _, c, #[], pos, T.g, h1, h2, h3, k4, hpos, hc, k6.2, .inl rfl⟩
theorem tb_top {loose : List Str} {mean : ExcName → Option Value} {mg mb : Str → Option Value} {h : Heap} (T : Top q1 loose mean mg mb h) (x : XP1 mg h) : TB h h := by
  obtain ⟨_, P, P', n, t, t'⟩ := x
  have a := tbf_top T "_int2digits" qDig (by kernel_rfl) (by kernel_rfl) t
  have b := tbf_top T "_digits2int" qInt (by kernel_rfl) (by kernel_rfl) t'
  exact ⟨P, P', n, a, b, a, b, fun zq zq e zq => .inl e⟩
theorem TBf.isTab {name q : Str} {P : Addr} {h : Heap} (x : TBf name q P h) : isCodeTable h P := by
  obtain ⟨mg, a, o, fd, c, ps, pos, n, h1, h2, h3, h4, h5, hc, h7, _⟩ := x
  exact (hc.tab h7).isCodeTable
theorem oldK_of {H h : Heap} (k : Kept H h) (g : ∀ b, h.get? b = none → H.get? b = none) (t : TB H h) : OldK H h where
  old := fun b o e => by
    obtain ⟨P, P', n, _, _, c, d, t⟩ := t
    cases hs : tabby o with
    | false => exact .inl (k b o e hs)
    | true =>
      rcases t b o e hs with y | ⟨hb, vs, more, rfl, y⟩
      · exact .inl y
      · exact .inr (.inl ⟨by rcases hb with rfl | rfl; exact c.isTab; exact d.isTab, rfl, vs, more, rfl, y⟩)
  there := fun b o e => by
    cases q : h.get? b with
    | none => rw [g b q] at e; cases e
    | some o' => exact ⟨o', rfl⟩
set_option tactic.hygienic true in
theorem walk1 : WalkO q1 ["b3_exceptions"] XP1 (fun zq zq => True) (OpenLaw.row PySem.Challenge.rw_re0173_02).toRowW lawDef.1 lawDef.2 fun f vs => PySem.call f vs := by
  intro w s₀ s₁ mg mb G y fa o pm cd doc dV kV ho hd hcd hD hmg hg args vals as hpre hlay hrd hwl hlo
  have hx : XP1 mg s₁.heap := G.X
  refine Ground.open G ?_
  intro T B D TE TW
  wrow_args hpre hlay hrd hwl hlo
  rename_i xs hsx hlay0 hL1 hr1 hl2 w4 w3 dd us w0 hL ra w1 r0 hI hr hcond1 hcond2
  have tb := tb_top T hx
  have T' : Top q1 [("b3_exceptions" : Str)] (ExcName.means s₀.heap) mg mb s₁.heap := T
  let GG : Gl := { prog := PySem.Challenge.rw_re0173_02.row.prog, w := w, q := q1, loose := [("b3_exceptions" : Str)], mg := mg, mb := mb, h₀ := s₁.heap, start := s₁.heap, top := TopK.of T', dd := data1, b3 := hx.1 }
  have ok : Ok1 GG := ⟨rfl, rfl, rfl⟩
  have hm : GG.mg "law" = some (.ref fa) := hmg
  refine noE' (G := GG) (law_call GG ok callerA s₁ fa dd us xs ⟨rfl, by decide, by decide⟩ (fun zq zq e zq => e) s₁.heap tb hm hL hI (by lia) fun s' x => ?_)
  refine ⟨.inl ⟨.bool true, .bool true, [], rfl, fun cls => rfl, .bool true, ?_, fun zq => ⟨List.nodup_nil, fun a ha => by cases ha⟩⟩, oldK_of x.kept (fun b e => x.gone e) (x.tb tb), ?_, ?_⟩
  · kernel_rfl
  · obtain ⟨h, t, rfl, _⟩ := x; rfl
  · obtain ⟨h, t, rfl, _⟩ := x; exact AllBare.of_eq hg
theorem holds02 : PySem.Challenge.rw_re0173_02.Holds := hd1 walk1

end Mine
end

theorem PySem.Challenge.cw_re0173_02_holds : PySem.Challenge.rw_re0173_02.Holds :=
  Mine.holds02
