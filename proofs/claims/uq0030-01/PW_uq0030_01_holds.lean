import PyProof.Rows.All
import Wide.All
import OpenK.AllK
import Wide.FinOn
import KE.KPairComp
import KE.KLam
import KE.KIntText
import PyProof.Rows.SeqMore
import PySem.Challenge.RW_uq0030_01
open PySem PySem.W PyProof.Rows
set_option Elab.async false

section
open PySem PySem.W PyProof.Rows
set_option Elab.async false
set_option maxRecDepth 100000
namespace Mine
noncomputable abbrev pw : Program := PySem.Challenge.pw_uq0030_01
noncomputable def annV : Option Value := some (.ref 6)
noncomputable def env0 : Env := { scope := pw.main.scope, locals := mainNs, globals := mainNs, cells := [], code := .ref 30, frame := some 31 }
noncomputable def cE : Code := .body (behindTheImports pw) env0
noncomputable def pos0 : Pos := ⟨0, 0, 0, 0⟩
noncomputable def B0 : List Frame := [topFrame pos0]

/-- the tree runs at the top in n steps, and hands on a -/
noncomputable def Ru {α : Type} (w : World) (n : Nat) (t : Sem α) (s : Shared) (q : Pos) (a : α) (s' : Shared) (q' : Pos) : Prop :=
  ∀ (K : α → Sem Fin) (H : Value → Sem Fin) (gd : Bool → Bool) (lv : List Value → List Value),
    segGo treeTable pw w 28 annV 1 n s ⟨t.wrap K H gd lv, cE, q, B0⟩ = some (s', ⟨K a, cE, q', B0⟩)

section
variable {α β : Type} {w : World} {s s' s'' : Shared} {q q' q'' : Pos} {n n' : Nat}
theorem go_go : ∀ {n : Nat} {s s' s'' : Shared} {t t' t'' : Thread}, segGo treeTable pw w 28 annV 1 n s t = some (s', t') → segGo treeTable pw w 28 annV 1 n' s' t' = some (s'', t'') →
    segGo treeTable pw w 28 annV 1 (n + n') s t = some (s'', t'')
  | 0, s, s', s'', t, t', t'', h, k => by
    obtain ⟨rfl, rfl⟩ : s = s' ∧ t = t' := by simpa [segGo] using h
    rw [Nat.zero_add]; exact k
  | n + 1, s, s', s'', t, t', t'', h, k => by
    rw [show n + 1 + n' = n + n' + 1 by omega]
    unfold segGo at h ⊢
    cases he : endAt 1 t with
    | some f => rw [he] at h; cases h
    | none =>
      rw [he] at h
      cases hk : stepOk 28 annV t with
      | false => rw [hk] at h; cases h
      | true =>
        rw [hk] at h
        cases hs : step (denote treeTable) pw w s t with
        | halt o s₂ => rw [hs] at h; cases h
        | go s₂ t₂ => rw [hs] at h; exact go_go h k
theorem Ru.pure {a : α} : Ru w 0 (Pure.pure a : Sem α) s q a s q := fun _ _ _ _ => rfl
theorem Ru.bind {m : Sem α} {f : α → Sem β} {a : α} {b : β} (h : Ru w n m s q a s' q') (k : Ru w n' (f a) s' q' b s'' q'') : Ru w (n + n') (m >>= f) s q b s'' q'' := by
  intro K H gd lv
  rw [Sem.bind_eq_wrap', Sem.wrap_wrap]
  exact go_go (h _ _ _ _) (k K H gd lv)
theorem Ru.keep {m : Sem α} {vs : List Value} {a : α} (h : Ru w n m s q a s' q') : Ru w n (m.keep vs) s q a s' q' := by
  intro K H gd lv
  rw [Sem.keep_eq_wrap, Sem.wrap_wrap]
  exact h _ _ _ _
theorem Ru.holding {m : Sem α} {vs : List Value} {a : α} (h : Ru w n m s q a s' q') : Ru w n (holding vs m) s q a s' q' := by
  rw [holding_eq_keep]; exact h.keep
theorem Ru.onRaise {m : Sem α} {k : Value → Sem Unit} {a : α} (h : Ru w n m s q a s' q') : Ru w n (m.onRaise k) s q a s' q' := by
  intro K H gd lv
  rw [Sem.onRaise_eq_wrap, Sem.wrap_wrap]
  exact h _ _ _ _
theorem Ru.rule {tag : String} : Ru w 1 (rule tag) s q () s q := fun _ _ _ _ => rfl
theorem Ru.standAt {p : Pos} : Ru w 1 (standAt p) s q () s p := fun _ _ _ _ => rfl
theorem Ru.fresh : Ru w 1 fresh s q s.toks { s with toks := s.toks + 1 } q := fun _ _ _ _ => rfl
theorem Ru.point : Ru w 1 point s q () s q := fun _ _ _ _ => rfl
theorem Ru.loadPart {a : Addr} {part : Option Value} {o : Obj} (h : s.heap.get? a = some o) : Ru w 1 (loadPart a part) s q o s q := by
  intro K H gd lv
  obtain ⟨heap, gens, drawn, toks, os⟩ := s
  show (match (match heap.get? a with
    | some o => Step.go ⟨heap, gens, drawn, toks, os⟩ ⟨K o, cE, q, B0⟩
    | none => .halt (.stuck (if a < heap.objs.size then "load: the object has been freed" else "load: no object at this address")) ⟨heap, gens, drawn, toks, os⟩) with
    | .go s' t' => some (s', t') | .halt _ _ => none) = _
  rw [show heap.get? a = some o from h]
theorem Ru.load {a : Addr} {o : Obj} (h : s.heap.get? a = some o) : Ru w 1 (PySem.load a) s q o s q := Ru.loadPart h
theorem Ru.alloc {o : Obj} : Ru w 1 (alloc o) s q s.heap.objs.size { s with heap := s.heap.push o } q := fun _ _ _ _ => rfl
theorem Ru.updatePart {a : Addr} {part : Option Value} {f : Obj → Obj} {o : Obj} (ha : 28 ≤ a) (h : s.heap.get? a = some o) : Ru w 1 (updatePart a part f) s q () { s with heap := s.heap.update a f } q := by
  intro K H gd lv
  obtain ⟨heap, gens, drawn, toks, os⟩ := s
  show (match (true && (Nat.ble 28 a || a == mainNs || a == cStatics || annV == some (.ref a))) with
    | false => none
    | true => (match (if (heap.get? a).isSome then Step.go ⟨heap.update a f, gens, drawn, toks, os⟩ ⟨K (), cE, q, B0⟩
      else .halt (.stuck "update: no object at this address, or it has been freed") ⟨heap, gens, drawn, toks, os⟩) with
      | .go s' t' => some (s', t') | .halt _ _ => none)) = _
  rw [show Nat.ble 28 a = true from Nat.ble_eq_true_of_le ha, show heap.get? a = some o from h]
  rfl

theorem hash_go : ∀ w : World, ∀ (k : Int) (t : Tok) (K : Int → Sem Fin) (H : Value → Sem Fin) (gd : Bool → Bool) (lv : List Value → List Value) (heap : Heap) (gens : Array GenState) (drawn : Drawn) (toks : Nat) (os : OsState) (q : Pos),
    segGo treeTable pw w 28 annV 1 5 ⟨heap, gens, drawn, toks, os⟩ ⟨(pyHash (.int k t)).wrap K H gd lv, cE, q, B0⟩ =
      some (⟨heap, gens, drawn, toks + 1, os⟩, ⟨(pyHashByItsType.reduced (rawHash k)).wrap K H gd lv, cE, q, B0⟩) :=
  byRow2 "special-get-raises" (fun w => by intros; kernel_rfl) (fun w => by intros; kernel_rfl)
theorem Ru.hash {k : Int} {t : Tok} : Ru w 5 (pyHash (.int k t)) s q (hashInt k) { s with toks := s.toks + 1 } q := by
  intro K H gd lv
  obtain ⟨heap, gens, drawn, toks, os⟩ := s
  refine (hash_go w k t K H gd lv heap gens drawn toks os q).trans ?_
  have hr := rawHash_range k
  unfold pyHashByItsType.reduced
  rw [if_pos (by rw [decide_eq_true hr.1, decide_eq_true hr.2]; rfl)]
  rfl
theorem Ru.cast {m : Sem α} {a : α} (h : Ru w n m s q a s' q') (e : n = n') : Ru w n' m s q a s' q' := e ▸ h
theorem places_nil {es : Array DictEntry} {h : Int} (hk : ∀ e ∈ es.toList, e.hash ≠ h) : placesWithHash es.size (fun i => es[i]?.map (·.hash)) h = [] := by
  unfold placesWithHash
  rw [List.filter_eq_nil_iff]
  intro i hi he
  rw [List.mem_range] at hi
  dsimp only at he
  rw [Array.getElem?_eq_getElem hi] at he
  exact hk es[i] (Array.mem_toList_iff.mpr (Array.getElem_mem hi)) (by simpa using he)
noncomputable abbrev dO (es : List DictEntry) (n : Nat) : Obj := ⟨.type "dict", none, .dict es.toArray n, #[]⟩
theorem Ru.find_none {d : Addr} {es : List DictEntry} {ep : Nat} {k : Int} {t : Tok} {h : Int} (ho : s.heap.get? d = some (dO es ep)) (hk : ∀ e ∈ es, e.hash ≠ h) :
    Ru w 1 (dictFind d (.int k t) h) s q none s q := by
  unfold dictFind
  refine Ru.holding (Ru.bind (n := 1) (n' := 0) (a := es.toArray) (s' := s) (q' := q) ?_ ?_)
  · unfold dictEntries; exact Ru.bind (n := 1) (n' := 0) (f := fun o : Obj => match o.data with | .dict es _ => Pure.pure es | _ => unsupported "internal:not-a-dict") (Ru.loadPart ho) Ru.pure
  · have e := places_nil (es := es.toArray) (h := h) (by simpa using hk)
    dsimp only
    rw [e]
    exact fun _ _ _ _ => rfl
theorem get_upd {h : Heap} {a : Addr} {o : Obj} {f : Obj → Obj} (ho : h.get? a = some o) (hf : (f o).isFreed = false) : (h.update a f).get? a = some (f o) := by
  exact Heap.get?_update_self f ho hf
theorem Ru.putKeys {d : Addr} {es : List DictEntry} {ep : Nat} {e : DictEntry} {part : Option Value} (hd : 28 ≤ d) (ho : s.heap.get? d = some (dO es ep)) (hs : es.length ≤ 1000000) :
    Ru w 3 (updateDictKeys d (·.push e) part) s q () { s with heap := s.heap.update d (Obj.mapDictKeys (·.push e)) } q := by
  unfold updateDictKeys
  refine Ru.bind (n := 1) (n' := 2) (Ru.loadPart ho) ?_
  dsimp only
  refine Ru.bind (n := 1) (n' := 1) (Ru.updatePart hd ho) ?_
  unfold lookBehind
  refine Ru.bind (n := 1) (n' := 0) (q' := q) (Ru.loadPart (get_upd ho rfl)) ?_
  have : (Obj.mapDictKeys (·.push e) (dO es ep)).data.pastItsLine = none := by
    show (if (es.toArray.push e).size > sizeLine + 1 then _ else _) = _
    rw [if_neg]
    have : sizeLine = 16777216 := rfl
    simp only [Array.size_push, List.size_toArray]
    omega
  rw [this]
  exact Ru.pure
theorem Ru.set_new {d : Addr} {es : List DictEntry} {ep : Nat} {k : Int} {t : Tok} {v : Value} (hd : 28 ≤ d) (ho : s.heap.get? d = some (dO es ep)) (hk : ∀ e ∈ es, e.hash ≠ hashInt k) (hs : es.length ≤ 1000000) :
    Ru w 10 (dictSet d (.int k t) v) s q () { s with heap := s.heap.update d (Obj.mapDictKeys (·.push ⟨hashInt k, .int k t, v⟩)), toks := s.toks + 1 } q := by
  unfold dictSet
  refine Ru.holding (Ru.bind (n := 5) (n' := 5) Ru.hash ?_)
  unfold dictSetHashed
  refine Ru.holding (Ru.bind (n := 1) (n' := 4) (Ru.find_none (s := { s with toks := s.toks + 1 }) ho hk) ?_)
  dsimp only
  exact Ru.bind (n := 1) (n' := 3) Ru.rule (Ru.putKeys (s := { s with toks := s.toks + 1 }) hd ho hs)

noncomputable abbrev sh (H : Heap) (tk : Nat) (os : OsState) : Shared := ⟨H, #[], {}, tk, os⟩
noncomputable def kv (p : Pos) (x : Int × Str) : Sem Value × Sem Value := (mkInt x.1, do let v ← mkText x.2; PySem.standAt p; Pure.pure v)
structure Cell (d : Addr) (Hd : List DictEntry → Heap) : Prop where
  ge : 28 ≤ d
  get : ∀ es, (Hd es).get? d = some (dO es es.length)
  upd : ∀ es e, (Hd es).update d (Obj.mapDictKeys (·.push e)) = Hd (es ++ [e])
noncomputable def ents : Nat → List (Int × Str) → List DictEntry
  | _, [] => []
  | t, x :: r => ⟨hashInt x.1, .int x.1 t, .str x.2 (t + 1)⟩ :: ents (t + 3) r
theorem ents_hash : ∀ (l : List (Int × Str)) (t : Nat), (ents t l).map (·.hash) = l.map fun x => hashInt x.1
  | [], _ => rfl
  | x :: r, t => by simp only [ents, List.map_cons, ents_hash r]
theorem ents_len : ∀ (l : List (Int × Str)) (t : Nat), (ents t l).length = l.length
  | [], _ => rfl
  | x :: r, t => by simp only [ents, List.length_cons, ents_len r]
variable {p : Pos} {os : OsState}
noncomputable def bodyL (d : Addr) (x : Sem Value × Sem Value) (_ : PUnit) : Sem (ForInStep PUnit) := do
  let a ← x.1; let b ← PySem.holding [a] x.2; PySem.holding [a, b] (dictSet d a b); Pure.pure (ForInStep.yield PUnit.unit)
theorem Ru.put_one {d : Addr} {Hd : List DictEntry → Heap} (C : Cell d Hd) {es : List DictEntry} {x : Int × Str} {tk : Nat} (hk : ∀ e ∈ es, e.hash ≠ hashInt x.1) (hs : es.length ≤ 1000000) :
    Ru w 13 (bodyL d (kv p x) PUnit.unit) (sh (Hd es) tk os) p (ForInStep.yield PUnit.unit)
      (sh (Hd (es ++ [⟨hashInt x.1, .int x.1 tk, .str x.2 (tk + 1)⟩])) (tk + 3) os) p := by
  refine Ru.bind (n := 1) (n' := 12) (a := .int x.1 tk) (s' := sh (Hd es) (tk + 1) os) (q' := p) (fun _ _ _ _ => rfl) ?_
  refine Ru.bind (n := 2) (n' := 10) (a := .str x.2 (tk + 1)) (s' := sh (Hd es) (tk + 2) os) (q' := p) (Ru.holding fun _ _ _ _ => rfl) ?_
  refine Ru.bind (n := 10) (n' := 0) (a := ()) (s' := sh (Hd (es ++ [⟨hashInt x.1, .int x.1 tk, .str x.2 (tk + 1)⟩])) (tk + 3) os) (q' := p) (Ru.holding ?_) Ru.pure
  have := Ru.set_new (w := w) (s := sh (Hd es) (tk + 2) os) (q := p) (t := tk) (v := .str x.2 (tk + 1)) C.ge (C.get es) hk hs
  have e := C.upd es ⟨hashInt x.1, .int x.1 tk, .str x.2 (tk + 1)⟩
  rw [show ({ sh (Hd es) (tk + 2) os with heap := (sh (Hd es) (tk + 2) os).heap.update d (Obj.mapDictKeys (·.push ⟨hashInt x.1, .int x.1 tk, .str x.2 (tk + 1)⟩)), toks := (sh (Hd es) (tk + 2) os).toks + 1 } : Shared) = sh (Hd (es ++ [⟨hashInt x.1, .int x.1 tk, .str x.2 (tk + 1)⟩])) (tk + 3) os by rw [← e]] at this
  exact this
theorem nd_cons {es : List DictEntry} {h : Int} {l : List Int} (hn : (es.map (·.hash) ++ h :: l).Nodup) : ∀ e ∈ es, e.hash ≠ h := fun e he q =>
  (List.nodup_append.mp hn).2.2 e.hash (List.mem_map_of_mem he) h List.mem_cons_self q
theorem Ru.loop {d : Addr} {Hd : List DictEntry → Heap} (C : Cell d Hd) : ∀ (l : List (Int × Str)) (es : List DictEntry) (tk : Nat), (es.map (·.hash) ++ l.map fun x => hashInt x.1).Nodup → es.length + l.length ≤ 1000000 →
    Ru w (13 * l.length) (forIn (l.map (kv p)) PUnit.unit (bodyL d)) (sh (Hd es) tk os) p PUnit.unit (sh (Hd (es ++ ents tk l)) (tk + 3 * l.length) os) p
  | [], es, tk, _, _ => by
    rw [show es ++ ents tk [] = es from List.append_nil es]
    exact Ru.pure
  | x :: r, es, tk, hn, hs => by
    rw [List.map_cons, List.forIn_cons]
    rw [List.map_cons] at hn
    have one := Ru.put_one (w := w) (p := p) (os := os) C (x := x) (tk := tk) (nd_cons hn) (by simp only [List.length_cons] at hs; omega)
    have ih := Ru.loop C r (es ++ [⟨hashInt x.1, .int x.1 tk, .str x.2 (tk + 1)⟩]) (tk + 3) (by
      rw [List.map_append, List.append_assoc]; exact hn) (by simp only [List.length_append, List.length_cons, List.length_nil] at hs ⊢; omega)
    rw [List.append_assoc] at ih
    rw [show tk + 3 * (x :: r).length = tk + 3 + 3 * r.length by rw [List.length_cons]; omega]
    exact Ru.cast (n := 13 + 13 * r.length) (Ru.bind one ih) (by rw [List.length_cons]; omega)
theorem Ru.sub_long {H : Heap} {Hd : List DictEntry → Heap} (C : Cell H.objs.size Hd) (h0 : Hd [] = H.push (dO [] 0)) {l : List (Int × Str)} {tk : Nat} (hl : 15 < l.length) (hn : (l.map fun x => hashInt x.1).Nodup) (hs : l.length ≤ 1000000) :
    Ru w (2 + 13 * l.length) (subDict (l.map (kv p))) (sh H tk os) p H.objs.size (sh (Hd (ents tk l)) (tk + 3 * l.length) os) p := by
  unfold subDict
  refine Ru.cast (n := 1 + (1 + 13 * l.length)) (Ru.bind (n := 1) (a := H.objs.size) (s' := sh (Hd []) tk os) (q' := p) ?_ ?_) (by omega)
  · rw [h0]; exact Ru.alloc
  · refine Ru.bind (n := 1 + 13 * l.length) (n' := 0) (a := ()) (s' := sh (Hd (ents tk l)) (tk + 3 * l.length) os) (q' := p) (Ru.holding ?_) Ru.pure
    rw [if_neg (by rw [List.length_map]; omega)]
    refine Ru.bind (n := 1) (n' := 13 * l.length) (q' := p) Ru.rule ?_
    exact Ru.bind (n := 13 * l.length) (n' := 0) (Ru.loop C l [] tk (by simpa using hn) (by simpa using hs)) Ru.pure
noncomputable def ents2 : Nat → List (Int × Str) → List DictEntry
  | _, [] => []
  | t, x :: r => ⟨hashInt x.1, .int x.1 t, .str x.2 (t + 1)⟩ :: ents2 (t + 2) r
theorem ents2_hash : ∀ (l : List (Int × Str)) (t : Nat), (ents2 t l).map (·.hash) = l.map fun x => hashInt x.1
  | [], _ => rfl
  | x :: r, t => by simp only [ents2, List.map_cons, ents2_hash r]
theorem ents2_len : ∀ (l : List (Int × Str)) (t : Nat), (ents2 t l).length = l.length
  | [], _ => rfl
  | x :: r, t => by simp only [ents2, List.length_cons, ents2_len r]
noncomputable def vals2 : Nat → List (Int × Str) → List (Value × Value)
  | _, [] => []
  | t, x :: r => (.int x.1 t, .str x.2 (t + 1)) :: vals2 (t + 2) r
theorem Ru.pairs {H : Heap} : ∀ (l : List (Int × Str)) (tk : Nat), Ru w (3 * l.length) (evalPairs (l.map (kv p))) (sh H tk os) p (vals2 tk l) (sh H (tk + 2 * l.length) os) p
  | [], tk => Ru.pure
  | x :: r, tk => by
    rw [List.map_cons, evalPairs]
    refine Ru.cast (n := 1 + (2 + (3 * r.length + 0))) ?_ (by rw [List.length_cons]; omega)
    refine Ru.bind (n := 1) (a := .int x.1 tk) (s' := sh H (tk + 1) os) (q' := p) (fun _ _ _ _ => rfl) ?_
    refine Ru.bind (n := 2) (a := .str x.2 (tk + 1)) (s' := sh H (tk + 2) os) (q' := p) (Ru.holding fun _ _ _ _ => rfl) ?_
    have ih := Ru.pairs (H := H) r (tk + 2)
    rw [show tk + 2 * (x :: r).length = tk + 2 + 2 * r.length by rw [List.length_cons]; omega]
    exact Ru.bind (Ru.holding ih) Ru.pure
noncomputable def bodyV (d : Addr) (x : Value × Value) (_ : PUnit) : Sem (ForInStep PUnit) := do
  dictSet d x.1 x.2; Pure.pure (ForInStep.yield PUnit.unit)
theorem Ru.loopV {d : Addr} {Hd : List DictEntry → Heap} (C : Cell d Hd) : ∀ (l : List (Int × Str)) (es : List DictEntry) (t tk : Nat), (es.map (·.hash) ++ l.map fun x => hashInt x.1).Nodup → es.length + l.length ≤ 1000000 →
    Ru w (10 * l.length) (forIn (vals2 t l) PUnit.unit (bodyV d)) (sh (Hd es) tk os) p PUnit.unit (sh (Hd (es ++ ents2 t l)) (tk + l.length) os) p
  | [], es, t, tk, _, _ => by
    rw [show es ++ ents2 t [] = es from List.append_nil es]
    exact Ru.pure
  | x :: r, es, t, tk, hn, hs => by
    rw [vals2, List.forIn_cons]
    rw [List.map_cons] at hn
    have one : Ru w (10 + 0) (bodyV d (.int x.1 t, .str x.2 (t + 1)) PUnit.unit) (sh (Hd es) tk os) p (ForInStep.yield PUnit.unit) (sh (Hd (es ++ [⟨hashInt x.1, .int x.1 t, .str x.2 (t + 1)⟩])) (tk + 1) os) p := by
      refine Ru.bind (a := ()) (s' := sh (Hd (es ++ [⟨hashInt x.1, .int x.1 t, .str x.2 (t + 1)⟩])) (tk + 1) os) (q' := p) ?_ Ru.pure
      have := Ru.set_new (w := w) (s := sh (Hd es) tk os) (q := p) (t := t) (v := .str x.2 (t + 1)) C.ge (C.get es) (nd_cons hn) (by simp only [List.length_cons] at hs; omega)
      have e := C.upd es ⟨hashInt x.1, .int x.1 t, .str x.2 (t + 1)⟩
      rw [show ({ sh (Hd es) tk os with heap := (sh (Hd es) tk os).heap.update d (Obj.mapDictKeys (·.push ⟨hashInt x.1, .int x.1 t, .str x.2 (t + 1)⟩)), toks := (sh (Hd es) tk os).toks + 1 } : Shared) = sh (Hd (es ++ [⟨hashInt x.1, .int x.1 t, .str x.2 (t + 1)⟩])) (tk + 1) os by rw [← e]] at this
      exact this
    have ih := Ru.loopV C r (es ++ [⟨hashInt x.1, .int x.1 t, .str x.2 (t + 1)⟩]) (t + 2) (tk + 1) (by
      rw [List.map_append, List.append_assoc]; exact hn) (by simp only [List.length_append, List.length_cons, List.length_nil] at hs ⊢; omega)
    rw [List.append_assoc] at ih
    rw [show tk + (x :: r).length = tk + 1 + r.length by rw [List.length_cons]; omega]
    exact Ru.cast (n := 10 + 10 * r.length) (Ru.bind one ih) (by rw [List.length_cons]; omega)
theorem Ru.sub_short {H : Heap} {Hd : List DictEntry → Heap} (C : Cell H.objs.size Hd) (h0 : Hd [] = H.push (dO [] 0)) {l : List (Int × Str)} {tk : Nat} (hl : l.length ≤ 15) (hn : (l.map fun x => hashInt x.1).Nodup) :
    Ru w (1 + 13 * l.length) (subDict (l.map (kv p))) (sh H tk os) p H.objs.size (sh (Hd (ents2 tk l)) (tk + 3 * l.length) os) p := by
  unfold subDict
  refine Ru.cast (n := 1 + (13 * l.length + 0)) (Ru.bind (n := 1) (a := H.objs.size) (s' := sh (Hd []) tk os) (q' := p) ?_ ?_) (by omega)
  · rw [h0]; exact Ru.alloc
  · refine Ru.bind (n := 13 * l.length) (n' := 0) (a := ()) (s' := sh (Hd (ents2 tk l)) (tk + 3 * l.length) os) (q' := p) (Ru.holding ?_) Ru.pure
    rw [if_pos (by rw [List.length_map]; omega)]
    refine Ru.cast (n := 3 * l.length + 10 * l.length) (Ru.bind (q' := p) (Ru.pairs l tk) (Ru.holding ?_)) (by omega)
    rw [show tk + 3 * l.length = tk + 2 * l.length + l.length by omega]
    exact Ru.bind (n := 10 * l.length) (n' := 0) (Ru.loopV C l [] tk (tk + 2 * l.length) (by simpa using hn) (by simp; omega)) Ru.pure
theorem Ru.forRange {c : Nat} {f : Nat → PUnit → Sem (ForInStep PUnit)} {S : Nat → Shared} : ∀ (m lo : Nat), (∀ i, lo ≤ i → i < lo + m → Ru w c (f i PUnit.unit) (S i) p (.yield PUnit.unit) (S (i + 1)) p) →
    Ru w (c * m) (forIn (List.range' lo m) PUnit.unit f) (S lo) p PUnit.unit (S (lo + m)) p
  | 0, lo, _ => Ru.pure
  | m + 1, lo, h => by
    rw [List.range'_succ, List.forIn_cons]
    have ih := Ru.forRange m (lo + 1) fun i h1 h2 => h i (by omega) (by omega)
    rw [show lo + (m + 1) = lo + 1 + m by omega]
    exact Ru.cast (n := c + c * m) (Ru.bind (h lo (Nat.le_refl _) (by omega)) ih) (by rw [Nat.mul_succ]; omega)
theorem Ru.entries {a : Addr} {es : List DictEntry} {n : Nat} {part : Option Value} (h : s.heap.get? a = some (dO es n)) : Ru w 1 (dictEntries a part) s q es.toArray s q := by
  unfold dictEntries; exact Ru.bind (n := 1) (n' := 0) (f := fun o : Obj => match o.data with | .dict es _ => Pure.pure es | _ => unsupported "internal:not-a-dict") (Ru.loadPart h) Ru.pure
theorem Ru.epoch {a : Addr} {es : List DictEntry} {n : Nat} {part : Option Value} (h : s.heap.get? a = some (dO es n)) : Ru w 1 (dictEpoch a part) s q n s q := by
  unfold dictEpoch; exact Ru.bind (n := 1) (n' := 0) (f := fun o : Obj => match o.data with | .dict _ n => Pure.pure n | _ => unsupported "internal:not-a-dict") (Ru.loadPart h) Ru.pure
theorem Ru.merge {d a : Addr} {Hm : List DictEntry → Heap} (C : Cell d Hm) {S D : List DictEntry} {tk : Nat} (ha : a ≠ sysModules) (hD : D ≠ []) (hg : ∀ es, (Hm es).get? a = some (dO S S.length)) (hk : ∀ e ∈ S, ∃ k t, e.key = .int k t)
    (hn : (D.map (·.hash) ++ S.map (·.hash)).Nodup) (hs : D.length + S.length ≤ 1000000) :
    Ru w (5 + 6 * S.length) (mergeMapping d (.ref a) false) (sh (Hm D) tk os) p () (sh (Hm (D ++ S)) tk os) p := by
  unfold mergeMapping
  refine Ru.cast (n := 1 + (1 + (0 + (1 + (1 + (1 + (6 * S.length + 0))))))) ?_ (by omega)
  refine Ru.bind (n := 1) (a := true) (s' := sh (Hm D) tk os) (q' := p) ?_ ?_
  · unfold isInstance
    exact Ru.bind (n := 1) (n' := 0) (Ru.bind (n := 1) (n' := 0) (Ru.loadPart (hg D)) Ru.pure) (fun _ _ _ _ => by kernel_rfl)
  rw [if_pos rfl]
  refine Ru.bind (n := 1) (a := some (.builtin "dict.__iter__")) (s' := sh (Hm D) tk os) (q' := p) ?_ ?_
  · unfold specialOf
    exact Ru.bind (n := 1) (n' := 0) (Ru.bind (n := 1) (n' := 0) (Ru.loadPart (hg D)) Ru.pure) (fun _ _ _ _ => by kernel_rfl)
  refine Ru.bind (n := 0) (q' := p) Ru.pure ?_
  rw [show (some (Value.builtin "dict.__iter__") == some (Value.builtin "dict.__iter__")) = true by decide +kernel]
  dsimp only
  rw [if_neg (show ¬ (a == sysModules) = true by simpa using ha)]
  refine Ru.bind (n := 1) (Ru.entries (C.get D)) ?_
  rw [if_neg (show ¬ D.toArray.isEmpty = true by simpa using hD)]
  refine Ru.bind (n := 1) (Ru.entries (hg D)) ?_
  refine Ru.bind (n := 1) (Ru.epoch (hg D)) ?_
  rw [List.size_toArray, List.range_eq_range']
  refine Ru.bind (a := PUnit.unit) (s' := sh (Hm (D ++ S)) tk os) (q' := p) ?_ Ru.pure
  have key := fun f => Ru.forRange (w := w) (p := p) (c := 6) (f := f) (S := fun i => sh (Hm (D ++ S.take i)) tk os) S.length 0
  simp only [List.take_zero, List.append_nil, Nat.zero_add, List.take_length] at key
  refine key _ fun i h1 h2 => ?_
  have hi : i < S.length := by omega
  refine Ru.bind (n := 1) (n' := 5) (Ru.entries (hg _)) ?_
  rw [show S.toArray[i]? = some S[i] by simp [hi]]
  dsimp only
  obtain ⟨k, t, ek⟩ := hk S[i] (List.getElem_mem hi)
  have hne : ∀ e ∈ D ++ S.take i, e.hash ≠ S[i].hash := by
    have hS : S = S.take i ++ S[i] :: S.drop (i + 1) := by rw [List.getElem_cons_drop, List.take_append_drop]
    rw [hS, List.map_append, List.map_cons, ← List.append_assoc, ← List.map_append] at hn
    exact nd_cons hn
  have hlen : (D ++ S.take i).length ≤ 1000000 := by rw [List.length_append, List.length_take]; omega
  have hsum : D ++ S.take (i + 1) = (D ++ S.take i) ++ [S[i]] := by rw [List.append_assoc, List.take_append_getElem hi]
  refine Ru.bind (n := 4) (n' := 1) (a := ()) (s' := sh (Hm (D ++ S.take (i + 1))) tk os) (q' := p) (Ru.holding ?_) ?_
  · rw [if_neg (by decide)]
    unfold dictPut
    rw [ek]
    refine Ru.bind (n := 1) (n' := 3) (Ru.find_none (C.get _) hne) ?_
    dsimp only
    have := Ru.putKeys (w := w) (s := sh (Hm (D ++ S.take i)) tk os) (q := p) (e := ⟨S[i].hash, .int k t, S[i].val⟩) (part := none) C.ge (C.get _) hlen
    rw [hsum, ← C.upd, show S[i] = ⟨S[i].hash, .int k t, S[i].val⟩ by rw [← ek]]
    exact this
  · refine Ru.bind (n := 1) (n' := 0) (Ru.epoch (hg _)) ?_
    rw [if_neg (by simp)]
    exact Ru.pure
end
end Mine
end

section
open PySem PySem.W PyProof.Rows
set_option Elab.async false
namespace Mine
theorem ents_app : ∀ (l r : List (Int × Str)) (t : Nat), ents t (l ++ r) = ents t l ++ ents (t + 3 * l.length) r
  | [], r, t => rfl
  | x :: l, r, t => by rw [List.cons_append, ents, ents, ents_app l r, List.cons_append, List.length_cons, show t + 3 + 3 * l.length = t + 3 * (l.length + 1) by omega]
noncomputable def subsOf : Nat → List (List (Int × Str)) → List (List DictEntry)
  | _, [] => []
  | t, c :: cs => ents t c :: subsOf (t + 3 * c.length) cs
noncomputable abbrev dOo (es : List DictEntry) : Obj := dO es es.length
noncomputable def heapOf (L0 : List Obj) (D : List DictEntry) (subs : List (List DictEntry)) : Heap := ⟨(L0 ++ dOo D :: subs.map dOo).toArray, {}⟩
theorem hget {l : List Obj} {life : Life} {a : Nat} {es : List DictEntry} (h : l[a]? = some (dOo es)) : (Heap.mk l.toArray life).get? a = some (dOo es) := by
  unfold Heap.get?
  rw [List.getElem?_toArray, h]
theorem hupd {l : List Obj} {life : Life} {a : Nat} {es : List DictEntry} {e : DictEntry} (h : l[a]? = some (dOo es)) :
    (Heap.mk l.toArray life).update a (Obj.mapDictKeys (·.push e)) = Heap.mk (l.set a (dOo (es ++ [e]))).toArray life := by
  show Heap.mk _ _ = _
  congr 1
  apply Array.ext_getElem?
  intro i
  rw [Array.getElem?_modify, List.getElem?_toArray, List.getElem?_toArray, List.getElem?_set]
  by_cases hi : a = i
  · subst hi
    have hl : a < l.length := by
      have := List.getElem?_eq_some_iff.mp h
      exact this.1
    simp only [if_true, h, hl]
    show some (Obj.mk _ _ (.dict (es.toArray.push e) (es.length + 1)) _) = some (Obj.mk _ _ (.dict (es ++ [e]).toArray (es ++ [e]).length) _)
    rw [List.push_toArray, List.length_append]
    rfl
  · simp [hi]
theorem cellMain (L0 : List Obj) (hL : 28 ≤ L0.length) (subs : List (List DictEntry)) : Cell L0.length fun es => heapOf L0 es subs where
  ge := hL
  get es := hget (by simp)
  upd es e := by
    unfold heapOf
    rw [hupd (es := es) (by simp)]
    simp
theorem cellSub (L0 : List Obj) (hL : 28 ≤ L0.length) (D : List DictEntry) (subs : List (List DictEntry)) : Cell (heapOf L0 D subs).objs.size fun es => heapOf L0 D (subs ++ [es]) where
  ge := Nat.le_trans hL (by simp [heapOf])
  get es := hget (by simp [heapOf])
  upd es e := by
    unfold heapOf
    rw [hupd (es := es) (by simp)]
    simp
theorem heap_push (L0 : List Obj) (D : List DictEntry) (subs : List (List DictEntry)) : heapOf L0 D (subs ++ [[]]) = (heapOf L0 D subs).push (dO [] 0) := by
  unfold heapOf
  show _ = Heap.mk _ _
  simp
theorem heap_sub (L0 : List Obj) (D S : List DictEntry) (subs : List (List DictEntry)) : (heapOf L0 D (subs ++ [S])).get? (heapOf L0 [] subs).objs.size = some (dO S S.length) := hget (by simp [heapOf])
theorem heap_size (L0 : List Obj) (D D' : List DictEntry) (subs : List (List DictEntry)) : (heapOf L0 D subs).objs.size = (heapOf L0 D' subs).objs.size := by simp [heapOf]

noncomputable abbrev Itm := Option (Sem Value) × Sem Value
noncomputable abbrev Rn := List (Sem Value × Sem Value)
noncomputable def it (p : Pos) (x : Int × Str) : Itm := (some (kv p x).1, (kv p x).2)
section
variable {w : World} {p : Pos} {os : OsState} {fl : Rn → Option Addr → Sem (Option Addr)} {bd : Itm → Option Addr × Rn → Sem (ForInStep (Option Addr × Rn))}
theorem items_chunk (h1 : ∀ k v m (r : Rn), r.length + 1 ≠ 17 → bd (some k, v) (m, r) = pure (.yield (m, r ++ [(k, v)])))
    (h2 : ∀ k v m (r : Rn), r.length + 1 = 17 → bd (some k, v) (m, r) = (fl (r ++ [(k, v)]) m >>= fun m => pure (.yield (m, [])))) (rest : List Itm) (m : Option Addr) :
    ∀ (l : List (Int × Str)) (r : Rn), l ≠ [] → r.length + l.length = 17 → forIn (l.map (it p) ++ rest) (m, r) bd = (fl (r ++ l.map (kv p)) m >>= fun m => forIn rest (m, []) bd)
  | [], r, h, _ => absurd rfl h
  | [x], r, _, hl => by
    rw [List.map_cons, List.map_nil, List.cons_append, List.nil_append, List.forIn_cons]
    show bd (some (kv p x).1, (kv p x).2) (m, r) >>= _ = _
    rw [h2 _ _ _ _ (by simpa using hl), bind_assoc]
    rfl
  | x :: y :: l, r, _, hl => by
    rw [List.map_cons, List.cons_append, List.forIn_cons]
    show bd (some (kv p x).1, (kv p x).2) (m, r) >>= _ = _
    rw [h1 _ _ _ _ (by simp only [List.length_cons] at hl; omega), pure_bind]
    show forIn ((y :: l).map (it p) ++ rest) (m, r ++ [kv p x]) bd = _
    rw [items_chunk h1 h2 rest m (y :: l) (r ++ [kv p x]) (by simp) (by simp only [List.length_append, List.length_cons, List.length_nil] at hl ⊢; omega)]
    rw [List.append_assoc]
    rfl
theorem items_last (h1 : ∀ k v m (r : Rn), r.length + 1 ≠ 17 → bd (some k, v) (m, r) = pure (.yield (m, r ++ [(k, v)]))) (m : Option Addr) :
    ∀ (l : List (Int × Str)) (r : Rn), r.length + l.length < 17 → forIn (l.map (it p)) (m, r) bd = (pure (m, r ++ l.map (kv p)) : Sem (Option Addr × Rn))
  | [], r, _ => by rw [List.map_nil, List.map_nil, List.append_nil]; rfl
  | x :: l, r, hl => by
    rw [List.map_cons, List.forIn_cons]
    show bd (some (kv p x).1, (kv p x).2) (m, r) >>= _ = _
    rw [h1 _ _ _ _ (by simp only [List.length_cons] at hl; omega), pure_bind]
    show forIn (l.map (it p)) (m, r ++ [kv p x]) bd = _
    rw [items_last h1 m l (r ++ [kv p x]) (by simp only [List.length_append, List.length_cons, List.length_nil] at hl ⊢; omega), List.append_assoc]
    rfl
variable {L0 : List Obj}
theorem keys_ents : ∀ (l : List (Int × Str)) (t : Nat), ∀ e ∈ ents t l, ∃ k t, e.key = .int k t
  | [], _, _, he => nomatch (show _ ∈ ([] : List DictEntry) from he)
  | x :: r, t, e, he => by
    rw [ents, List.mem_cons] at he
    rcases he with rfl | he
    · exact ⟨_, _, rfl⟩
    · exact keys_ents r _ e he
theorem keys_ents2 : ∀ (l : List (Int × Str)) (t : Nat), ∀ e ∈ ents2 t l, ∃ k t, e.key = .int k t
  | [], _, _, he => nomatch (show _ ∈ ([] : List DictEntry) from he)
  | x :: r, t, e, he => by
    rw [ents2, List.mem_cons] at he
    rcases he with rfl | he
    · exact ⟨_, _, rfl⟩
    · exact keys_ents2 r _ e he
/-- one more part of the display: its own dict, then merged into the first -/
theorem Ru.part (hL : 28 ≤ L0.length) {D S : List DictEntry} {subs : List (List DictEntry)} {r : Rn} {tk tk' n : Nat} {z : Addr → Value → Sem Unit} (hD : D ≠ []) (hn : (D.map (·.hash) ++ S.map (·.hash)).Nodup) (hs : D.length + S.length ≤ 1000000) (hk : ∀ e ∈ S, ∃ k t, e.key = .int k t)
    (h : Ru w n (subDict r) (sh (heapOf L0 D subs) tk os) p (heapOf L0 D subs).objs.size (sh (heapOf L0 D (subs ++ [S])) tk' os) p) :
    Ru w (n + (5 + 6 * S.length)) (do let sub ← PySem.holding [.ref L0.length] (subDict r); (PySem.holding [.ref L0.length, .ref sub] (mergeMapping L0.length (.ref sub) false)).onRaise (z sub); Pure.pure (some L0.length))
      (sh (heapOf L0 D subs) tk os) p (some L0.length) (sh (heapOf L0 (D ++ S) (subs ++ [S])) tk' os) p := by
  refine Ru.bind (Ru.holding h) (Ru.cast (n := 5 + 6 * S.length + 0) (Ru.bind (a := ()) (q' := p) (Ru.onRaise (Ru.holding ?_)) Ru.pure) (by omega))
  refine Ru.merge (cellMain L0 hL (subs ++ [S])) ?_ hD (fun es => ?_) hk hn hs
  · have : sysModules = 1 := rfl
    rw [this]
    have e : (heapOf L0 D subs).objs.size = L0.length + (subs.length + 1) := by simp [heapOf]
    intro q
    have q' : (heapOf L0 D subs).objs.size = (1 : Nat) := q
    omega
  · rw [heap_size L0 D [] subs]; exact heap_sub L0 es S subs
theorem Ru.part17 (hL : 28 ≤ L0.length) {D : List DictEntry} {subs : List (List DictEntry)} {c : List (Int × Str)} {tk : Nat} {z : Addr → Value → Sem Unit} (hc : c.length = 17) (hD : D ≠ []) (hn : (D.map (·.hash) ++ c.map fun x => hashInt x.1).Nodup) (hs : D.length + 17 ≤ 1000000) :
    Ru w 330 (do let sub ← PySem.holding [.ref L0.length] (subDict (c.map (kv p))); (PySem.holding [.ref L0.length, .ref sub] (mergeMapping L0.length (.ref sub) false)).onRaise (z sub); Pure.pure (some L0.length))
      (sh (heapOf L0 D subs) tk os) p (some L0.length) (sh (heapOf L0 (D ++ ents tk c) (subs ++ [ents tk c])) (tk + 51) os) p := by
  have hn' := (List.nodup_append.mp hn).2.1
  have a := Ru.sub_long (w := w) (p := p) (os := os) (cellSub L0 hL D subs) (heap_push L0 D subs) (l := c) (tk := tk) (by omega) hn' (by omega)
  have b := Ru.part (z := z) hL hD (by rw [ents_hash]; exact hn) (by rw [ents_len]; omega) (keys_ents c tk) a
  rw [hc] at b
  exact Ru.cast b (by rw [ents_len, hc])
theorem Ru.partShort (hL : 28 ≤ L0.length) {D : List DictEntry} {subs : List (List DictEntry)} {c : List (Int × Str)} {tk : Nat} {z : Addr → Value → Sem Unit} (hc : c.length ≤ 15) (hD : D ≠ []) (hn : (D.map (·.hash) ++ c.map fun x => hashInt x.1).Nodup) (hs : D.length + 17 ≤ 1000000) :
    Ru w (6 + 19 * c.length) (do let sub ← PySem.holding [.ref L0.length] (subDict (c.map (kv p))); (PySem.holding [.ref L0.length, .ref sub] (mergeMapping L0.length (.ref sub) false)).onRaise (z sub); Pure.pure (some L0.length))
      (sh (heapOf L0 D subs) tk os) p (some L0.length) (sh (heapOf L0 (D ++ ents2 tk c) (subs ++ [ents2 tk c])) (tk + 3 * c.length) os) p := by
  have hn' := (List.nodup_append.mp hn).2.1
  have a := Ru.sub_short (w := w) (p := p) (os := os) (cellSub L0 hL D subs) (heap_push L0 D subs) (l := c) (tk := tk) hc hn'
  have b := Ru.part (z := z) hL hD (by rw [ents2_hash]; exact hn) (by rw [ents2_len]; omega) (keys_ents2 c tk) a
  exact Ru.cast b (by rw [ents2_len]; omega)
theorem Ru.chunks (hL : 28 ≤ L0.length) (h1 : ∀ k v m (r : Rn), r.length + 1 ≠ 17 → bd (some k, v) (m, r) = Pure.pure (.yield (m, r ++ [(k, v)])))
    (h2 : ∀ k v m (r : Rn), r.length + 1 = 17 → bd (some k, v) (m, r) = (fl (r ++ [(k, v)]) m >>= fun m => Pure.pure (.yield (m, [])))) {z : Addr → Addr → Value → Sem Unit}
    (h3 : ∀ d (r : Rn), r ≠ [] → fl r (some d) = do let sub ← PySem.holding [.ref d] (subDict r); (PySem.holding [.ref d, .ref sub] (mergeMapping d (.ref sub) false)).onRaise (z d sub); Pure.pure (some d)) (last : List (Int × Str)) (hl : last.length ≤ 15) :
    ∀ (cs : List (List (Int × Str))) (D : List DictEntry) (subs : List (List DictEntry)) (tk : Nat), (∀ c ∈ cs, c.length = 17) → D ≠ [] → (D.map (·.hash) ++ cs.flatten.map fun x => hashInt x.1).Nodup → D.length + cs.flatten.length + 17 ≤ 1000000 →
    Ru w (330 * cs.length) (forIn ((cs.flatten ++ last).map (it p)) (some L0.length, []) bd) (sh (heapOf L0 D subs) tk os) p (some L0.length, last.map (kv p))
      (sh (heapOf L0 (D ++ ents tk cs.flatten) (subs ++ subsOf tk cs)) (tk + 51 * cs.length) os) p
  | [], D, subs, tk, _, _, _, _ => by
    rw [List.flatten_nil, List.nil_append, items_last h1 (some L0.length) last [] (by simp only [List.length_nil]; omega)]
    simp only [ents, subsOf, List.append_nil, List.length_nil, Nat.mul_zero, Nat.add_zero, List.nil_append]
    exact Ru.pure
  | c :: cs, D, subs, tk, hc, hD, hn, hs => by
    have c17 := hc c List.mem_cons_self
    rw [List.flatten_cons, List.append_assoc, List.map_append, items_chunk h1 h2 _ _ c [] (by intro e; rw [e] at c17; simp at c17) (by simpa using c17), List.nil_append,
      h3 _ _ (by intro e; have := congrArg List.length e; rw [List.length_map, c17] at this; simp at this)]
    rw [List.flatten_cons, List.map_append, ← List.append_assoc] at hn
    rw [List.flatten_cons, List.length_append] at hs
    have a := Ru.part17 (w := w) (p := p) (os := os) (tk := tk) (subs := subs) (z := z L0.length) hL c17 hD (List.nodup_append.mp hn).1 (by omega)
    have ih := Ru.chunks hL h1 h2 h3 last hl cs (D ++ ents tk c) (subs ++ [ents tk c]) (tk + 51) (fun c' h => hc c' (List.mem_cons_of_mem _ h)) (by simp [hD])
      (by rw [List.map_append, ents_hash]; exact hn) (by rw [List.length_append, ents_len]; omega)
    rw [List.append_assoc, List.append_assoc, show tk + 51 = tk + 3 * c.length by omega, ← ents_app] at ih
    rw [show tk + 51 * (c :: cs).length = tk + 3 * c.length + 51 * cs.length by rw [List.length_cons]; omega]
    refine Ru.cast (n := 330 + 330 * cs.length) (Ru.bind (a := some L0.length) (s' := sh (heapOf L0 (D ++ ents tk c) (subs ++ [ents tk c])) (tk + 51) os) (q' := p) ?_ ?_) (by rw [List.length_cons]; omega)
    · exact a
    · rw [show tk + 51 = tk + 3 * c.length by omega]; exact ih
end
end Mine
end

section
open PySem PySem.W PyProof.Rows
set_option Elab.async false
namespace Mine
section
variable {w : World} {p : Pos} {os : OsState} {L0 : List Obj} {fl : Rn → Option Addr → Sem (Option Addr)} {bd : Itm → Option Addr × Rn → Sem (ForInStep (Option Addr × Rn))}
theorem heap_first (L0 : List Obj) : heapOf L0 [] [] = (Heap.mk L0.toArray {}).push (dO [] 0) := by
  unfold heapOf
  show _ = Heap.mk _ _
  simp
theorem Ru.dd (hL : 28 ≤ L0.length) (h1 : ∀ k v m (r : Rn), r.length + 1 ≠ 17 → bd (some k, v) (m, r) = Pure.pure (.yield (m, r ++ [(k, v)])))
    (h2 : ∀ k v m (r : Rn), r.length + 1 = 17 → bd (some k, v) (m, r) = (fl (r ++ [(k, v)]) m >>= fun m => Pure.pure (.yield (m, [])))) {z : Addr → Addr → Value → Sem Unit}
    (h0 : ∀ (r : Rn), r ≠ [] → fl r none = (subDict r >>= fun a => Pure.pure (some a)))
    (h3 : ∀ d (r : Rn), r ≠ [] → fl r (some d) = do let sub ← PySem.holding [.ref d] (subDict r); (PySem.holding [.ref d, .ref sub] (mergeMapping d (.ref sub) false)).onRaise (z d sub); Pure.pure (some d))
    {c1 last : List (Int × Str)} {cs : List (List (Int × Str))} {tk : Nat} (k1 : c1.length = 17) (hc : ∀ c ∈ cs, c.length = 17) (hl : last.length ≤ 15) (hl0 : last ≠ [])
    (hn : ((c1 ++ (cs.flatten ++ last)).map fun x => hashInt x.1).Nodup) (hs : cs.flatten.length ≤ 100000) :
    Ru w (223 + (330 * cs.length + (6 + 19 * last.length))) (forIn ((c1 ++ (cs.flatten ++ last)).map (it p)) (none, []) bd >>= fun s => fl s.2 s.1 >>= fun r => match r with | some d => Pure.pure (Value.ref d) | none => newDict) (sh ⟨L0.toArray, {}⟩ tk os) p (.ref L0.length)
      (sh (heapOf L0 ((ents tk c1 ++ ents (tk + 51) cs.flatten) ++ ents2 (tk + 51 + 51 * cs.length) last) ((subsOf (tk + 51) cs) ++ [ents2 (tk + 51 + 51 * cs.length) last])) (tk + 51 + 51 * cs.length + 3 * last.length) os) p := by
  have hD : ents tk c1 ≠ [] := by intro e; have := congrArg List.length e; rw [ents_len, k1] at this; simp at this
  have lsum : (cs.flatten).length + 17 ≤ 1000000 - 17 := by omega
  rw [List.map_append] at hn
  have hn1 := (List.nodup_append.mp hn).1
  rw [List.map_append, ← List.append_assoc] at hn
  have hn2 := (List.nodup_append.mp hn).1
  rw [List.map_append, items_chunk h1 h2 _ _ c1 [] (by intro e; rw [e] at k1; simp at k1) (by simpa using k1), List.nil_append,
    h0 _ (by intro e; have := congrArg List.length e; rw [List.length_map, k1] at this; simp at this), bind_assoc, bind_assoc]
  have a := Ru.sub_long (w := w) (p := p) (os := os) (H := ⟨L0.toArray, {}⟩) (Hd := fun es => heapOf L0 es []) (by have := cellMain L0 hL []; simpa using this) (heap_first L0) (l := c1) (tk := tk) (by omega) hn1 (by omega)
  rw [k1, show (Heap.mk L0.toArray {}).objs.size = L0.length by simp] at a
  refine Ru.bind (n := 223) a ?_
  rw [pure_bind]
  have b := Ru.chunks (w := w) (p := p) (os := os) hL h1 h2 h3 last hl cs (ents tk c1) [] (tk + 51) hc hD (by rw [ents_hash]; exact hn2) (by rw [ents_len, k1]; omega)
  rw [List.nil_append] at b
  refine Ru.bind b ?_
  dsimp only
  rw [h3 _ _ (by simpa using hl0)]
  have c := Ru.partShort (w := w) (p := p) (os := os) (z := z L0.length) (c := last) (tk := tk + 51 + 51 * cs.length) (D := ents tk c1 ++ ents (tk + 51) cs.flatten) (subs := subsOf (tk + 51) cs) hL hl (by simp [hD])
    (by rw [List.map_append, ents_hash, ents_hash]; exact hn) (by rw [List.length_append, ents_len, ents_len, k1]; omega)
  exact Ru.cast (n := 6 + 19 * last.length + 0) (Ru.bind c Ru.pure) rfl
theorem Ru.display (hL : 28 ≤ L0.length) {c1 last : List (Int × Str)} {cs : List (List (Int × Str))} {tk : Nat} (k1 : c1.length = 17) (hc : ∀ c ∈ cs, c.length = 17) (hl : last.length ≤ 15) (hl0 : last ≠ [])
    (hn : ((c1 ++ (cs.flatten ++ last)).map fun x => hashInt x.1).Nodup) (hs : cs.flatten.length ≤ 100000) :
    Ru w (223 + (330 * cs.length + (6 + 19 * last.length))) (dictDisplay ((c1 ++ (cs.flatten ++ last)).map (it p))) (sh ⟨L0.toArray, {}⟩ tk os) p (.ref L0.length)
      (sh (heapOf L0 ((ents tk c1 ++ ents (tk + 51) cs.flatten) ++ ents2 (tk + 51 + 51 * cs.length) last) ((subsOf (tk + 51) cs) ++ [ents2 (tk + 51 + 51 * cs.length) last])) (tk + 51 + 51 * cs.length + 3 * last.length) os) p := by
  unfold dictDisplay
  extract_lets flush main run
  refine Ru.dd (fl := flush) hL (z := fun d _ x => do let _ ← PySem.holding [Value.ref d, x] (runValue (Code.builtin "proto.let_go" { })); Pure.pure ()) ?_ ?_ ?_ ?_ k1 hc hl hl0 hn hs
  · intro k v m r hr
    show (if ((r ++ [(k, v)]).length == 17) = true then _ else _) = _
    rw [if_neg (by rw [List.length_append, List.length_singleton]; simpa using hr)]
  · intro k v m r hr
    show (if ((r ++ [(k, v)]).length == 17) = true then _ else _) = _
    rw [if_pos (by rw [List.length_append, List.length_singleton]; simpa using hr)]
  · intro r hr
    show (if r.isEmpty = true then _ else _) = _
    rw [if_neg (by simpa using hr)]
  · intro d r hr
    show (if r.isEmpty = true then _ else _) = _
    rw [if_neg (by simpa using hr)]
end
end Mine
end

section
open PySem PySem.W PyProof.Rows
set_option Elab.async false
set_option linter.unusedVariables false
set_option maxRecDepth 100000
namespace Mine
abbrev S (x : String) : Str := Str.ofString x
noncomputable def fA (i : Nat) : Arguments := match pw.main.body[i]? with | some (.FunctionDef _ a _ _ _ _ _ _ _ _) => a | _ => ⟨[], [], none, [], [], none, []⟩
noncomputable def fB (i : Nat) : List Stmt := match pw.main.body[i]? with | some (.FunctionDef _ _ b _ _ _ _ _ _ _) => b | _ => []
noncomputable def fS (i : Nat) : Scope := match pw.main.body[i]? with | some (.FunctionDef _ _ _ _ _ _ s _ _ _) => s | _ => default
noncomputable def mC (i : Nat) : List Stmt := match pw.main.body[i]? with | some (.ClassDef _ _ _ b _ _ _ _ _ _ _) => b | _ => []
noncomputable def mA (i j : Nat) : Arguments := match (mC i)[j]? with | some (.FunctionDef _ a _ _ _ _ _ _ _ _) => a | _ => ⟨[], [], none, [], [], none, []⟩
noncomputable def mB (i j : Nat) : List Stmt := match (mC i)[j]? with | some (.FunctionDef _ _ b _ _ _ _ _ _ _) => b | _ => []
noncomputable def mS (i j : Nat) : Scope := match (mC i)[j]? with | some (.FunctionDef _ _ _ _ _ _ s _ _ _) => s | _ => default
structure DictSt where
  ts : List PySem.Expr
  ks : List (Option PySem.Expr)
  vs : List PySem.Expr
  p : Pos
  q : Pos
noncomputable def a14 : DictSt := match (behindTheImports pw)[(14 : Nat)]? with | some (.Assign ts (.Dict ks vs p) q) => ⟨ts, ks, vs, p, q⟩ | _ => ⟨[], [], [], pos0, pos0⟩
noncomputable def kOf : Option PySem.Expr → Int | some (.Constant (.int i) _ _) => i | _ => 0
noncomputable def vOf : PySem.Expr → Str | .Constant (.str s) _ _ => s | _ => S ""
noncomputable def src3 : List (Int × Str) := (a14.ks.map kOf).zip (a14.vs.map vOf)
noncomputable def chunk (j : Nat) : List (Int × Str) := (src3.drop (17 * j)).take 17
noncomputable def cs3 : List (List (Int × Str)) := (List.range 37).map fun j => chunk (j + 1)
noncomputable def last3 : List (Int × Str) := src3.drop 646
noncomputable def D3 : List DictEntry := (ents 437 (chunk 0) ++ ents 488 cs3.flatten) ++ ents2 2375 last3
noncomputable def b3 (i : Nat) : Obj := if i = 98 then dOo D3 else if i = 136 then dOo (ents2 2375 last3) else dOo (ents (437 + 51 * (i - 98)) (chunk (i - 98)))
noncomputable def stmts (a b : Nat) : List Stmt := ((behindTheImports pw).drop a).take (b - a)
noncomputable def o_0 (P : Params) : Obj := ⟨(.type "dict"), none, (.dict #[⟨PyData.keyHash P (S "__name__"), .str (S "__name__") 1, (.str (S "builtins") 160)⟩, ⟨PyData.keyHash P (S "__doc__"), .str (S "__doc__") 2, (.builtin "builtins.__doc__:str#opaque")⟩, ⟨PyData.keyHash P (S "__package__"), .str (S "__package__") 3, (.builtin "builtins.__package__:str#opaque")⟩, ⟨PyData.keyHash P (S "__loader__"), .str (S "__loader__") 4, (.builtin "builtins.__loader__:shared#opaque")⟩, ⟨PyData.keyHash P (S "__spec__"), .str (S "__spec__") 5, (.builtin "builtins.__spec__#opaque")⟩, ⟨PyData.keyHash P (S "__build_class__"), .str (S "__build_class__") 6, (.builtin "__build_class__")⟩, ⟨PyData.keyHash P (S "__import__"), .str (S "__import__") 7, (.builtin "__import__")⟩, ⟨PyData.keyHash P (S "abs"), .str (S "abs") 8, (.builtin "abs")⟩, ⟨PyData.keyHash P (S "all"), .str (S "all") 9, (.builtin "all")⟩, ⟨PyData.keyHash P (S "any"), .str (S "any") 10, (.builtin "any")⟩, ⟨PyData.keyHash P (S "ascii"), .str (S "ascii") 11, (.builtin "ascii")⟩, ⟨PyData.keyHash P (S "bin"), .str (S "bin") 12, (.builtin "bin")⟩, ⟨PyData.keyHash P (S "breakpoint"), .str (S "breakpoint") 13, (.builtin "breakpoint")⟩, ⟨PyData.keyHash P (S "callable"), .str (S "callable") 14, (.builtin "callable")⟩, ⟨PyData.keyHash P (S "chr"), .str (S "chr") 15, (.builtin "chr")⟩, ⟨PyData.keyHash P (S "compile"), .str (S "compile") 16, (.builtin "compile")⟩, ⟨PyData.keyHash P (S "delattr"), .str (S "delattr") 17, (.builtin "delattr")⟩, ⟨PyData.keyHash P (S "dir"), .str (S "dir") 18, (.builtin "dir")⟩, ⟨PyData.keyHash P (S "divmod"), .str (S "divmod") 19, (.builtin "divmod")⟩, ⟨PyData.keyHash P (S "eval"), .str (S "eval") 20, (.builtin "eval")⟩, ⟨PyData.keyHash P (S "exec"), .str (S "exec") 21, (.builtin "exec")⟩, ⟨PyData.keyHash P (S "format"), .str (S "format") 22, (.builtin "format")⟩, ⟨PyData.keyHash P (S "getattr"), .str (S "getattr") 23, (.builtin "getattr")⟩, ⟨PyData.keyHash P (S "globals"), .str (S "globals") 24, (.builtin "globals")⟩, ⟨PyData.keyHash P (S "hasattr"), .str (S "hasattr") 25, (.builtin "hasattr")⟩, ⟨PyData.keyHash P (S "hash"), .str (S "hash") 26, (.builtin "hash")⟩, ⟨PyData.keyHash P (S "hex"), .str (S "hex") 27, (.builtin "hex")⟩, ⟨PyData.keyHash P (S "id"), .str (S "id") 28, (.builtin "id")⟩, ⟨PyData.keyHash P (S "input"), .str (S "input") 29, (.builtin "input")⟩, ⟨PyData.keyHash P (S "isinstance"), .str (S "isinstance") 30, (.builtin "isinstance")⟩, ⟨PyData.keyHash P (S "issubclass"), .str (S "issubclass") 31, (.builtin "issubclass")⟩, ⟨PyData.keyHash P (S "iter"), .str (S "iter") 32, (.builtin "iter")⟩, ⟨PyData.keyHash P (S "aiter"), .str (S "aiter") 33, (.builtin "aiter")⟩, ⟨PyData.keyHash P (S "len"), .str (S "len") 34, (.builtin "len")⟩, ⟨PyData.keyHash P (S "locals"), .str (S "locals") 35, (.builtin "locals")⟩, ⟨PyData.keyHash P (S "max"), .str (S "max") 36, (.builtin "max")⟩, ⟨PyData.keyHash P (S "min"), .str (S "min") 37, (.builtin "min")⟩, ⟨PyData.keyHash P (S "next"), .str (S "next") 38, (.builtin "next")⟩, ⟨PyData.keyHash P (S "anext"), .str (S "anext") 39, (.builtin "anext")⟩, ⟨PyData.keyHash P (S "oct"), .str (S "oct") 40, (.builtin "oct")⟩, ⟨PyData.keyHash P (S "ord"), .str (S "ord") 41, (.builtin "ord")⟩, ⟨PyData.keyHash P (S "pow"), .str (S "pow") 42, (.builtin "pow")⟩, ⟨PyData.keyHash P (S "print"), .str (S "print") 43, (.builtin "print")⟩, ⟨PyData.keyHash P (S "repr"), .str (S "repr") 44, (.builtin "repr")⟩, ⟨PyData.keyHash P (S "round"), .str (S "round") 45, (.builtin "round")⟩, ⟨PyData.keyHash P (S "setattr"), .str (S "setattr") 46, (.builtin "setattr")⟩, ⟨PyData.keyHash P (S "sorted"), .str (S "sorted") 47, (.builtin "sorted")⟩, ⟨PyData.keyHash P (S "sum"), .str (S "sum") 48, (.builtin "sum")⟩, ⟨PyData.keyHash P (S "vars"), .str (S "vars") 49, (.builtin "vars")⟩, ⟨PyData.keyHash P (S "None"), .str (S "None") 50, .none⟩, ⟨PyData.keyHash P (S "Ellipsis"), .str (S "Ellipsis") 51, .ellipsis⟩, ⟨PyData.keyHash P (S "NotImplemented"), .str (S "NotImplemented") 52, .notImplemented⟩, ⟨PyData.keyHash P (S "False"), .str (S "False") 53, (.bool false)⟩, ⟨PyData.keyHash P (S "True"), .str (S "True") 54, (.bool true)⟩, ⟨PyData.keyHash P (S "bool"), .str (S "bool") 55, (.type "bool")⟩, ⟨PyData.keyHash P (S "memoryview"), .str (S "memoryview") 56, (.type "memoryview")⟩, ⟨PyData.keyHash P (S "bytearray"), .str (S "bytearray") 57, (.type "bytearray")⟩, ⟨PyData.keyHash P (S "bytes"), .str (S "bytes") 58, (.type "bytes")⟩, ⟨PyData.keyHash P (S "classmethod"), .str (S "classmethod") 59, (.type "classmethod")⟩, ⟨PyData.keyHash P (S "complex"), .str (S "complex") 60, (.type "complex")⟩, ⟨PyData.keyHash P (S "dict"), .str (S "dict") 61, (.type "dict")⟩, ⟨PyData.keyHash P (S "enumerate"), .str (S "enumerate") 62, (.type "enumerate")⟩, ⟨PyData.keyHash P (S "filter"), .str (S "filter") 63, (.type "filter")⟩, ⟨PyData.keyHash P (S "float"), .str (S "float") 64, (.type "float")⟩, ⟨PyData.keyHash P (S "frozenset"), .str (S "frozenset") 65, (.type "frozenset")⟩, ⟨PyData.keyHash P (S "property"), .str (S "property") 66, (.type "property")⟩, ⟨PyData.keyHash P (S "int"), .str (S "int") 67, (.type "int")⟩, ⟨PyData.keyHash P (S "list"), .str (S "list") 68, (.type "list")⟩, ⟨PyData.keyHash P (S "map"), .str (S "map") 69, (.type "map")⟩, ⟨PyData.keyHash P (S "object"), .str (S "object") 70, (.type "object")⟩, ⟨PyData.keyHash P (S "range"), .str (S "range") 71, (.type "range")⟩, ⟨PyData.keyHash P (S "reversed"), .str (S "reversed") 72, (.type "reversed")⟩, ⟨PyData.keyHash P (S "set"), .str (S "set") 73, (.type "set")⟩, ⟨PyData.keyHash P (S "slice"), .str (S "slice") 74, (.type "slice")⟩, ⟨PyData.keyHash P (S "staticmethod"), .str (S "staticmethod") 75, (.type "staticmethod")⟩, ⟨PyData.keyHash P (S "str"), .str (S "str") 76, (.type "str")⟩, ⟨PyData.keyHash P (S "super"), .str (S "super") 77, (.type "super")⟩, ⟨PyData.keyHash P (S "tuple"), .str (S "tuple") 78, (.type "tuple")⟩, ⟨PyData.keyHash P (S "type"), .str (S "type") 79, (.type "type")⟩, ⟨PyData.keyHash P (S "zip"), .str (S "zip") 80, (.type "zip")⟩, ⟨PyData.keyHash P (S "__debug__"), .str (S "__debug__") 81, (.bool true)⟩, ⟨PyData.keyHash P (S "BaseException"), .str (S "BaseException") 82, (.type "BaseException")⟩, ⟨PyData.keyHash P (S "BaseExceptionGroup"), .str (S "BaseExceptionGroup") 83, (.type "BaseExceptionGroup")⟩, ⟨PyData.keyHash P (S "Exception"), .str (S "Exception") 84, (.type "Exception")⟩, ⟨PyData.keyHash P (S "GeneratorExit"), .str (S "GeneratorExit") 85, (.type "GeneratorExit")⟩, ⟨PyData.keyHash P (S "KeyboardInterrupt"), .str (S "KeyboardInterrupt") 86, (.type "KeyboardInterrupt")⟩, ⟨PyData.keyHash P (S "SystemExit"), .str (S "SystemExit") 87, (.type "SystemExit")⟩, ⟨PyData.keyHash P (S "ArithmeticError"), .str (S "ArithmeticError") 88, (.type "ArithmeticError")⟩, ⟨PyData.keyHash P (S "AssertionError"), .str (S "AssertionError") 89, (.type "AssertionError")⟩, ⟨PyData.keyHash P (S "AttributeError"), .str (S "AttributeError") 90, (.type "AttributeError")⟩, ⟨PyData.keyHash P (S "BufferError"), .str (S "BufferError") 91, (.type "BufferError")⟩, ⟨PyData.keyHash P (S "EOFError"), .str (S "EOFError") 92, (.type "EOFError")⟩, ⟨PyData.keyHash P (S "ImportError"), .str (S "ImportError") 93, (.type "ImportError")⟩, ⟨PyData.keyHash P (S "LookupError"), .str (S "LookupError") 94, (.type "LookupError")⟩, ⟨PyData.keyHash P (S "MemoryError"), .str (S "MemoryError") 95, (.type "MemoryError")⟩, ⟨PyData.keyHash P (S "NameError"), .str (S "NameError") 96, (.type "NameError")⟩, ⟨PyData.keyHash P (S "OSError"), .str (S "OSError") 97, (.type "OSError")⟩, ⟨PyData.keyHash P (S "ReferenceError"), .str (S "ReferenceError") 98, (.type "ReferenceError")⟩, ⟨PyData.keyHash P (S "RuntimeError"), .str (S "RuntimeError") 99, (.type "RuntimeError")⟩, ⟨PyData.keyHash P (S "StopAsyncIteration"), .str (S "StopAsyncIteration") 100, (.type "StopAsyncIteration")⟩, ⟨PyData.keyHash P (S "StopIteration"), .str (S "StopIteration") 101, (.type "StopIteration")⟩, ⟨PyData.keyHash P (S "SyntaxError"), .str (S "SyntaxError") 102, (.type "SyntaxError")⟩, ⟨PyData.keyHash P (S "SystemError"), .str (S "SystemError") 103, (.type "SystemError")⟩, ⟨PyData.keyHash P (S "TypeError"), .str (S "TypeError") 104, (.type "TypeError")⟩, ⟨PyData.keyHash P (S "ValueError"), .str (S "ValueError") 105, (.type "ValueError")⟩, ⟨PyData.keyHash P (S "Warning"), .str (S "Warning") 106, (.type "Warning")⟩, ⟨PyData.keyHash P (S "FloatingPointError"), .str (S "FloatingPointError") 107, (.type "FloatingPointError")⟩, ⟨PyData.keyHash P (S "OverflowError"), .str (S "OverflowError") 108, (.type "OverflowError")⟩, ⟨PyData.keyHash P (S "ZeroDivisionError"), .str (S "ZeroDivisionError") 109, (.type "ZeroDivisionError")⟩, ⟨PyData.keyHash P (S "BytesWarning"), .str (S "BytesWarning") 110, (.type "BytesWarning")⟩, ⟨PyData.keyHash P (S "DeprecationWarning"), .str (S "DeprecationWarning") 111, (.type "DeprecationWarning")⟩, ⟨PyData.keyHash P (S "EncodingWarning"), .str (S "EncodingWarning") 112, (.type "EncodingWarning")⟩, ⟨PyData.keyHash P (S "FutureWarning"), .str (S "FutureWarning") 113, (.type "FutureWarning")⟩, ⟨PyData.keyHash P (S "ImportWarning"), .str (S "ImportWarning") 114, (.type "ImportWarning")⟩, ⟨PyData.keyHash P (S "PendingDeprecationWarning"), .str (S "PendingDeprecationWarning") 115, (.type "PendingDeprecationWarning")⟩, ⟨PyData.keyHash P (S "ResourceWarning"), .str (S "ResourceWarning") 116, (.type "ResourceWarning")⟩, ⟨PyData.keyHash P (S "RuntimeWarning"), .str (S "RuntimeWarning") 117, (.type "RuntimeWarning")⟩, ⟨PyData.keyHash P (S "SyntaxWarning"), .str (S "SyntaxWarning") 118, (.type "SyntaxWarning")⟩, ⟨PyData.keyHash P (S "UnicodeWarning"), .str (S "UnicodeWarning") 119, (.type "UnicodeWarning")⟩, ⟨PyData.keyHash P (S "UserWarning"), .str (S "UserWarning") 120, (.type "UserWarning")⟩, ⟨PyData.keyHash P (S "BlockingIOError"), .str (S "BlockingIOError") 121, (.type "BlockingIOError")⟩, ⟨PyData.keyHash P (S "ChildProcessError"), .str (S "ChildProcessError") 122, (.type "ChildProcessError")⟩, ⟨PyData.keyHash P (S "ConnectionError"), .str (S "ConnectionError") 123, (.type "ConnectionError")⟩, ⟨PyData.keyHash P (S "FileExistsError"), .str (S "FileExistsError") 124, (.type "FileExistsError")⟩, ⟨PyData.keyHash P (S "FileNotFoundError"), .str (S "FileNotFoundError") 125, (.type "FileNotFoundError")⟩, ⟨PyData.keyHash P (S "InterruptedError"), .str (S "InterruptedError") 126, (.type "InterruptedError")⟩, ⟨PyData.keyHash P (S "IsADirectoryError"), .str (S "IsADirectoryError") 127, (.type "IsADirectoryError")⟩, ⟨PyData.keyHash P (S "NotADirectoryError"), .str (S "NotADirectoryError") 128, (.type "NotADirectoryError")⟩, ⟨PyData.keyHash P (S "PermissionError"), .str (S "PermissionError") 129, (.type "PermissionError")⟩, ⟨PyData.keyHash P (S "ProcessLookupError"), .str (S "ProcessLookupError") 130, (.type "ProcessLookupError")⟩, ⟨PyData.keyHash P (S "TimeoutError"), .str (S "TimeoutError") 131, (.type "TimeoutError")⟩, ⟨PyData.keyHash P (S "IndentationError"), .str (S "IndentationError") 132, (.type "IndentationError")⟩, ⟨PyData.keyHash P (S "_IncompleteInputError"), .str (S "_IncompleteInputError") 133, (.type "_IncompleteInputError")⟩, ⟨PyData.keyHash P (S "IndexError"), .str (S "IndexError") 134, (.type "IndexError")⟩, ⟨PyData.keyHash P (S "KeyError"), .str (S "KeyError") 135, (.type "KeyError")⟩, ⟨PyData.keyHash P (S "ModuleNotFoundError"), .str (S "ModuleNotFoundError") 136, (.type "ModuleNotFoundError")⟩, ⟨PyData.keyHash P (S "NotImplementedError"), .str (S "NotImplementedError") 137, (.type "NotImplementedError")⟩, ⟨PyData.keyHash P (S "PythonFinalizationError"), .str (S "PythonFinalizationError") 138, (.type "PythonFinalizationError")⟩, ⟨PyData.keyHash P (S "RecursionError"), .str (S "RecursionError") 139, (.type "RecursionError")⟩, ⟨PyData.keyHash P (S "UnboundLocalError"), .str (S "UnboundLocalError") 140, (.type "UnboundLocalError")⟩, ⟨PyData.keyHash P (S "UnicodeError"), .str (S "UnicodeError") 141, (.type "UnicodeError")⟩, ⟨PyData.keyHash P (S "BrokenPipeError"), .str (S "BrokenPipeError") 142, (.type "BrokenPipeError")⟩, ⟨PyData.keyHash P (S "ConnectionAbortedError"), .str (S "ConnectionAbortedError") 143, (.type "ConnectionAbortedError")⟩, ⟨PyData.keyHash P (S "ConnectionRefusedError"), .str (S "ConnectionRefusedError") 144, (.type "ConnectionRefusedError")⟩, ⟨PyData.keyHash P (S "ConnectionResetError"), .str (S "ConnectionResetError") 145, (.type "ConnectionResetError")⟩, ⟨PyData.keyHash P (S "TabError"), .str (S "TabError") 146, (.type "TabError")⟩, ⟨PyData.keyHash P (S "UnicodeDecodeError"), .str (S "UnicodeDecodeError") 147, (.type "UnicodeDecodeError")⟩, ⟨PyData.keyHash P (S "UnicodeEncodeError"), .str (S "UnicodeEncodeError") 148, (.type "UnicodeEncodeError")⟩, ⟨PyData.keyHash P (S "UnicodeTranslateError"), .str (S "UnicodeTranslateError") 149, (.type "UnicodeTranslateError")⟩, ⟨PyData.keyHash P (S "ExceptionGroup"), .str (S "ExceptionGroup") 150, (.type "ExceptionGroup")⟩, ⟨PyData.keyHash P (S "EnvironmentError"), .str (S "EnvironmentError") 151, (.type "OSError")⟩, ⟨PyData.keyHash P (S "IOError"), .str (S "IOError") 152, (.type "OSError")⟩, ⟨PyData.keyHash P (S "open"), .str (S "open") 153, (.builtin "open")⟩, ⟨PyData.keyHash P (S "quit"), .str (S "quit") 154, (.builtin "builtins.quit#opaque")⟩, ⟨PyData.keyHash P (S "exit"), .str (S "exit") 155, (.builtin "builtins.exit#opaque")⟩, ⟨PyData.keyHash P (S "copyright"), .str (S "copyright") 156, (.builtin "builtins.copyright#opaque")⟩, ⟨PyData.keyHash P (S "credits"), .str (S "credits") 157, (.builtin "builtins.credits#opaque")⟩, ⟨PyData.keyHash P (S "license"), .str (S "license") 158, (.builtin "builtins.license#opaque")⟩, ⟨PyData.keyHash P (S "help"), .str (S "help") 159, (.builtin "builtins.help#opaque")⟩] 159), #[]⟩
noncomputable def o_1 (P : Params) : Obj := ⟨(.type "dict"), none, (.dict #[⟨PyData.keyHash P (S "builtins"), .str (S "builtins") 162, (.ref 4)⟩, ⟨PyData.keyHash P (S "__main__"), .str (S "__main__") 163, (.ref 5)⟩, ⟨PyData.keyHash P (S "_sre"), .str (S "_sre") 244, (.ref 12)⟩] 3), #[]⟩
noncomputable def o_2 (P : Params) : Obj := ⟨.none, none, (.dict #[⟨PyData.keyHash P (S "\x69mport.loaded._sre"), .str (S "\x69mport.loaded._sre") 183, (.bool true)⟩, ⟨PyData.keyHash P (S "class._frozen_importlib.BuiltinImporter"), .str (S "class._frozen_importlib.BuiltinImporter") 185, (.ref 14)⟩, ⟨PyData.keyHash P (S "watched.\x69mport"), .str (S "watched.\x69mport") 206, (.ref 18)⟩, ⟨PyData.keyHash P (S "class._frozen_importlib.ModuleSpec"), .str (S "class._frozen_importlib.ModuleSpec") 216, (.ref 22)⟩, ⟨PyData.keyHash P (S "sys.modules.booked-epoch"), .str (S "sys.modules.booked-epoch") 245, (.int 3 0)⟩, ⟨PyData.keyHash P (S "\x69mport.later-laid._sre"), .str (S "\x69mport.later-laid._sre") 270, (.bool true)⟩, ⟨PyData.keyHash P (S "watched.library"), .str (S "watched.library") 272, (.ref 27)⟩, ⟨PyData.keyHash P (S "watched.library-objects"), .str (S "watched.library-objects") 0, (.str (S "\x0c") 0)⟩, ⟨PyData.keyHash P (S "watched.library-deep._sre"), .str (S "watched.library-deep._sre") 273, (.str (S "\x04\x00\x00\x0b\x04\x00\x00\x0b\x04\x00\x00\x03\x04\x00\x00\x0b\x08\x04dict\x02") 0)⟩] 9), #[]⟩
noncomputable def o_3 (P : Params) : Obj := ⟨(.type "dict"), none, (.dict #[⟨PyData.keyHash P (S "__name__"), .str (S "__name__") 165, (.str (S "__main__") 164)⟩, ⟨PyData.keyHash P (S "__doc__"), .str (S "__doc__") 166, .none⟩, ⟨PyData.keyHash P (S "__package__"), .str (S "__package__") 167, .none⟩, ⟨PyData.keyHash P (S "__loader__"), .str (S "__loader__") 168, (.builtin "__main__.__loader__#opaque")⟩, ⟨PyData.keyHash P (S "__spec__"), .str (S "__spec__") 169, .none⟩, ⟨PyData.keyHash P (S "__annotations__"), .str (S "__annotations__") 170, (.ref 6)⟩, ⟨PyData.keyHash P (S "__builtins__"), .str (S "__builtins__") 171, (.ref 4)⟩, ⟨PyData.keyHash P (S "__file__"), .str (S "__file__") 173, (.str (S "/claim/cut.py") 172)⟩, ⟨PyData.keyHash P (S "__cached__"), .str (S "__cached__") 174, .none⟩, ⟨PyData.keyHash P (S "_sre"), .str (S "_sre") 275, (.ref 12)⟩] 10), #[]⟩
noncomputable def o_4 (P : Params) : Obj := ⟨(.type "module"), (some 0), .plain, #[]⟩
noncomputable def o_5 (P : Params) : Obj := ⟨(.type "module"), (some 3), .plain, #[]⟩
noncomputable def o_6 (P : Params) : Obj := ⟨(.type "dict"), none, (.dict #[] 0), #[]⟩
noncomputable def o_7 (P : Params) : Obj := ⟨(.type "tuple"), none, (.seq #[] 0), #[]⟩
noncomputable def o_8 (P : Params) : Obj := ⟨.none, none, (.fields #[]), #[]⟩
noncomputable def o_9 (P : Params) : Obj := ⟨(.type "code"), none, (.fields #[(.str (S "<module>") 176), (.str (S "<module>") 177), (.str (S "/claim/cut.py") 178), (.int 1 0), (.int 0 0), (.int 0 0), (.int 0 0), (.int 0 0), (.ref 7), (.bool false), (.int 175 0), (.ref 8), .none, .none, .none, .none, (.int 179 0), (.int 1 0), (.str (S "/claim/cut.py") 180)]), #[]⟩
noncomputable def o_10 (P : Params) : Obj := ⟨(.type "frame"), none, .plain, #[(some (.ref 9)), (some (.ref 3)), (some (.ref 3)), none, (some (.str (S "__main__") 164)), none, (some (.ref 0))]⟩
noncomputable def o_11 (P : Params) : Obj := ⟨(.type "dict"), none, (.dict #[⟨PyData.keyHash P (S "__name__"), .str (S "__name__") 247, (.str (S "_sre") 246)⟩, ⟨PyData.keyHash P (S "__doc__"), .str (S "__doc__") 248, .none⟩, ⟨PyData.keyHash P (S "__package__"), .str (S "__package__") 250, (.str (S "") 249)⟩, ⟨PyData.keyHash P (S "__loader__"), .str (S "__loader__") 251, (.builtin "off-the-table:_sre.__loader__:shared#opaque")⟩, ⟨PyData.keyHash P (S "__spec__"), .str (S "__spec__") 252, (.builtin "off-the-table:_sre.__spec__:shared#opaque")⟩, ⟨PyData.keyHash P (S "compile"), .str (S "compile") 253, (.builtin "_sre.compile")⟩, ⟨PyData.keyHash P (S "template"), .str (S "template") 254, (.builtin "off-the-table:_sre.template:shared#opaque")⟩, ⟨PyData.keyHash P (S "getcodesize"), .str (S "getcodesize") 255, (.builtin "off-the-table:_sre.getcodesize:shared#opaque")⟩, ⟨PyData.keyHash P (S "ascii_iscased"), .str (S "ascii_iscased") 256, (.builtin "off-the-table:_sre.ascii_iscased:shared#opaque")⟩, ⟨PyData.keyHash P (S "unicode_iscased"), .str (S "unicode_iscased") 257, (.builtin "off-the-table:_sre.unicode_iscased:shared#opaque")⟩, ⟨PyData.keyHash P (S "ascii_tolower"), .str (S "ascii_tolower") 258, (.builtin "off-the-table:_sre.ascii_tolower:shared#opaque")⟩, ⟨PyData.keyHash P (S "unicode_tolower"), .str (S "unicode_tolower") 259, (.builtin "off-the-table:_sre.unicode_tolower:shared#opaque")⟩, ⟨PyData.keyHash P (S "MAGIC"), .str (S "MAGIC") 261, (.int 20230612 260)⟩, ⟨PyData.keyHash P (S "CODESIZE"), .str (S "CODESIZE") 263, (.int 4 262)⟩, ⟨PyData.keyHash P (S "MAXREPEAT"), .str (S "MAXREPEAT") 265, (.int 4294967295 264)⟩, ⟨PyData.keyHash P (S "MAXGROUPS"), .str (S "MAXGROUPS") 267, (.int 1073741823 266)⟩, ⟨PyData.keyHash P (S "copyright"), .str (S "copyright") 269, (.str (S " SRE 2.2.2 Copyright (c) 1997-2002 by Secret Labs AB ") 268)⟩] 17), #[]⟩
noncomputable def o_12 (P : Params) : Obj := ⟨(.type "module"), (some 11), .plain, #[]⟩
noncomputable def o_13 (P : Params) : Obj := ⟨(.type "dict"), none, (.dict #[⟨PyData.keyHash P (S "__module__"), .str (S "__module__") 189, (.str (S "_frozen_importlib") 186)⟩, ⟨PyData.keyHash P (S "__firstlineno__"), .str (S "__firstlineno__") 190, (.int 971 187)⟩, ⟨PyData.keyHash P (S "__doc__"), .str (S "__doc__") 191, (.builtin "_frozen_importlib.BuiltinImporter.__doc__:str#opaque")⟩, ⟨PyData.keyHash P (S "_ORIGIN"), .str (S "_ORIGIN") 192, (.str (S "built-in") 188)⟩, ⟨PyData.keyHash P (S "find_spec"), .str (S "find_spec") 193, (.builtin "_frozen_importlib.BuiltinImporter.find_spec#opaque")⟩, ⟨PyData.keyHash P (S "create_module"), .str (S "create_module") 194, (.builtin "_frozen_importlib.BuiltinImporter.create_module#opaque")⟩, ⟨PyData.keyHash P (S "exec_module"), .str (S "exec_module") 195, (.builtin "_frozen_importlib.BuiltinImporter.exec_module#opaque")⟩, ⟨PyData.keyHash P (S "get_code"), .str (S "get_code") 196, (.builtin "_frozen_importlib.BuiltinImporter.get_code#opaque")⟩, ⟨PyData.keyHash P (S "get_source"), .str (S "get_source") 197, (.builtin "_frozen_importlib.BuiltinImporter.get_source#opaque")⟩, ⟨PyData.keyHash P (S "is_package"), .str (S "is_package") 198, (.builtin "_frozen_importlib.BuiltinImporter.is_package#opaque")⟩, ⟨PyData.keyHash P (S "load_module"), .str (S "load_module") 199, (.builtin "_frozen_importlib.BuiltinImporter.load_module#opaque")⟩, ⟨PyData.keyHash P (S "__static_attributes__"), .str (S "__static_attributes__") 200, (.ref 15)⟩, ⟨PyData.keyHash P (S "__dict__"), .str (S "__dict__") 202, (.ref 16)⟩, ⟨PyData.keyHash P (S "__weakref__"), .str (S "__weakref__") 204, (.ref 17)⟩] 14), #[]⟩
noncomputable def o_14 (P : Params) : Obj := ⟨(.type "type"), none, (.cls ⟨(S "BuiltinImporter"), [(.type "object")], [(.ref 14), (.type "object")], 13, (S "BuiltinImporter"), true, [], [], false, none, false⟩), #[]⟩
noncomputable def o_15 (P : Params) : Obj := ⟨(.type "tuple"), none, (.seq #[] 0), #[]⟩
noncomputable def o_16 (P : Params) : Obj := ⟨(.type "getset_descriptor"), none, (.fields #[(.str (S "__dict__") 201), (.ref 14), (.builtin "function.__dict__"), (.builtin "function.__dict__#set")]), #[]⟩
noncomputable def o_17 (P : Params) : Obj := ⟨(.type "getset_descriptor"), none, (.fields #[(.str (S "__weakref__") 203), (.ref 14), (.builtin "ExceptionGroup.__weakref__"), .none]), #[]⟩
noncomputable def o_18 (P : Params) : Obj := ⟨.none, none, (.seq #[(.int 13 0), (.str (S "\x06½\n__module__\x06º\x11_frozen_importlib\x06¾\x0f__firstlineno__\x04»\x00ϋ\x06¿\x07__doc__\t4_frozen_importlib.BuiltinImporter.__doc__:str#opaque\x06À\x07_ORIGIN\x06¼\x08built-in\x06Á\tfind_spec\t2_frozen_importlib.BuiltinImporter.find_spec#opaque\x06Â\rcreate_module\t6_frozen_importlib.BuiltinImporter.create_module#opaque\x06Ã\x0bexec_module\t4_frozen_importlib.BuiltinImporter.exec_module#opaque\x06Ä\x08get_code\t1_frozen_importlib.BuiltinImporter.get_code#opaque\x06Å\nget_source\t3_frozen_importlib.BuiltinImporter.get_source#opaque\x06Æ\nis_package\t3_frozen_importlib.BuiltinImporter.is_package#opaque\x06Ç\x0bload_module\t4_frozen_importlib.BuiltinImporter.load_module#opaque\x06È\x15__static_attributes__\x04\x00\x00\x0f\x06Ê\x08__dict__\x04\x00\x00\x10\x06Ì\x0b__weakref__\x04\x00\x00\x11") 0), (.bool true), (.bool true), (.str (S "") 205), (.int 21 0), (.str (S "\x06ã\n__module__\x06Ù\x11_frozen_importlib\x06ä\x0f__firstlineno__\x04Ú\x00Ȳ\x06å\x07__doc__\t/_frozen_importlib.ModuleSpec.__doc__:str#opaque\x06æ\x08__init__\t,_frozen_importlib.ModuleSpec.__init__#opaque\x06ç\x08__repr__\t,_frozen_importlib.ModuleSpec.__repr__#opaque\x06è\x06__eq__\t*_frozen_importlib.ModuleSpec.__eq__#opaque\x06é\x06cached\t*_frozen_importlib.ModuleSpec.cached#opaque\x06ê\x06parent\t*_frozen_importlib.ModuleSpec.parent#opaque\x06ë\x0chas_location\t0_frozen_importlib.ModuleSpec.has_location#opaque\x06ì\x15__static_attributes__\x04\x00\x00\x17\x06î\x08__dict__\x04\x00\x00\x18\x06ð\x0b__weakref__\x04\x00\x00\x19\x06ñ\x08__hash__\x00") 0), (.bool true), (.bool true), (.str (S "") 242)] 1), #[]⟩
noncomputable def o_19 (P : Params) : Obj := ⟨(.type "list"), none, (.seq #[] 0), #[]⟩
noncomputable def o_20 (P : Params) : Obj := ⟨(.type "dict"), none, (.dict #[⟨PyData.keyHash P (S "name"), .str (S "name") 208, (.str (S "_sre") 207)⟩, ⟨PyData.keyHash P (S "loader"), .str (S "loader") 209, (.ref 14)⟩, ⟨PyData.keyHash P (S "origin"), .str (S "origin") 210, (.str (S "built-in") 184)⟩, ⟨PyData.keyHash P (S "loader_state"), .str (S "loader_state") 211, .none⟩, ⟨PyData.keyHash P (S "submodule_search_locations"), .str (S "submodule_search_locations") 212, .none⟩, ⟨PyData.keyHash P (S "_uninitialized_submodules"), .str (S "_uninitialized_submodules") 213, (.ref 19)⟩, ⟨PyData.keyHash P (S "_set_fileattr"), .str (S "_set_fileattr") 214, (.bool false)⟩, ⟨PyData.keyHash P (S "_cached"), .str (S "_cached") 215, .none⟩, ⟨PyData.keyHash P (S "_initializing"), .str (S "_initializing") 243, (.bool false)⟩] 9), #[]⟩
noncomputable def o_21 (P : Params) : Obj := ⟨(.type "dict"), none, (.dict #[⟨PyData.keyHash P (S "__module__"), .str (S "__module__") 227, (.str (S "_frozen_importlib") 217)⟩, ⟨PyData.keyHash P (S "__firstlineno__"), .str (S "__firstlineno__") 228, (.int 562 218)⟩, ⟨PyData.keyHash P (S "__doc__"), .str (S "__doc__") 229, (.builtin "_frozen_importlib.ModuleSpec.__doc__:str#opaque")⟩, ⟨PyData.keyHash P (S "__init__"), .str (S "__init__") 230, (.builtin "_frozen_importlib.ModuleSpec.__init__#opaque")⟩, ⟨PyData.keyHash P (S "__repr__"), .str (S "__repr__") 231, (.builtin "_frozen_importlib.ModuleSpec.__repr__#opaque")⟩, ⟨PyData.keyHash P (S "__eq__"), .str (S "__eq__") 232, (.builtin "_frozen_importlib.ModuleSpec.__eq__#opaque")⟩, ⟨PyData.keyHash P (S "cached"), .str (S "cached") 233, (.builtin "_frozen_importlib.ModuleSpec.cached#opaque")⟩, ⟨PyData.keyHash P (S "parent"), .str (S "parent") 234, (.builtin "_frozen_importlib.ModuleSpec.parent#opaque")⟩, ⟨PyData.keyHash P (S "has_location"), .str (S "has_location") 235, (.builtin "_frozen_importlib.ModuleSpec.has_location#opaque")⟩, ⟨PyData.keyHash P (S "__static_attributes__"), .str (S "__static_attributes__") 236, (.ref 23)⟩, ⟨PyData.keyHash P (S "__dict__"), .str (S "__dict__") 238, (.ref 24)⟩, ⟨PyData.keyHash P (S "__weakref__"), .str (S "__weakref__") 240, (.ref 25)⟩, ⟨PyData.keyHash P (S "__hash__"), .str (S "__hash__") 241, .none⟩] 13), #[]⟩
noncomputable def o_22 (P : Params) : Obj := ⟨(.type "type"), none, (.cls ⟨(S "ModuleSpec"), [(.type "object")], [(.ref 22), (.type "object")], 21, (S "ModuleSpec"), true, [], [], false, none, false⟩), #[]⟩
noncomputable def o_23 (P : Params) : Obj := ⟨(.type "tuple"), none, (.seq #[(.str (S "_cached") 219), (.str (S "_set_fileattr") 220), (.str (S "_uninitialized_submodules") 221), (.str (S "loader") 222), (.str (S "loader_state") 223), (.str (S "name") 224), (.str (S "origin") 225), (.str (S "submodule_search_locations") 226)] 0), #[]⟩
noncomputable def o_24 (P : Params) : Obj := ⟨(.type "getset_descriptor"), none, (.fields #[(.str (S "__dict__") 237), (.ref 22), (.builtin "function.__dict__"), (.builtin "function.__dict__#set")]), #[]⟩
noncomputable def o_25 (P : Params) : Obj := ⟨(.type "getset_descriptor"), none, (.fields #[(.str (S "__weakref__") 239), (.ref 22), (.builtin "ExceptionGroup.__weakref__"), .none]), #[]⟩
noncomputable def o_26 (P : Params) : Obj := ⟨(.ref 22), (some 20), .plain, #[]⟩
noncomputable def o_27 (P : Params) : Obj := ⟨.none, none, (.seq #[(.int 11 0), (.str (PySem.Str.mk #[6, 247, 8, 95, 95, 110, 97, 109, 101, 95, 95, 6, 246, 4, 95, 115, 114, 101, 6, 248, 7, 95, 95, 100, 111, 99, 95, 95, 0, 6, 250, 11, 95, 95, 112, 97, 99, 107, 97, 103, 101, 95, 95, 6, 249, 0, 6, 251, 10, 95, 95, 108, 111, 97, 100, 101, 114, 95, 95, 4, 0, 0, 14, 6, 252, 8, 95, 95, 115, 112, 101, 99, 95, 95, 4, 0, 0, 26, 6, 253, 7, 99, 111, 109, 112, 105, 108, 101, 9, 12, 95, 115, 114, 101, 46, 99, 111, 109, 112, 105, 108, 101, 6, 254, 8, 116, 101, 109, 112, 108, 97, 116, 101, 9, 13, 95, 115, 114, 101, 46, 116, 101, 109, 112, 108, 97, 116, 101, 6, 255, 11, 103, 101, 116, 99, 111, 100, 101, 115, 105, 122, 101, 9, 16, 95, 115, 114, 101, 46, 103, 101, 116, 99, 111, 100, 101, 115, 105, 122, 101, 6, 256, 13, 97, 115, 99, 105, 105, 95, 105, 115, 99, 97, 115, 101, 100, 9, 18, 95, 115, 114, 101, 46, 97, 115, 99, 105, 105, 95, 105, 115, 99, 97, 115, 101, 100, 6, 257, 15, 117, 110, 105, 99, 111, 100, 101, 95, 105, 115, 99, 97, 115, 101, 100, 9, 20, 95, 115, 114, 101, 46, 117, 110, 105, 99, 111, 100, 101, 95, 105, 115, 99, 97, 115, 101, 100, 6, 258, 13, 97, 115, 99, 105, 105, 95, 116, 111, 108, 111, 119, 101, 114, 9, 18, 95, 115, 114, 101, 46, 97, 115, 99, 105, 105, 95, 116, 111, 108, 111, 119, 101, 114, 6, 259, 15, 117, 110, 105, 99, 111, 100, 101, 95, 116, 111, 108, 111, 119, 101, 114, 9, 20, 95, 115, 114, 101, 46, 117, 110, 105, 99, 111, 100, 101, 95, 116, 111, 108, 111, 119, 101, 114, 6, 261, 5, 77, 65, 71, 73, 67, 4, 260, 0, 20230612, 6, 263, 8, 67, 79, 68, 69, 83, 73, 90, 69, 4, 262, 0, 4, 6, 265, 9, 77, 65, 88, 82, 69, 80, 69, 65, 84, 4, 264, 0, 4294967295, 6, 267, 9, 77, 65, 88, 71, 82, 79, 85, 80, 83, 4, 266, 0, 1073741823, 6, 269, 9, 99, 111, 112, 121, 114, 105, 103, 104, 116, 6, 268, 53, 32, 83, 82, 69, 32, 50, 46, 50, 46, 50, 32, 67, 111, 112, 121, 114, 105, 103, 104, 116, 32, 40, 99, 41, 32, 49, 57, 57, 55, 45, 50, 48, 48, 50, 32, 98, 121, 32, 83, 101, 99, 114, 101, 116, 32, 76, 97, 98, 115, 32, 65, 66, 32]) 0), (.bool true), (.bool false), (.str (S "_sre") 271)] 0), #[]⟩
noncomputable def T_0 (P : Params) : BT := (.node (o_0 P) (.node (o_1 P) (.node (o_3 P) (.node (o_7 P) (.node (o_15 P) .nil .nil) (.node (o_23 P) .nil .nil)) (.node (o_11 P) (.node (o_19 P) .nil .nil) (.node (o_27 P) .nil .nil))) (.node (o_5 P) (.node (o_9 P) (.node (o_17 P) .nil .nil) (.node (o_25 P) .nil .nil)) (.node (o_13 P) (.node (o_21 P) .nil .nil) .nil))) (.node (o_2 P) (.node (o_4 P) (.node (o_8 P) (.node (o_16 P) .nil .nil) (.node (o_24 P) .nil .nil)) (.node (o_12 P) (.node (o_20 P) .nil .nil) .nil)) (.node (o_6 P) (.node (o_10 P) (.node (o_18 P) .nil .nil) (.node (o_26 P) .nil .nil)) (.node (o_14 P) (.node (o_22 P) .nil .nil) .nil))))
noncomputable abbrev st_0 (w : World) (os : OsState) : SharedT := ⟨T_0 w.params, 28, {}, #[], {}, 276, os⟩
noncomputable def o_28 (P : Params) : Obj := ⟨(.type "tuple"), none, (.seq #[] 0), #[]⟩
noncomputable def o_29 (P : Params) : Obj := ⟨.none, none, (.fields #[]), #[]⟩
noncomputable def o_30 (P : Params) : Obj := ⟨(.type "code"), none, (.fields #[(.str (S "<module>") 277), (.str (S "<module>") 278), (.str (S "/claim/cut.py") 279), (.int 1 0), (.int 0 0), (.int 0 0), (.int 0 0), (.int 0 0), (.ref 28), (.bool false), (.int 276 0), (.ref 29), .none, .none, .none, .none, (.int 280 0), (.int 1 0), (.str (S "/claim/cut.py") 281)]), #[]⟩
noncomputable def o_31 (P : Params) : Obj := ⟨(.type "frame"), none, .plain, #[(some (.ref 30)), (some (.ref 3)), (some (.ref 3)), none, (some (.str (S "__main__") 164)), none, (some (.ref 0))]⟩
noncomputable def T_a (P : Params) : BT := (.node (o_0 P) (.node (o_1 P) (.node (o_3 P) (.node (o_7 P) (.node (o_15 P) (.node (o_31 P) .nil .nil) .nil) (.node (o_23 P) .nil .nil)) (.node (o_11 P) (.node (o_19 P) .nil .nil) (.node (o_27 P) .nil .nil))) (.node (o_5 P) (.node (o_9 P) (.node (o_17 P) .nil .nil) (.node (o_25 P) .nil .nil)) (.node (o_13 P) (.node (o_21 P) .nil .nil) (.node (o_29 P) .nil .nil)))) (.node (o_2 P) (.node (o_4 P) (.node (o_8 P) (.node (o_16 P) .nil .nil) (.node (o_24 P) .nil .nil)) (.node (o_12 P) (.node (o_20 P) .nil .nil) (.node (o_28 P) .nil .nil))) (.node (o_6 P) (.node (o_10 P) (.node (o_18 P) .nil .nil) (.node (o_26 P) .nil .nil)) (.node (o_14 P) (.node (o_22 P) .nil .nil) (.node (o_30 P) .nil .nil)))))
noncomputable abbrev st_a (w : World) (os : OsState) : SharedT := ⟨T_a w.params, 32, {}, #[], {}, 282, os⟩
noncomputable def o_3_p11 (P : Params) : Obj := ⟨(.type "dict"), none, (.dict #[⟨PyData.keyHash P (S "__name__"), .str (S "__name__") 165, (.str (S "cpy313.stringprep") 368)⟩, ⟨PyData.keyHash P (S "__doc__"), .str (S "__doc__") 166, .none⟩, ⟨PyData.keyHash P (S "__package__"), .str (S "__package__") 167, .none⟩, ⟨PyData.keyHash P (S "__loader__"), .str (S "__loader__") 168, (.builtin "__main__.__loader__#opaque")⟩, ⟨PyData.keyHash P (S "__spec__"), .str (S "__spec__") 169, .none⟩, ⟨PyData.keyHash P (S "__annotations__"), .str (S "__annotations__") 170, (.ref 6)⟩, ⟨PyData.keyHash P (S "__builtins__"), .str (S "__builtins__") 171, (.ref 4)⟩, ⟨PyData.keyHash P (S "__file__"), .str (S "__file__") 173, (.str (S "/claim/cut.py") 172)⟩, ⟨PyData.keyHash P (S "__cached__"), .str (S "__cached__") 174, .none⟩, ⟨PyData.keyHash P (S "_sre"), .str (S "_sre") 275, (.ref 12)⟩, ⟨PyData.keyHash P (S "_wall"), .str (S "_wall") 288, (.ref 38)⟩, ⟨PyData.keyHash P (S "_MAX_STRING_SIZE"), .str (S "_MAX_STRING_SIZE") 292, (.int 40 291)⟩, ⟨PyData.keyHash P (S "_MOVE_COST"), .str (S "_MOVE_COST") 294, (.int 2 293)⟩, ⟨PyData.keyHash P (S "_CASE_COST"), .str (S "_CASE_COST") 296, (.int 1 295)⟩, ⟨PyData.keyHash P (S "_substitution_cost"), .str (S "_substitution_cost") 304, (.ref 45)⟩, ⟨PyData.keyHash P (S "_levenshtein_distance"), .str (S "_levenshtein_distance") 324, (.ref 52)⟩, ⟨PyData.keyHash P (S "insort_right"), .str (S "insort_right") 339, (.ref 61)⟩, ⟨PyData.keyHash P (S "bisect_right"), .str (S "bisect_right") 353, (.ref 70)⟩, ⟨PyData.keyHash P (S "bisect_left"), .str (S "bisect_left") 367, (.ref 79)⟩] 19), #[]⟩
noncomputable def o_29_p11 (P : Params) : Obj := ⟨.none, none, (.fields #[(.int 2 0), (.int 0 0), (.ref 37), (.int 9 0), (.int 0 0), (.ref 44), (.int 15 0), (.int 0 0), (.ref 51), (.int 54 0), (.int 0 0), (.ref 60), (.int 60 0), (.int 0 0), (.ref 69), (.int 80 0), (.int 0 0), (.ref 78)]), #[]⟩
noncomputable def o_32 (P : Params) : Obj := ⟨(.type "tuple"), none, (.seq #[] 0), #[]⟩
noncomputable def o_33 (P : Params) : Obj := ⟨.none, none, (.fields #[]), #[]⟩
noncomputable def o_34 (P : Params) : Obj := ⟨(.type "tuple"), none, (.seq #[(.str (S "k") 285)] 0), #[]⟩
noncomputable def o_35 (P : Params) : Obj := ⟨(.type "tuple"), none, (.seq #[] 0), #[]⟩
noncomputable def o_36 (P : Params) : Obj := ⟨.none, none, (.func ⟨(S "_wall"), (S "_wall"), fA 1, .stmts (fB 1), fS 1, 0, [], .none, .none, .none, .none, none, .none, .none, 0⟩), #[]⟩
noncomputable def o_37 (P : Params) : Obj := ⟨(.type "code"), none, (.fields #[(.str (S "_wall") 282), (.str (S "_wall") 283), (.str (S "/claim/cut.py") 284), (.int 2 0), (.int 1 0), (.int 0 0), (.int 0 0), (.int 3 0), (.ref 32), (.bool true), (.int 276 0), (.ref 33), .none, (.ref 34), (.ref 35), (.ref 36), (.int 286 0), (.int 2 0), (.str (S "/claim/cut.py") 287)]), #[]⟩
noncomputable def o_38 (P : Params) : Obj := ⟨(.type "function"), none, (.func ⟨(S "_wall"), (S "_wall"), fA 1, .stmts (fB 1), fS 1, 3, [], .none, .none, .none, (.str (S "__main__") 164), none, (.ref 37), .none, 0⟩), #[]⟩
noncomputable def o_39 (P : Params) : Obj := ⟨(.type "tuple"), none, (.seq #[] 0), #[]⟩
noncomputable def o_40 (P : Params) : Obj := ⟨.none, none, (.fields #[]), #[]⟩
noncomputable def o_41 (P : Params) : Obj := ⟨(.type "tuple"), none, (.seq #[(.str (S "ch_a") 300), (.str (S "ch_b") 301)] 0), #[]⟩
noncomputable def o_42 (P : Params) : Obj := ⟨(.type "tuple"), none, (.seq #[] 0), #[]⟩
noncomputable def o_43 (P : Params) : Obj := ⟨.none, none, (.func ⟨(S "_substitution_cost"), (S "_substitution_cost"), fA 6, .stmts (fB 6), fS 6, 0, [], .none, .none, .none, .none, none, .none, .none, 0⟩), #[]⟩
noncomputable def o_44 (P : Params) : Obj := ⟨(.type "code"), none, (.fields #[(.str (S "_substitution_cost") 297), (.str (S "_substitution_cost") 298), (.str (S "/claim/cut.py") 299), (.int 9 0), (.int 2 0), (.int 0 0), (.int 0 0), (.int 3 0), (.ref 39), (.bool true), (.int 276 0), (.ref 40), .none, (.ref 41), (.ref 42), (.ref 43), (.int 302 0), (.int 9 0), (.str (S "/claim/cut.py") 303)]), #[]⟩
noncomputable def o_45 (P : Params) : Obj := ⟨(.type "function"), none, (.func ⟨(S "_substitution_cost"), (S "_substitution_cost"), fA 6, .stmts (fB 6), fS 6, 3, [], .none, .none, .none, (.str (S "cpy313.traceback") 289), none, (.ref 44), .none, 0⟩), #[]⟩
noncomputable def o_46 (P : Params) : Obj := ⟨(.type "tuple"), none, (.seq #[] 0), #[]⟩
noncomputable def o_47 (P : Params) : Obj := ⟨.none, none, (.fields #[]), #[]⟩
noncomputable def o_48 (P : Params) : Obj := ⟨(.type "tuple"), none, (.seq #[(.str (S "a") 308), (.str (S "b") 309), (.str (S "max_cost") 310), (.str (S "pre") 311), (.str (S "post") 312), (.str (S "row") 313), (.str (S "result") 314), (.str (S "bindex") 315), (.str (S "bchar") 316), (.str (S "distance") 317), (.str (S "minimum") 318), (.str (S "index") 319), (.str (S "substitute") 320), (.str (S "insert_delete") 321)] 0), #[]⟩
noncomputable def o_49 (P : Params) : Obj := ⟨(.type "tuple"), none, (.seq #[] 0), #[]⟩
noncomputable def o_50 (P : Params) : Obj := ⟨.none, none, (.func ⟨(S "_levenshtein_distance"), (S "_levenshtein_distance"), fA 7, .stmts (fB 7), fS 7, 0, [], .none, .none, .none, .none, none, .none, .none, 0⟩), #[]⟩
noncomputable def o_51 (P : Params) : Obj := ⟨(.type "code"), none, (.fields #[(.str (S "_levenshtein_distance") 305), (.str (S "_levenshtein_distance") 306), (.str (S "/claim/cut.py") 307), (.int 15 0), (.int 3 0), (.int 0 0), (.int 0 0), (.int 3 0), (.ref 46), (.bool true), (.int 276 0), (.ref 47), .none, (.ref 48), (.ref 49), (.ref 50), (.int 322 0), (.int 15 0), (.str (S "/claim/cut.py") 323)]), #[]⟩
noncomputable def o_52 (P : Params) : Obj := ⟨(.type "function"), none, (.func ⟨(S "_levenshtein_distance"), (S "_levenshtein_distance"), fA 7, .stmts (fB 7), fS 7, 3, [], .none, .none, .none, (.str (S "cpy313.traceback") 289), none, (.ref 51), .none, 0⟩), #[]⟩
noncomputable def o_53 (P : Params) : Obj := ⟨(.type "tuple"), none, (.seq #[(.int 0 327), .none] 0), #[]⟩
noncomputable def o_54 (P : Params) : Obj := ⟨(.type "dict"), none, (.dict #[⟨PyData.keyHash P (S "key"), .str (S "key") 328, .none⟩] 1), #[]⟩
noncomputable def o_55 (P : Params) : Obj := ⟨(.type "tuple"), none, (.seq #[] 0), #[]⟩
noncomputable def o_56 (P : Params) : Obj := ⟨.none, none, (.fields #[]), #[]⟩
noncomputable def o_57 (P : Params) : Obj := ⟨(.type "tuple"), none, (.seq #[(.str (S "a") 332), (.str (S "x") 333), (.str (S "lo") 334), (.str (S "hi") 335), (.str (S "key") 336)] 0), #[]⟩
noncomputable def o_58 (P : Params) : Obj := ⟨(.type "tuple"), none, (.seq #[] 0), #[]⟩
noncomputable def o_59 (P : Params) : Obj := ⟨.none, none, (.func ⟨(S "insort_right"), (S "insort_right"), fA 9, .stmts (fB 9), fS 9, 0, [], .none, .none, .none, .none, none, .none, .none, 0⟩), #[]⟩
noncomputable def o_60 (P : Params) : Obj := ⟨(.type "code"), none, (.fields #[(.str (S "insort_right") 329), (.str (S "insort_right") 330), (.str (S "/claim/cut.py") 331), (.int 54 0), (.int 4 0), (.int 0 0), (.int 1 0), (.int 3 0), (.ref 55), (.bool true), (.int 276 0), (.ref 56), .none, (.ref 57), (.ref 58), (.ref 59), (.int 337 0), (.int 54 0), (.str (S "/claim/cut.py") 338)]), #[]⟩
noncomputable def o_61 (P : Params) : Obj := ⟨(.type "function"), none, (.func ⟨(S "insort_right"), (S "insort_right"), fA 9, .stmts (fB 9), fS 9, 3, [], (.ref 53), (.ref 54), .none, (.str (S "cpy313.bisect") 325), none, (.ref 60), .none, 0⟩), #[]⟩
noncomputable def o_62 (P : Params) : Obj := ⟨(.type "tuple"), none, (.seq #[(.int 0 340), .none] 0), #[]⟩
noncomputable def o_63 (P : Params) : Obj := ⟨(.type "dict"), none, (.dict #[⟨PyData.keyHash P (S "key"), .str (S "key") 341, .none⟩] 1), #[]⟩
noncomputable def o_64 (P : Params) : Obj := ⟨(.type "tuple"), none, (.seq #[] 0), #[]⟩
noncomputable def o_65 (P : Params) : Obj := ⟨.none, none, (.fields #[]), #[]⟩
noncomputable def o_66 (P : Params) : Obj := ⟨(.type "tuple"), none, (.seq #[(.str (S "a") 345), (.str (S "x") 346), (.str (S "lo") 347), (.str (S "hi") 348), (.str (S "key") 349), (.str (S "mid") 350)] 0), #[]⟩
noncomputable def o_67 (P : Params) : Obj := ⟨(.type "tuple"), none, (.seq #[] 0), #[]⟩
noncomputable def o_68 (P : Params) : Obj := ⟨.none, none, (.func ⟨(S "bisect_right"), (S "bisect_right"), fA 10, .stmts (fB 10), fS 10, 0, [], .none, .none, .none, .none, none, .none, .none, 0⟩), #[]⟩
noncomputable def o_69 (P : Params) : Obj := ⟨(.type "code"), none, (.fields #[(.str (S "bisect_right") 342), (.str (S "bisect_right") 343), (.str (S "/claim/cut.py") 344), (.int 60 0), (.int 4 0), (.int 0 0), (.int 1 0), (.int 3 0), (.ref 64), (.bool true), (.int 276 0), (.ref 65), .none, (.ref 66), (.ref 67), (.ref 68), (.int 351 0), (.int 60 0), (.str (S "/claim/cut.py") 352)]), #[]⟩
noncomputable def o_70 (P : Params) : Obj := ⟨(.type "function"), none, (.func ⟨(S "bisect_right"), (S "bisect_right"), fA 10, .stmts (fB 10), fS 10, 3, [], (.ref 62), (.ref 63), .none, (.str (S "cpy313.bisect") 325), none, (.ref 69), .none, 0⟩), #[]⟩
noncomputable def o_71 (P : Params) : Obj := ⟨(.type "tuple"), none, (.seq #[(.int 0 354), .none] 0), #[]⟩
noncomputable def o_72 (P : Params) : Obj := ⟨(.type "dict"), none, (.dict #[⟨PyData.keyHash P (S "key"), .str (S "key") 355, .none⟩] 1), #[]⟩
noncomputable def o_73 (P : Params) : Obj := ⟨(.type "tuple"), none, (.seq #[] 0), #[]⟩
noncomputable def o_74 (P : Params) : Obj := ⟨.none, none, (.fields #[]), #[]⟩
noncomputable def o_75 (P : Params) : Obj := ⟨(.type "tuple"), none, (.seq #[(.str (S "a") 359), (.str (S "x") 360), (.str (S "lo") 361), (.str (S "hi") 362), (.str (S "key") 363), (.str (S "mid") 364)] 0), #[]⟩
noncomputable def o_76 (P : Params) : Obj := ⟨(.type "tuple"), none, (.seq #[] 0), #[]⟩
noncomputable def o_77 (P : Params) : Obj := ⟨.none, none, (.func ⟨(S "bisect_left"), (S "bisect_left"), fA 11, .stmts (fB 11), fS 11, 0, [], .none, .none, .none, .none, none, .none, .none, 0⟩), #[]⟩
noncomputable def o_78 (P : Params) : Obj := ⟨(.type "code"), none, (.fields #[(.str (S "bisect_left") 356), (.str (S "bisect_left") 357), (.str (S "/claim/cut.py") 358), (.int 80 0), (.int 4 0), (.int 0 0), (.int 1 0), (.int 3 0), (.ref 73), (.bool true), (.int 276 0), (.ref 74), .none, (.ref 75), (.ref 76), (.ref 77), (.int 365 0), (.int 80 0), (.str (S "/claim/cut.py") 366)]), #[]⟩
noncomputable def o_79 (P : Params) : Obj := ⟨(.type "function"), none, (.func ⟨(S "bisect_left"), (S "bisect_left"), fA 11, .stmts (fB 11), fS 11, 3, [], (.ref 71), (.ref 72), .none, (.str (S "cpy313.bisect") 325), none, (.ref 78), .none, 0⟩), #[]⟩
noncomputable def T_p11 (P : Params) : BT := (.node (o_0 P) (.node (o_1 P) (.node (o_3_p11 P) (.node (o_7 P) (.node (o_15 P) (.node (o_31 P) (.node (o_63 P) .nil .nil) .nil) (.node (o_47 P) (.node (o_79 P) .nil .nil) .nil)) (.node (o_23 P) (.node (o_39 P) (.node (o_71 P) .nil .nil) .nil) (.node (o_55 P) .nil .nil))) (.node (o_11 P) (.node (o_19 P) (.node (o_35 P) (.node (o_67 P) .nil .nil) .nil) (.node (o_51 P) .nil .nil)) (.node (o_27 P) (.node (o_43 P) (.node (o_75 P) .nil .nil) .nil) (.node (o_59 P) .nil .nil)))) (.node (o_5 P) (.node (o_9 P) (.node (o_17 P) (.node (o_33 P) (.node (o_65 P) .nil .nil) .nil) (.node (o_49 P) .nil .nil)) (.node (o_25 P) (.node (o_41 P) (.node (o_73 P) .nil .nil) .nil) (.node (o_57 P) .nil .nil))) (.node (o_13 P) (.node (o_21 P) (.node (o_37 P) (.node (o_69 P) .nil .nil) .nil) (.node (o_53 P) .nil .nil)) (.node (o_29_p11 P) (.node (o_45 P) (.node (o_77 P) .nil .nil) .nil) (.node (o_61 P) .nil .nil))))) (.node (o_2 P) (.node (o_4 P) (.node (o_8 P) (.node (o_16 P) (.node (o_32 P) (.node (o_64 P) .nil .nil) .nil) (.node (o_48 P) .nil .nil)) (.node (o_24 P) (.node (o_40 P) (.node (o_72 P) .nil .nil) .nil) (.node (o_56 P) .nil .nil))) (.node (o_12 P) (.node (o_20 P) (.node (o_36 P) (.node (o_68 P) .nil .nil) .nil) (.node (o_52 P) .nil .nil)) (.node (o_28 P) (.node (o_44 P) (.node (o_76 P) .nil .nil) .nil) (.node (o_60 P) .nil .nil)))) (.node (o_6 P) (.node (o_10 P) (.node (o_18 P) (.node (o_34 P) (.node (o_66 P) .nil .nil) .nil) (.node (o_50 P) .nil .nil)) (.node (o_26 P) (.node (o_42 P) (.node (o_74 P) .nil .nil) .nil) (.node (o_58 P) .nil .nil))) (.node (o_14 P) (.node (o_22 P) (.node (o_38 P) (.node (o_70 P) .nil .nil) .nil) (.node (o_54 P) .nil .nil)) (.node (o_30 P) (.node (o_46 P) (.node (o_78 P) .nil .nil) .nil) (.node (o_62 P) .nil .nil))))))
noncomputable abbrev st_p11 (w : World) (os : OsState) : SharedT := ⟨T_p11 w.params, 80, {}, #[], {}, 370, os⟩
noncomputable def o_3_p12 (P : Params) : Obj := ⟨(.type "dict"), none, (.dict #[⟨PyData.keyHash P (S "__name__"), .str (S "__name__") 165, (.str (S "cpy313.stringprep") 368)⟩, ⟨PyData.keyHash P (S "__doc__"), .str (S "__doc__") 166, .none⟩, ⟨PyData.keyHash P (S "__package__"), .str (S "__package__") 167, .none⟩, ⟨PyData.keyHash P (S "__loader__"), .str (S "__loader__") 168, (.builtin "__main__.__loader__#opaque")⟩, ⟨PyData.keyHash P (S "__spec__"), .str (S "__spec__") 169, .none⟩, ⟨PyData.keyHash P (S "__annotations__"), .str (S "__annotations__") 170, (.ref 6)⟩, ⟨PyData.keyHash P (S "__builtins__"), .str (S "__builtins__") 171, (.ref 4)⟩, ⟨PyData.keyHash P (S "__file__"), .str (S "__file__") 173, (.str (S "/claim/cut.py") 172)⟩, ⟨PyData.keyHash P (S "__cached__"), .str (S "__cached__") 174, .none⟩, ⟨PyData.keyHash P (S "_sre"), .str (S "_sre") 275, (.ref 12)⟩, ⟨PyData.keyHash P (S "_wall"), .str (S "_wall") 288, (.ref 38)⟩, ⟨PyData.keyHash P (S "_MAX_STRING_SIZE"), .str (S "_MAX_STRING_SIZE") 292, (.int 40 291)⟩, ⟨PyData.keyHash P (S "_MOVE_COST"), .str (S "_MOVE_COST") 294, (.int 2 293)⟩, ⟨PyData.keyHash P (S "_CASE_COST"), .str (S "_CASE_COST") 296, (.int 1 295)⟩, ⟨PyData.keyHash P (S "_substitution_cost"), .str (S "_substitution_cost") 304, (.ref 45)⟩, ⟨PyData.keyHash P (S "_levenshtein_distance"), .str (S "_levenshtein_distance") 324, (.ref 52)⟩, ⟨PyData.keyHash P (S "insort_right"), .str (S "insort_right") 339, (.ref 61)⟩, ⟨PyData.keyHash P (S "bisect_right"), .str (S "bisect_right") 353, (.ref 70)⟩, ⟨PyData.keyHash P (S "bisect_left"), .str (S "bisect_left") 367, (.ref 79)⟩, ⟨PyData.keyHash P (S "b1_set"), .str (S "b1_set") 429, (.ref 87)⟩] 20), #[]⟩
noncomputable def o_80 (P : Params) : Obj := ⟨(.type "list"), none, (.seq #[(.int 173 370), (.int 847 371), (.int 6150 372), (.int 6155 373), (.int 6156 374), (.int 6157 375), (.int 8203 376), (.int 8204 377), (.int 8205 378), (.int 8288 379), (.int 65279 380)] 0), #[]⟩
noncomputable def o_81 (P : Params) : Obj := ⟨(.type "range"), none, (.fields #[(.int 65024 381), (.int 65040 382), (.int 1 383)]), #[]⟩
noncomputable def o_82 (P : Params) : Obj := ⟨(.type "list"), none, (.seq #[(.int 65024 386), (.int 65025 387), (.int 65026 388), (.int 65027 389), (.int 65028 390), (.int 65029 391), (.int 65030 392), (.int 65031 393), (.int 65032 394), (.int 65033 395), (.int 65034 396), (.int 65035 397), (.int 65036 398), (.int 65037 399), (.int 65038 400), (.int 65039 401)] 18), #[]⟩
noncomputable def o_83 (P : Params) : Obj := ⟨(.type "range_iterator"), none, (.fields #[(.int 65040 0), (.int 0 0), (.int 1 0)]), #[]⟩
noncomputable def o_84 (P : Params) : Obj := ⟨(.type "tuple"), none, (.seq #[] 0), #[]⟩
noncomputable def o_85 (P : Params) : Obj := ⟨(.type "StopIteration"), none, (.fields #[(.ref 84), .none, .none, .none, (.bool false), .none]), #[]⟩
noncomputable def o_86 (P : Params) : Obj := ⟨(.type "list"), none, (.seq #[(.int 173 370), (.int 847 371), (.int 6150 372), (.int 6155 373), (.int 6156 374), (.int 6157 375), (.int 8203 376), (.int 8204 377), (.int 8205 378), (.int 8288 379), (.int 65279 380), (.int 65024 386), (.int 65025 387), (.int 65026 388), (.int 65027 389), (.int 65028 390), (.int 65029 391), (.int 65030 392), (.int 65031 393), (.int 65032 394), (.int 65033 395), (.int 65034 396), (.int 65035 397), (.int 65036 398), (.int 65037 399), (.int 65038 400), (.int 65039 401)] 0), #[]⟩
noncomputable def o_87 (P : Params) : Obj := ⟨(.type "set"), none, (.set #[(65024, (.int 65024 386)), (65025, (.int 65025 387)), (65026, (.int 65026 388)), (65027, (.int 65027 389)), (65028, (.int 65028 390)), (65029, (.int 65029 391)), (6150, (.int 6150 372)), (65030, (.int 65030 392)), (65031, (.int 65031 393)), (65032, (.int 65032 394)), (65033, (.int 65033 395)), (6155, (.int 6155 373)), (6156, (.int 6156 374)), (6157, (.int 6157 375)), (8203, (.int 8203 376)), (8204, (.int 8204 377)), (8205, (.int 8205 378)), (65034, (.int 65034 396)), (65035, (.int 65035 397)), (65036, (.int 65036 398)), (65037, (.int 65037 399)), (65038, (.int 65038 400)), (65039, (.int 65039 401)), (173, (.int 173 370)), (847, (.int 847 371)), (8288, (.int 8288 379)), (65279, (.int 65279 380))] 29 ⟨127, #[0, 1, 2, 3, 4, 5, 6, 7, 8, 9, 10, 11, 12, 13, 14, 15, 16, 17, 18, 19, 20, 21, 22, 45, 79, 96, 127], #[], 0, !P.followText "set-order", 2, true⟩), #[]⟩
noncomputable def o_88 (P : Params) : Obj := ⟨(.type "list_iterator"), none, (.fields #[.none, (.int 27 0)]), #[]⟩
noncomputable def o_89 (P : Params) : Obj := ⟨(.type "tuple"), none, (.seq #[] 0), #[]⟩
noncomputable def o_90 (P : Params) : Obj := ⟨(.type "StopIteration"), none, (.fields #[(.ref 89), .none, .none, .none, (.bool false), .none]), #[]⟩
noncomputable def T_p12 (P : Params) : BT := (.node (o_0 P) (.node (o_1 P) (.node (o_3_p12 P) (.node (o_7 P) (.node (o_15 P) (.node (o_31 P) (.node (o_63 P) .nil .nil) .nil) (.node (o_47 P) (.node (o_79 P) .nil .nil) .nil)) (.node (o_23 P) (.node (o_39 P) (.node (o_71 P) .nil .nil) .nil) (.node (o_55 P) (.node (o_87 P) .nil .nil) .nil))) (.node (o_11 P) (.node (o_19 P) (.node (o_35 P) (.node (o_67 P) .nil .nil) .nil) (.node (o_51 P) (.node (o_83 P) .nil .nil) .nil)) (.node (o_27 P) (.node (o_43 P) (.node (o_75 P) .nil .nil) .nil) (.node (o_59 P) .nil .nil)))) (.node (o_5 P) (.node (o_9 P) (.node (o_17 P) (.node (o_33 P) (.node (o_65 P) .nil .nil) .nil) (.node (o_49 P) (.node (o_81 P) .nil .nil) .nil)) (.node (o_25 P) (.node (o_41 P) (.node (o_73 P) .nil .nil) .nil) (.node (o_57 P) (.node (o_89 P) .nil .nil) .nil))) (.node (o_13 P) (.node (o_21 P) (.node (o_37 P) (.node (o_69 P) .nil .nil) .nil) (.node (o_53 P) (.node (o_85 P) .nil .nil) .nil)) (.node (o_29_p11 P) (.node (o_45 P) (.node (o_77 P) .nil .nil) .nil) (.node (o_61 P) .nil .nil))))) (.node (o_2 P) (.node (o_4 P) (.node (o_8 P) (.node (o_16 P) (.node (o_32 P) (.node (o_64 P) .nil .nil) .nil) (.node (o_48 P) (.node (o_80 P) .nil .nil) .nil)) (.node (o_24 P) (.node (o_40 P) (.node (o_72 P) .nil .nil) .nil) (.node (o_56 P) (.node (o_88 P) .nil .nil) .nil))) (.node (o_12 P) (.node (o_20 P) (.node (o_36 P) (.node (o_68 P) .nil .nil) .nil) (.node (o_52 P) (.node (o_84 P) .nil .nil) .nil)) (.node (o_28 P) (.node (o_44 P) (.node (o_76 P) .nil .nil) .nil) (.node (o_60 P) .nil .nil)))) (.node (o_6 P) (.node (o_10 P) (.node (o_18 P) (.node (o_34 P) (.node (o_66 P) .nil .nil) .nil) (.node (o_50 P) (.node (o_82 P) .nil .nil) .nil)) (.node (o_26 P) (.node (o_42 P) (.node (o_74 P) .nil .nil) .nil) (.node (o_58 P) (.node (o_90 P) .nil .nil) .nil))) (.node (o_14 P) (.node (o_22 P) (.node (o_38 P) (.node (o_70 P) .nil .nil) .nil) (.node (o_54 P) (.node (o_86 P) .nil .nil) .nil)) (.node (o_30 P) (.node (o_46 P) (.node (o_78 P) .nil .nil) .nil) (.node (o_62 P) .nil .nil))))))
noncomputable abbrev st_p12 (w : World) (os : OsState) : SharedT := ⟨T_p12 w.params, 91, {}, #[], {}, 430, os⟩
noncomputable def o_3_p13 (P : Params) : Obj := ⟨(.type "dict"), none, (.dict #[⟨PyData.keyHash P (S "__name__"), .str (S "__name__") 165, (.str (S "cpy313.stringprep") 368)⟩, ⟨PyData.keyHash P (S "__doc__"), .str (S "__doc__") 166, .none⟩, ⟨PyData.keyHash P (S "__package__"), .str (S "__package__") 167, .none⟩, ⟨PyData.keyHash P (S "__loader__"), .str (S "__loader__") 168, (.builtin "__main__.__loader__#opaque")⟩, ⟨PyData.keyHash P (S "__spec__"), .str (S "__spec__") 169, .none⟩, ⟨PyData.keyHash P (S "__annotations__"), .str (S "__annotations__") 170, (.ref 6)⟩, ⟨PyData.keyHash P (S "__builtins__"), .str (S "__builtins__") 171, (.ref 4)⟩, ⟨PyData.keyHash P (S "__file__"), .str (S "__file__") 173, (.str (S "/claim/cut.py") 172)⟩, ⟨PyData.keyHash P (S "__cached__"), .str (S "__cached__") 174, .none⟩, ⟨PyData.keyHash P (S "_sre"), .str (S "_sre") 275, (.ref 12)⟩, ⟨PyData.keyHash P (S "_wall"), .str (S "_wall") 288, (.ref 38)⟩, ⟨PyData.keyHash P (S "_MAX_STRING_SIZE"), .str (S "_MAX_STRING_SIZE") 292, (.int 40 291)⟩, ⟨PyData.keyHash P (S "_MOVE_COST"), .str (S "_MOVE_COST") 294, (.int 2 293)⟩, ⟨PyData.keyHash P (S "_CASE_COST"), .str (S "_CASE_COST") 296, (.int 1 295)⟩, ⟨PyData.keyHash P (S "_substitution_cost"), .str (S "_substitution_cost") 304, (.ref 45)⟩, ⟨PyData.keyHash P (S "_levenshtein_distance"), .str (S "_levenshtein_distance") 324, (.ref 52)⟩, ⟨PyData.keyHash P (S "insort_right"), .str (S "insort_right") 339, (.ref 61)⟩, ⟨PyData.keyHash P (S "bisect_right"), .str (S "bisect_right") 353, (.ref 70)⟩, ⟨PyData.keyHash P (S "bisect_left"), .str (S "bisect_left") 367, (.ref 79)⟩, ⟨PyData.keyHash P (S "b1_set"), .str (S "b1_set") 429, (.ref 87)⟩, ⟨PyData.keyHash P (S "in_table_b1"), .str (S "in_table_b1") 436, (.ref 97)⟩] 21), #[]⟩
noncomputable def o_29_p13 (P : Params) : Obj := ⟨.none, none, (.fields #[(.int 2 0), (.int 0 0), (.ref 37), (.int 9 0), (.int 0 0), (.ref 44), (.int 15 0), (.int 0 0), (.ref 51), (.int 54 0), (.int 0 0), (.ref 60), (.int 60 0), (.int 0 0), (.ref 69), (.int 80 0), (.int 0 0), (.ref 78), (.int 102 0), (.int 0 0), (.ref 96)]), #[]⟩
noncomputable def o_91 (P : Params) : Obj := ⟨(.type "tuple"), none, (.seq #[] 0), #[]⟩
noncomputable def o_92 (P : Params) : Obj := ⟨.none, none, (.fields #[]), #[]⟩
noncomputable def o_93 (P : Params) : Obj := ⟨(.type "tuple"), none, (.seq #[(.str (S "code") 433)] 0), #[]⟩
noncomputable def o_94 (P : Params) : Obj := ⟨(.type "tuple"), none, (.seq #[] 0), #[]⟩
noncomputable def o_95 (P : Params) : Obj := ⟨.none, none, (.func ⟨(S "in_table_b1"), (S "in_table_b1"), fA 14, .stmts (fB 14), fS 14, 0, [], .none, .none, .none, .none, none, .none, .none, 0⟩), #[]⟩
noncomputable def o_96 (P : Params) : Obj := ⟨(.type "code"), none, (.fields #[(.str (S "in_table_b1") 430), (.str (S "in_table_b1") 431), (.str (S "/claim/cut.py") 432), (.int 102 0), (.int 1 0), (.int 0 0), (.int 0 0), (.int 3 0), (.ref 91), (.bool true), (.int 276 0), (.ref 92), .none, (.ref 93), (.ref 94), (.ref 95), (.int 434 0), (.int 102 0), (.str (S "/claim/cut.py") 435)]), #[]⟩
noncomputable def o_97 (P : Params) : Obj := ⟨(.type "function"), none, (.func ⟨(S "in_table_b1"), (S "in_table_b1"), fA 14, .stmts (fB 14), fS 14, 3, [], .none, .none, .none, (.str (S "cpy313.stringprep") 368), none, (.ref 96), .none, 0⟩), #[]⟩
noncomputable def T_p13 (P : Params) : BT := (.node (o_0 P) (.node (o_1 P) (.node (o_3_p13 P) (.node (o_7 P) (.node (o_15 P) (.node (o_31 P) (.node (o_63 P) .nil .nil) (.node (o_95 P) .nil .nil)) (.node (o_47 P) (.node (o_79 P) .nil .nil) .nil)) (.node (o_23 P) (.node (o_39 P) (.node (o_71 P) .nil .nil) .nil) (.node (o_55 P) (.node (o_87 P) .nil .nil) .nil))) (.node (o_11 P) (.node (o_19 P) (.node (o_35 P) (.node (o_67 P) .nil .nil) .nil) (.node (o_51 P) (.node (o_83 P) .nil .nil) .nil)) (.node (o_27 P) (.node (o_43 P) (.node (o_75 P) .nil .nil) .nil) (.node (o_59 P) (.node (o_91 P) .nil .nil) .nil)))) (.node (o_5 P) (.node (o_9 P) (.node (o_17 P) (.node (o_33 P) (.node (o_65 P) .nil .nil) (.node (o_97 P) .nil .nil)) (.node (o_49 P) (.node (o_81 P) .nil .nil) .nil)) (.node (o_25 P) (.node (o_41 P) (.node (o_73 P) .nil .nil) .nil) (.node (o_57 P) (.node (o_89 P) .nil .nil) .nil))) (.node (o_13 P) (.node (o_21 P) (.node (o_37 P) (.node (o_69 P) .nil .nil) .nil) (.node (o_53 P) (.node (o_85 P) .nil .nil) .nil)) (.node (o_29_p13 P) (.node (o_45 P) (.node (o_77 P) .nil .nil) .nil) (.node (o_61 P) (.node (o_93 P) .nil .nil) .nil))))) (.node (o_2 P) (.node (o_4 P) (.node (o_8 P) (.node (o_16 P) (.node (o_32 P) (.node (o_64 P) .nil .nil) (.node (o_96 P) .nil .nil)) (.node (o_48 P) (.node (o_80 P) .nil .nil) .nil)) (.node (o_24 P) (.node (o_40 P) (.node (o_72 P) .nil .nil) .nil) (.node (o_56 P) (.node (o_88 P) .nil .nil) .nil))) (.node (o_12 P) (.node (o_20 P) (.node (o_36 P) (.node (o_68 P) .nil .nil) .nil) (.node (o_52 P) (.node (o_84 P) .nil .nil) .nil)) (.node (o_28 P) (.node (o_44 P) (.node (o_76 P) .nil .nil) .nil) (.node (o_60 P) (.node (o_92 P) .nil .nil) .nil)))) (.node (o_6 P) (.node (o_10 P) (.node (o_18 P) (.node (o_34 P) (.node (o_66 P) .nil .nil) .nil) (.node (o_50 P) (.node (o_82 P) .nil .nil) .nil)) (.node (o_26 P) (.node (o_42 P) (.node (o_74 P) .nil .nil) .nil) (.node (o_58 P) (.node (o_90 P) .nil .nil) .nil))) (.node (o_14 P) (.node (o_22 P) (.node (o_38 P) (.node (o_70 P) .nil .nil) .nil) (.node (o_54 P) (.node (o_86 P) .nil .nil) .nil)) (.node (o_30 P) (.node (o_46 P) (.node (o_78 P) .nil .nil) .nil) (.node (o_62 P) (.node (o_94 P) .nil .nil) .nil))))))
noncomputable abbrev st_p13 (w : World) (os : OsState) : SharedT := ⟨T_p13 w.params, 98, {}, #[], {}, 437, os⟩
noncomputable def o_3_p14 (P : Params) : Obj := ⟨(.type "dict"), none, (.dict #[⟨PyData.keyHash P (S "__name__"), .str (S "__name__") 165, (.str (S "cpy313.stringprep") 368)⟩, ⟨PyData.keyHash P (S "__doc__"), .str (S "__doc__") 166, .none⟩, ⟨PyData.keyHash P (S "__package__"), .str (S "__package__") 167, .none⟩, ⟨PyData.keyHash P (S "__loader__"), .str (S "__loader__") 168, (.builtin "__main__.__loader__#opaque")⟩, ⟨PyData.keyHash P (S "__spec__"), .str (S "__spec__") 169, .none⟩, ⟨PyData.keyHash P (S "__annotations__"), .str (S "__annotations__") 170, (.ref 6)⟩, ⟨PyData.keyHash P (S "__builtins__"), .str (S "__builtins__") 171, (.ref 4)⟩, ⟨PyData.keyHash P (S "__file__"), .str (S "__file__") 173, (.str (S "/claim/cut.py") 172)⟩, ⟨PyData.keyHash P (S "__cached__"), .str (S "__cached__") 174, .none⟩, ⟨PyData.keyHash P (S "_sre"), .str (S "_sre") 275, (.ref 12)⟩, ⟨PyData.keyHash P (S "_wall"), .str (S "_wall") 288, (.ref 38)⟩, ⟨PyData.keyHash P (S "_MAX_STRING_SIZE"), .str (S "_MAX_STRING_SIZE") 292, (.int 40 291)⟩, ⟨PyData.keyHash P (S "_MOVE_COST"), .str (S "_MOVE_COST") 294, (.int 2 293)⟩, ⟨PyData.keyHash P (S "_CASE_COST"), .str (S "_CASE_COST") 296, (.int 1 295)⟩, ⟨PyData.keyHash P (S "_substitution_cost"), .str (S "_substitution_cost") 304, (.ref 45)⟩, ⟨PyData.keyHash P (S "_levenshtein_distance"), .str (S "_levenshtein_distance") 324, (.ref 52)⟩, ⟨PyData.keyHash P (S "insort_right"), .str (S "insort_right") 339, (.ref 61)⟩, ⟨PyData.keyHash P (S "bisect_right"), .str (S "bisect_right") 353, (.ref 70)⟩, ⟨PyData.keyHash P (S "bisect_left"), .str (S "bisect_left") 367, (.ref 79)⟩, ⟨PyData.keyHash P (S "b1_set"), .str (S "b1_set") 429, (.ref 87)⟩, ⟨PyData.keyHash P (S "in_table_b1"), .str (S "in_table_b1") 436, (.ref 97)⟩, ⟨PyData.keyHash P (S "b3_exceptions"), .str (S "b3_exceptions") 2387, (.ref 98)⟩] 22), #[]⟩
noncomputable def o_98 (_ : Params) : Obj := b3 98
noncomputable def o_99 (_ : Params) : Obj := b3 99
noncomputable def o_100 (_ : Params) : Obj := b3 100
noncomputable def o_101 (_ : Params) : Obj := b3 101
noncomputable def o_102 (_ : Params) : Obj := b3 102
noncomputable def o_103 (_ : Params) : Obj := b3 103
noncomputable def o_104 (_ : Params) : Obj := b3 104
noncomputable def o_105 (_ : Params) : Obj := b3 105
noncomputable def o_106 (_ : Params) : Obj := b3 106
noncomputable def o_107 (_ : Params) : Obj := b3 107
noncomputable def o_108 (_ : Params) : Obj := b3 108
noncomputable def o_109 (_ : Params) : Obj := b3 109
noncomputable def o_110 (_ : Params) : Obj := b3 110
noncomputable def o_111 (_ : Params) : Obj := b3 111
noncomputable def o_112 (_ : Params) : Obj := b3 112
noncomputable def o_113 (_ : Params) : Obj := b3 113
noncomputable def o_114 (_ : Params) : Obj := b3 114
noncomputable def o_115 (_ : Params) : Obj := b3 115
noncomputable def o_116 (_ : Params) : Obj := b3 116
noncomputable def o_117 (_ : Params) : Obj := b3 117
noncomputable def o_118 (_ : Params) : Obj := b3 118
noncomputable def o_119 (_ : Params) : Obj := b3 119
noncomputable def o_120 (_ : Params) : Obj := b3 120
noncomputable def o_121 (_ : Params) : Obj := b3 121
noncomputable def o_122 (_ : Params) : Obj := b3 122
noncomputable def o_123 (_ : Params) : Obj := b3 123
noncomputable def o_124 (_ : Params) : Obj := b3 124
noncomputable def o_125 (_ : Params) : Obj := b3 125
noncomputable def o_126 (_ : Params) : Obj := b3 126
noncomputable def o_127 (_ : Params) : Obj := b3 127
noncomputable def o_128 (_ : Params) : Obj := b3 128
noncomputable def o_129 (_ : Params) : Obj := b3 129
noncomputable def o_130 (_ : Params) : Obj := b3 130
noncomputable def o_131 (_ : Params) : Obj := b3 131
noncomputable def o_132 (_ : Params) : Obj := b3 132
noncomputable def o_133 (_ : Params) : Obj := b3 133
noncomputable def o_134 (_ : Params) : Obj := b3 134
noncomputable def o_135 (_ : Params) : Obj := b3 135
noncomputable def o_136 (_ : Params) : Obj := b3 136
noncomputable def T_p14 (P : Params) : BT := (.node (o_0 P) (.node (o_1 P) (.node (o_3_p14 P) (.node (o_7 P) (.node (o_15 P) (.node (o_31 P) (.node (o_63 P) (.node (o_127 P) .nil .nil) .nil) (.node (o_95 P) .nil .nil)) (.node (o_47 P) (.node (o_79 P) .nil .nil) (.node (o_111 P) .nil .nil))) (.node (o_23 P) (.node (o_39 P) (.node (o_71 P) (.node (o_135 P) .nil .nil) .nil) (.node (o_103 P) .nil .nil)) (.node (o_55 P) (.node (o_87 P) .nil .nil) (.node (o_119 P) .nil .nil)))) (.node (o_11 P) (.node (o_19 P) (.node (o_35 P) (.node (o_67 P) (.node (o_131 P) .nil .nil) .nil) (.node (o_99 P) .nil .nil)) (.node (o_51 P) (.node (o_83 P) .nil .nil) (.node (o_115 P) .nil .nil))) (.node (o_27 P) (.node (o_43 P) (.node (o_75 P) .nil .nil) (.node (o_107 P) .nil .nil)) (.node (o_59 P) (.node (o_91 P) .nil .nil) (.node (o_123 P) .nil .nil))))) (.node (o_5 P) (.node (o_9 P) (.node (o_17 P) (.node (o_33 P) (.node (o_65 P) (.node (o_129 P) .nil .nil) .nil) (.node (o_97 P) .nil .nil)) (.node (o_49 P) (.node (o_81 P) .nil .nil) (.node (o_113 P) .nil .nil))) (.node (o_25 P) (.node (o_41 P) (.node (o_73 P) .nil .nil) (.node (o_105 P) .nil .nil)) (.node (o_57 P) (.node (o_89 P) .nil .nil) (.node (o_121 P) .nil .nil)))) (.node (o_13 P) (.node (o_21 P) (.node (o_37 P) (.node (o_69 P) (.node (o_133 P) .nil .nil) .nil) (.node (o_101 P) .nil .nil)) (.node (o_53 P) (.node (o_85 P) .nil .nil) (.node (o_117 P) .nil .nil))) (.node (o_29_p13 P) (.node (o_45 P) (.node (o_77 P) .nil .nil) (.node (o_109 P) .nil .nil)) (.node (o_61 P) (.node (o_93 P) .nil .nil) (.node (o_125 P) .nil .nil)))))) (.node (o_2 P) (.node (o_4 P) (.node (o_8 P) (.node (o_16 P) (.node (o_32 P) (.node (o_64 P) (.node (o_128 P) .nil .nil) .nil) (.node (o_96 P) .nil .nil)) (.node (o_48 P) (.node (o_80 P) .nil .nil) (.node (o_112 P) .nil .nil))) (.node (o_24 P) (.node (o_40 P) (.node (o_72 P) (.node (o_136 P) .nil .nil) .nil) (.node (o_104 P) .nil .nil)) (.node (o_56 P) (.node (o_88 P) .nil .nil) (.node (o_120 P) .nil .nil)))) (.node (o_12 P) (.node (o_20 P) (.node (o_36 P) (.node (o_68 P) (.node (o_132 P) .nil .nil) .nil) (.node (o_100 P) .nil .nil)) (.node (o_52 P) (.node (o_84 P) .nil .nil) (.node (o_116 P) .nil .nil))) (.node (o_28 P) (.node (o_44 P) (.node (o_76 P) .nil .nil) (.node (o_108 P) .nil .nil)) (.node (o_60 P) (.node (o_92 P) .nil .nil) (.node (o_124 P) .nil .nil))))) (.node (o_6 P) (.node (o_10 P) (.node (o_18 P) (.node (o_34 P) (.node (o_66 P) (.node (o_130 P) .nil .nil) .nil) (.node (o_98 P) .nil .nil)) (.node (o_50 P) (.node (o_82 P) .nil .nil) (.node (o_114 P) .nil .nil))) (.node (o_26 P) (.node (o_42 P) (.node (o_74 P) .nil .nil) (.node (o_106 P) .nil .nil)) (.node (o_58 P) (.node (o_90 P) .nil .nil) (.node (o_122 P) .nil .nil)))) (.node (o_14 P) (.node (o_22 P) (.node (o_38 P) (.node (o_70 P) (.node (o_134 P) .nil .nil) .nil) (.node (o_102 P) .nil .nil)) (.node (o_54 P) (.node (o_86 P) .nil .nil) (.node (o_118 P) .nil .nil))) (.node (o_30 P) (.node (o_46 P) (.node (o_78 P) .nil .nil) (.node (o_110 P) .nil .nil)) (.node (o_62 P) (.node (o_94 P) .nil .nil) (.node (o_126 P) .nil .nil)))))))
noncomputable abbrev st_p14 (w : World) (os : OsState) : SharedT := ⟨T_p14 w.params, 137, {}, #[], {}, 2388, os⟩
noncomputable def o_3_p20 (P : Params) : Obj := ⟨(.type "dict"), none, (.dict #[⟨PyData.keyHash P (S "__name__"), .str (S "__name__") 165, (.str (S "cpy313.wsgiref.headers") 2396)⟩, ⟨PyData.keyHash P (S "__doc__"), .str (S "__doc__") 166, .none⟩, ⟨PyData.keyHash P (S "__package__"), .str (S "__package__") 167, .none⟩, ⟨PyData.keyHash P (S "__loader__"), .str (S "__loader__") 168, (.builtin "__main__.__loader__#opaque")⟩, ⟨PyData.keyHash P (S "__spec__"), .str (S "__spec__") 169, .none⟩, ⟨PyData.keyHash P (S "__annotations__"), .str (S "__annotations__") 170, (.ref 6)⟩, ⟨PyData.keyHash P (S "__builtins__"), .str (S "__builtins__") 171, (.ref 4)⟩, ⟨PyData.keyHash P (S "__file__"), .str (S "__file__") 173, (.str (S "/claim/cut.py") 172)⟩, ⟨PyData.keyHash P (S "__cached__"), .str (S "__cached__") 174, .none⟩, ⟨PyData.keyHash P (S "_sre"), .str (S "_sre") 275, (.ref 12)⟩, ⟨PyData.keyHash P (S "_wall"), .str (S "_wall") 288, (.ref 38)⟩, ⟨PyData.keyHash P (S "_MAX_STRING_SIZE"), .str (S "_MAX_STRING_SIZE") 292, (.int 40 291)⟩, ⟨PyData.keyHash P (S "_MOVE_COST"), .str (S "_MOVE_COST") 294, (.int 2 293)⟩, ⟨PyData.keyHash P (S "_CASE_COST"), .str (S "_CASE_COST") 296, (.int 1 295)⟩, ⟨PyData.keyHash P (S "_substitution_cost"), .str (S "_substitution_cost") 304, (.ref 45)⟩, ⟨PyData.keyHash P (S "_levenshtein_distance"), .str (S "_levenshtein_distance") 324, (.ref 52)⟩, ⟨PyData.keyHash P (S "insort_right"), .str (S "insort_right") 339, (.ref 61)⟩, ⟨PyData.keyHash P (S "bisect_right"), .str (S "bisect_right") 353, (.ref 70)⟩, ⟨PyData.keyHash P (S "bisect_left"), .str (S "bisect_left") 367, (.ref 79)⟩, ⟨PyData.keyHash P (S "b1_set"), .str (S "b1_set") 429, (.ref 87)⟩, ⟨PyData.keyHash P (S "in_table_b1"), .str (S "in_table_b1") 436, (.ref 97)⟩, ⟨PyData.keyHash P (S "b3_exceptions"), .str (S "b3_exceptions") 2387, (.ref 98)⟩, ⟨PyData.keyHash P (S "map_table_b3"), .str (S "map_table_b3") 2395, (.ref 143)⟩, ⟨PyData.keyHash P (S "tspecials"), .str (S "tspecials") 2431, (.ref 148)⟩, ⟨PyData.keyHash P (S "_name_disallowed_re"), .str (S "_name_disallowed_re") 2457, (.ref 153)⟩, ⟨PyData.keyHash P (S "_value_disallowed_re"), .str (S "_value_disallowed_re") 2491, (.ref 158)⟩, ⟨PyData.keyHash P (S "_formatparam"), .str (S "_formatparam") 2501, (.ref 166)⟩] 27), #[]⟩
noncomputable def o_29_p20 (P : Params) : Obj := ⟨.none, none, (.fields #[(.int 2 0), (.int 0 0), (.ref 37), (.int 9 0), (.int 0 0), (.ref 44), (.int 15 0), (.int 0 0), (.ref 51), (.int 54 0), (.int 0 0), (.ref 60), (.int 60 0), (.int 0 0), (.ref 69), (.int 80 0), (.int 0 0), (.ref 78), (.int 102 0), (.int 0 0), (.ref 96), (.int 105 0), (.int 0 0), (.ref 142), (.int 114 0), (.int 0 0), (.ref 165)]), #[]⟩
noncomputable def o_137 (P : Params) : Obj := ⟨(.type "tuple"), none, (.seq #[] 0), #[]⟩
noncomputable def o_138 (P : Params) : Obj := ⟨.none, none, (.fields #[]), #[]⟩
noncomputable def o_139 (P : Params) : Obj := ⟨(.type "tuple"), none, (.seq #[(.str (S "code") 2391), (.str (S "r") 2392)] 0), #[]⟩
noncomputable def o_140 (P : Params) : Obj := ⟨(.type "tuple"), none, (.seq #[] 0), #[]⟩
noncomputable def o_141 (P : Params) : Obj := ⟨.none, none, (.func ⟨(S "map_table_b3"), (S "map_table_b3"), fA 16, .stmts (fB 16), fS 16, 0, [], .none, .none, .none, .none, none, .none, .none, 0⟩), #[]⟩
noncomputable def o_142 (P : Params) : Obj := ⟨(.type "code"), none, (.fields #[(.str (S "map_table_b3") 2388), (.str (S "map_table_b3") 2389), (.str (S "/claim/cut.py") 2390), (.int 105 0), (.int 1 0), (.int 0 0), (.int 0 0), (.int 3 0), (.ref 137), (.bool true), (.int 276 0), (.ref 138), .none, (.ref 139), (.ref 140), (.ref 141), (.int 2393 0), (.int 105 0), (.str (S "/claim/cut.py") 2394)]), #[]⟩
noncomputable def o_143 (P : Params) : Obj := ⟨(.type "function"), none, (.func ⟨(S "map_table_b3"), (S "map_table_b3"), fA 16, .stmts (fB 16), fS 16, 3, [], .none, .none, .none, (.str (S "cpy313.stringprep") 368), none, (.ref 142), .none, 0⟩), #[]⟩
noncomputable def o_144 (P : Params) : Obj := ⟨(.type "list"), none, (.seq #[(.int 14 2401), (.int 14 2402), (.int 4 2403), (.int 1 2404), (.int 1 2405), (.int 9 2406), (.int 0 2407), (.int 4227896069 2408), (.int 939524097 2409), (.int 0 2410), (.int 0 2411), (.int 0 2412), (.int 0 2413), (.int 0 2414), (.int 0 2415), (.int 13 2416), (.int 11 2417), (.int 9 2418), (.int 0 2419), (.int 4227896069 2420), (.int 939524097 2421), (.int 0 2422), (.int 0 2423), (.int 0 2424), (.int 0 2425), (.int 0 2426), (.int 0 2427), (.int 1 2428)] 0), #[]⟩
noncomputable def o_145 (P : Params) : Obj := ⟨(.type "dict"), none, (.dict #[] 0), #[]⟩
noncomputable def o_146 (P : Params) : Obj := ⟨(.type "tuple"), none, (.seq #[.none] 0), #[]⟩
noncomputable def o_147 (P : Params) : Obj := ⟨(.type "tuple"), none, (.seq #[(.int 14 0), (.int 14 0), (.int 4 0), (.int 1 0), (.int 1 0), (.int 9 0), (.int 0 0), (.int 4227896069 0), (.int 939524097 0), (.int 0 0), (.int 0 0), (.int 0 0), (.int 0 0), (.int 0 0), (.int 0 0), (.int 13 0), (.int 11 0), (.int 9 0), (.int 0 0), (.int 4227896069 0), (.int 939524097 0), (.int 0 0), (.int 0 0), (.int 0 0), (.int 0 0), (.int 0 0), (.int 0 0), (.int 1 0)] 0), #[]⟩
noncomputable def o_148 (P : Params) : Obj := ⟨(.type "re.Pattern"), none, (.fields #[(.str (S "[ \\(\\)<>@,;:\\\\\"/\\[\\]\\?=]") 2399), (.int 32 2430), (.int 0 0), .none, .none, (.ref 147), (.int 0 0)]), #[]⟩
noncomputable def o_149 (P : Params) : Obj := ⟨(.type "list"), none, (.seq #[(.int 14 2435), (.int 10 2436), (.int 4 2437), (.int 1 2438), (.int 1 2439), (.int 22 2440), (.int 0 2441), (.int 31 2442), (.int 16 2443), (.int 127 2444), (.int 0 2445), (.int 13 2446), (.int 7 2447), (.int 22 2448), (.int 0 2449), (.int 31 2450), (.int 16 2451), (.int 127 2452), (.int 0 2453), (.int 1 2454)] 0), #[]⟩
noncomputable def o_150 (P : Params) : Obj := ⟨(.type "dict"), none, (.dict #[] 0), #[]⟩
noncomputable def o_151 (P : Params) : Obj := ⟨(.type "tuple"), none, (.seq #[.none] 0), #[]⟩
noncomputable def o_152 (P : Params) : Obj := ⟨(.type "tuple"), none, (.seq #[(.int 14 0), (.int 10 0), (.int 4 0), (.int 1 0), (.int 1 0), (.int 22 0), (.int 0 0), (.int 31 0), (.int 16 0), (.int 127 0), (.int 0 0), (.int 13 0), (.int 7 0), (.int 22 0), (.int 0 0), (.int 31 0), (.int 16 0), (.int 127 0), (.int 0 0), (.int 1 0)] 0), #[]⟩
noncomputable def o_153 (P : Params) : Obj := ⟨(.type "re.Pattern"), none, (.fields #[(.str (S "[\\x00-\\x1F\\x7F]") 2433), (.int 32 2456), (.int 0 0), .none, .none, (.ref 152), (.int 0 0)]), #[]⟩
noncomputable def o_154 (P : Params) : Obj := ⟨(.type "list"), none, (.seq #[(.int 14 2461), (.int 14 2462), (.int 4 2463), (.int 1 2464), (.int 1 2465), (.int 9 2466), (.int 4294966783 2467), (.int 0 2468), (.int 0 2469), (.int 2147483648 2470), (.int 0 2471), (.int 0 2472), (.int 0 2473), (.int 0 2474), (.int 0 2475), (.int 13 2476), (.int 11 2477), (.int 9 2478), (.int 4294966783 2479), (.int 0 2480), (.int 0 2481), (.int 2147483648 2482), (.int 0 2483), (.int 0 2484), (.int 0 2485), (.int 0 2486), (.int 0 2487), (.int 1 2488)] 0), #[]⟩
noncomputable def o_155 (P : Params) : Obj := ⟨(.type "dict"), none, (.dict #[] 0), #[]⟩
noncomputable def o_156 (P : Params) : Obj := ⟨(.type "tuple"), none, (.seq #[.none] 0), #[]⟩
noncomputable def o_157 (P : Params) : Obj := ⟨(.type "tuple"), none, (.seq #[(.int 14 0), (.int 14 0), (.int 4 0), (.int 1 0), (.int 1 0), (.int 9 0), (.int 4294966783 0), (.int 0 0), (.int 0 0), (.int 2147483648 0), (.int 0 0), (.int 0 0), (.int 0 0), (.int 0 0), (.int 0 0), (.int 13 0), (.int 11 0), (.int 9 0), (.int 4294966783 0), (.int 0 0), (.int 0 0), (.int 2147483648 0), (.int 0 0), (.int 0 0), (.int 0 0), (.int 0 0), (.int 0 0), (.int 1 0)] 0), #[]⟩
noncomputable def o_158 (P : Params) : Obj := ⟨(.type "re.Pattern"), none, (.fields #[(.str (S "[\\x00-\\x08\\x0A-\\x1F\\x7F]") 2459), (.int 32 2490), (.int 0 0), .none, .none, (.ref 157), (.int 0 0)]), #[]⟩
noncomputable def o_159 (P : Params) : Obj := ⟨(.type "tuple"), none, (.seq #[.none, (.int 1 2492)] 0), #[]⟩
noncomputable def o_160 (P : Params) : Obj := ⟨(.type "tuple"), none, (.seq #[] 0), #[]⟩
noncomputable def o_161 (P : Params) : Obj := ⟨.none, none, (.fields #[]), #[]⟩
noncomputable def o_162 (P : Params) : Obj := ⟨(.type "tuple"), none, (.seq #[(.str (S "param") 2496), (.str (S "value") 2497), (.str (S "quote") 2498)] 0), #[]⟩
noncomputable def o_163 (P : Params) : Obj := ⟨(.type "tuple"), none, (.seq #[] 0), #[]⟩
noncomputable def o_164 (P : Params) : Obj := ⟨.none, none, (.func ⟨(S "_formatparam"), (S "_formatparam"), fA 21, .stmts (fB 21), fS 21, 0, [], .none, .none, .none, .none, none, .none, .none, 0⟩), #[]⟩
noncomputable def o_165 (P : Params) : Obj := ⟨(.type "code"), none, (.fields #[(.str (S "_formatparam") 2493), (.str (S "_formatparam") 2494), (.str (S "/claim/cut.py") 2495), (.int 114 0), (.int 3 0), (.int 0 0), (.int 0 0), (.int 3 0), (.ref 160), (.bool true), (.int 276 0), (.ref 161), .none, (.ref 162), (.ref 163), (.ref 164), (.int 2499 0), (.int 114 0), (.str (S "/claim/cut.py") 2500)]), #[]⟩
noncomputable def o_166 (P : Params) : Obj := ⟨(.type "function"), none, (.func ⟨(S "_formatparam"), (S "_formatparam"), fA 21, .stmts (fB 21), fS 21, 3, [], (.ref 159), .none, .none, (.str (S "cpy313.wsgiref.headers") 2396), none, (.ref 165), .none, 0⟩), #[]⟩
noncomputable def T_p20 (P : Params) : BT := (.node (o_0 P) (.node (o_1 P) (.node (o_3_p20 P) (.node (o_7 P) (.node (o_15 P) (.node (o_31 P) (.node (o_63 P) (.node (o_127 P) .nil .nil) .nil) (.node (o_95 P) (.node (o_159 P) .nil .nil) .nil)) (.node (o_47 P) (.node (o_79 P) (.node (o_143 P) .nil .nil) .nil) (.node (o_111 P) .nil .nil))) (.node (o_23 P) (.node (o_39 P) (.node (o_71 P) (.node (o_135 P) .nil .nil) .nil) (.node (o_103 P) .nil .nil)) (.node (o_55 P) (.node (o_87 P) (.node (o_151 P) .nil .nil) .nil) (.node (o_119 P) .nil .nil)))) (.node (o_11 P) (.node (o_19 P) (.node (o_35 P) (.node (o_67 P) (.node (o_131 P) .nil .nil) .nil) (.node (o_99 P) (.node (o_163 P) .nil .nil) .nil)) (.node (o_51 P) (.node (o_83 P) (.node (o_147 P) .nil .nil) .nil) (.node (o_115 P) .nil .nil))) (.node (o_27 P) (.node (o_43 P) (.node (o_75 P) (.node (o_139 P) .nil .nil) .nil) (.node (o_107 P) .nil .nil)) (.node (o_59 P) (.node (o_91 P) (.node (o_155 P) .nil .nil) .nil) (.node (o_123 P) .nil .nil))))) (.node (o_5 P) (.node (o_9 P) (.node (o_17 P) (.node (o_33 P) (.node (o_65 P) (.node (o_129 P) .nil .nil) .nil) (.node (o_97 P) (.node (o_161 P) .nil .nil) .nil)) (.node (o_49 P) (.node (o_81 P) (.node (o_145 P) .nil .nil) .nil) (.node (o_113 P) .nil .nil))) (.node (o_25 P) (.node (o_41 P) (.node (o_73 P) (.node (o_137 P) .nil .nil) .nil) (.node (o_105 P) .nil .nil)) (.node (o_57 P) (.node (o_89 P) (.node (o_153 P) .nil .nil) .nil) (.node (o_121 P) .nil .nil)))) (.node (o_13 P) (.node (o_21 P) (.node (o_37 P) (.node (o_69 P) (.node (o_133 P) .nil .nil) .nil) (.node (o_101 P) (.node (o_165 P) .nil .nil) .nil)) (.node (o_53 P) (.node (o_85 P) (.node (o_149 P) .nil .nil) .nil) (.node (o_117 P) .nil .nil))) (.node (o_29_p20 P) (.node (o_45 P) (.node (o_77 P) (.node (o_141 P) .nil .nil) .nil) (.node (o_109 P) .nil .nil)) (.node (o_61 P) (.node (o_93 P) (.node (o_157 P) .nil .nil) .nil) (.node (o_125 P) .nil .nil)))))) (.node (o_2 P) (.node (o_4 P) (.node (o_8 P) (.node (o_16 P) (.node (o_32 P) (.node (o_64 P) (.node (o_128 P) .nil .nil) .nil) (.node (o_96 P) (.node (o_160 P) .nil .nil) .nil)) (.node (o_48 P) (.node (o_80 P) (.node (o_144 P) .nil .nil) .nil) (.node (o_112 P) .nil .nil))) (.node (o_24 P) (.node (o_40 P) (.node (o_72 P) (.node (o_136 P) .nil .nil) .nil) (.node (o_104 P) .nil .nil)) (.node (o_56 P) (.node (o_88 P) (.node (o_152 P) .nil .nil) .nil) (.node (o_120 P) .nil .nil)))) (.node (o_12 P) (.node (o_20 P) (.node (o_36 P) (.node (o_68 P) (.node (o_132 P) .nil .nil) .nil) (.node (o_100 P) (.node (o_164 P) .nil .nil) .nil)) (.node (o_52 P) (.node (o_84 P) (.node (o_148 P) .nil .nil) .nil) (.node (o_116 P) .nil .nil))) (.node (o_28 P) (.node (o_44 P) (.node (o_76 P) (.node (o_140 P) .nil .nil) .nil) (.node (o_108 P) .nil .nil)) (.node (o_60 P) (.node (o_92 P) (.node (o_156 P) .nil .nil) .nil) (.node (o_124 P) .nil .nil))))) (.node (o_6 P) (.node (o_10 P) (.node (o_18 P) (.node (o_34 P) (.node (o_66 P) (.node (o_130 P) .nil .nil) .nil) (.node (o_98 P) (.node (o_162 P) .nil .nil) .nil)) (.node (o_50 P) (.node (o_82 P) (.node (o_146 P) .nil .nil) .nil) (.node (o_114 P) .nil .nil))) (.node (o_26 P) (.node (o_42 P) (.node (o_74 P) (.node (o_138 P) .nil .nil) .nil) (.node (o_106 P) .nil .nil)) (.node (o_58 P) (.node (o_90 P) (.node (o_154 P) .nil .nil) .nil) (.node (o_122 P) .nil .nil)))) (.node (o_14 P) (.node (o_22 P) (.node (o_38 P) (.node (o_70 P) (.node (o_134 P) .nil .nil) .nil) (.node (o_102 P) (.node (o_166 P) .nil .nil) .nil)) (.node (o_54 P) (.node (o_86 P) (.node (o_150 P) .nil .nil) .nil) (.node (o_118 P) .nil .nil))) (.node (o_30 P) (.node (o_46 P) (.node (o_78 P) (.node (o_142 P) .nil .nil) .nil) (.node (o_110 P) .nil .nil)) (.node (o_62 P) (.node (o_94 P) (.node (o_158 P) .nil .nil) .nil) (.node (o_126 P) .nil .nil)))))))
noncomputable abbrev st_p20 (w : World) (os : OsState) : SharedT := ⟨T_p20 w.params, 167, {}, #[], {}, 2502, os⟩
noncomputable def o_3_p21 (P : Params) : Obj := ⟨(.type "dict"), none, (.dict #[⟨PyData.keyHash P (S "__name__"), .str (S "__name__") 165, (.str (S "cpy313.wsgiref.headers") 2396)⟩, ⟨PyData.keyHash P (S "__doc__"), .str (S "__doc__") 166, .none⟩, ⟨PyData.keyHash P (S "__package__"), .str (S "__package__") 167, .none⟩, ⟨PyData.keyHash P (S "__loader__"), .str (S "__loader__") 168, (.builtin "__main__.__loader__#opaque")⟩, ⟨PyData.keyHash P (S "__spec__"), .str (S "__spec__") 169, .none⟩, ⟨PyData.keyHash P (S "__annotations__"), .str (S "__annotations__") 170, (.ref 6)⟩, ⟨PyData.keyHash P (S "__builtins__"), .str (S "__builtins__") 171, (.ref 4)⟩, ⟨PyData.keyHash P (S "__file__"), .str (S "__file__") 173, (.str (S "/claim/cut.py") 172)⟩, ⟨PyData.keyHash P (S "__cached__"), .str (S "__cached__") 174, .none⟩, ⟨PyData.keyHash P (S "_sre"), .str (S "_sre") 275, (.ref 12)⟩, ⟨PyData.keyHash P (S "_wall"), .str (S "_wall") 288, (.ref 38)⟩, ⟨PyData.keyHash P (S "_MAX_STRING_SIZE"), .str (S "_MAX_STRING_SIZE") 292, (.int 40 291)⟩, ⟨PyData.keyHash P (S "_MOVE_COST"), .str (S "_MOVE_COST") 294, (.int 2 293)⟩, ⟨PyData.keyHash P (S "_CASE_COST"), .str (S "_CASE_COST") 296, (.int 1 295)⟩, ⟨PyData.keyHash P (S "_substitution_cost"), .str (S "_substitution_cost") 304, (.ref 45)⟩, ⟨PyData.keyHash P (S "_levenshtein_distance"), .str (S "_levenshtein_distance") 324, (.ref 52)⟩, ⟨PyData.keyHash P (S "insort_right"), .str (S "insort_right") 339, (.ref 61)⟩, ⟨PyData.keyHash P (S "bisect_right"), .str (S "bisect_right") 353, (.ref 70)⟩, ⟨PyData.keyHash P (S "bisect_left"), .str (S "bisect_left") 367, (.ref 79)⟩, ⟨PyData.keyHash P (S "b1_set"), .str (S "b1_set") 429, (.ref 87)⟩, ⟨PyData.keyHash P (S "in_table_b1"), .str (S "in_table_b1") 436, (.ref 97)⟩, ⟨PyData.keyHash P (S "b3_exceptions"), .str (S "b3_exceptions") 2387, (.ref 98)⟩, ⟨PyData.keyHash P (S "map_table_b3"), .str (S "map_table_b3") 2395, (.ref 143)⟩, ⟨PyData.keyHash P (S "tspecials"), .str (S "tspecials") 2431, (.ref 148)⟩, ⟨PyData.keyHash P (S "_name_disallowed_re"), .str (S "_name_disallowed_re") 2457, (.ref 153)⟩, ⟨PyData.keyHash P (S "_value_disallowed_re"), .str (S "_value_disallowed_re") 2491, (.ref 158)⟩, ⟨PyData.keyHash P (S "_formatparam"), .str (S "_formatparam") 2501, (.ref 166)⟩, ⟨PyData.keyHash P (S "Headers"), .str (S "Headers") 2661, (.ref 289)⟩] 28), #[]⟩
noncomputable def o_29_p21 (P : Params) : Obj := ⟨.none, none, (.fields #[(.int 2 0), (.int 0 0), (.ref 37), (.int 9 0), (.int 0 0), (.ref 44), (.int 15 0), (.int 0 0), (.ref 51), (.int 54 0), (.int 0 0), (.ref 60), (.int 60 0), (.int 0 0), (.ref 69), (.int 80 0), (.int 0 0), (.ref 78), (.int 102 0), (.int 0 0), (.ref 96), (.int 105 0), (.int 0 0), (.ref 142), (.int 114 0), (.int 0 0), (.ref 165), (.int 123 0), (.int 0 0), (.ref 172)]), #[]⟩
noncomputable def o_167 (P : Params) : Obj := ⟨(.type "tuple"), none, (.seq #[] 0), #[]⟩
noncomputable def o_168 (P : Params) : Obj := ⟨(.type "builtin_function_or_method"), none, (.fields #[(.builtin "type.__prepare__"), (.type "type")]), #[]⟩
noncomputable def o_169 (P : Params) : Obj := ⟨(.type "dict"), none, (.dict #[⟨PyData.keyHash P (S "__module__"), .str (S "__module__") 2509, (.str (S "cpy313.wsgiref.headers") 2396)⟩, ⟨PyData.keyHash P (S "__qualname__"), .str (S "__qualname__") 2511, (.str (S "Headers") 2510)⟩, ⟨PyData.keyHash P (S "__firstlineno__"), .str (S "__firstlineno__") 2513, (.int 123 2512)⟩, ⟨PyData.keyHash P (S "__init__"), .str (S "__init__") 2523, (.ref 181)⟩, ⟨PyData.keyHash P (S "_convert_string_type"), .str (S "_convert_string_type") 2533, (.ref 188)⟩, ⟨PyData.keyHash P (S "__len__"), .str (S "__len__") 2540, (.ref 195)⟩, ⟨PyData.keyHash P (S "__setitem__"), .str (S "__setitem__") 2549, (.ref 202)⟩, ⟨PyData.keyHash P (S "__delitem__"), .str (S "__delitem__") 2555, (.ref 207)⟩, ⟨PyData.keyHash P (S "__getitem__"), .str (S "__getitem__") 2563, (.ref 214)⟩, ⟨PyData.keyHash P (S "__contains__"), .str (S "__contains__") 2571, (.ref 221)⟩, ⟨PyData.keyHash P (S "get_all"), .str (S "get_all") 2579, (.ref 228)⟩, ⟨PyData.keyHash P (S "get"), .str (S "get") 2590, (.ref 236)⟩, ⟨PyData.keyHash P (S "keys"), .str (S "keys") 2596, (.ref 241)⟩, ⟨PyData.keyHash P (S "values"), .str (S "values") 2602, (.ref 246)⟩, ⟨PyData.keyHash P (S "items"), .str (S "items") 2609, (.ref 253)⟩, ⟨PyData.keyHash P (S "__repr__"), .str (S "__repr__") 2616, (.ref 260)⟩, ⟨PyData.keyHash P (S "__str__"), .str (S "__str__") 2622, (.ref 265)⟩, ⟨PyData.keyHash P (S "__bytes__"), .str (S "__bytes__") 2629, (.ref 272)⟩, ⟨PyData.keyHash P (S "setdefault"), .str (S "setdefault") 2639, (.ref 279)⟩, ⟨PyData.keyHash P (S "add_header"), .str (S "add_header") 2652, (.ref 286)⟩, ⟨PyData.keyHash P (S "__static_attributes__"), .str (S "__static_attributes__") 2654, (.ref 287)⟩] 21), #[]⟩
noncomputable def o_170 (P : Params) : Obj := ⟨(.type "tuple"), none, (.seq #[] 0), #[]⟩
noncomputable def o_171 (P : Params) : Obj := ⟨.none, none, (.fields #[(.int 125 0), (.int 4 0), (.ref 180), (.int 135 0), (.int 4 0), (.ref 187), (.int 143 0), (.int 4 0), (.ref 194), (.int 146 0), (.int 4 0), (.ref 201), (.int 150 0), (.int 4 0), (.ref 206), (.int 154 0), (.int 4 0), (.ref 213), (.int 157 0), (.int 4 0), (.ref 220), (.int 160 0), (.int 4 0), (.ref 227), (.int 163 0), (.int 4 0), (.ref 235), (.int 170 0), (.int 4 0), (.ref 240), (.int 173 0), (.int 4 0), (.ref 245), (.int 176 0), (.int 4 0), (.ref 252), (.int 179 0), (.int 4 0), (.ref 259), (.int 182 0), (.int 4 0), (.ref 264), (.int 185 0), (.int 4 0), (.ref 271), (.int 188 0), (.int 4 0), (.ref 278), (.int 196 0), (.int 4 0), (.ref 285)]), #[]⟩
noncomputable def o_172 (P : Params) : Obj := ⟨(.type "code"), none, (.fields #[(.str (S "Headers") 2504), (.str (S "Headers") 2505), (.str (S "/claim/cut.py") 2506), (.int 123 0), (.int 0 0), (.int 0 0), (.int 0 0), (.int 0 0), (.ref 170), (.bool false), (.int 276 0), (.ref 171), .none, .none, .none, .none, (.int 2507 0), (.int 123 0), (.str (S "/claim/cut.py") 2508)]), #[]⟩
noncomputable def o_173 (P : Params) : Obj := ⟨(.type "frame"), none, .plain, #[(some (.ref 172)), (some (.ref 3)), (some (.ref 169)), none, (some (.str (S "cpy313.wsgiref.headers") 2396)), none, (some (.ref 0))]⟩
noncomputable def o_174 (P : Params) : Obj := ⟨(.type "tuple"), none, (.seq #[.none] 0), #[]⟩
noncomputable def o_175 (P : Params) : Obj := ⟨(.type "tuple"), none, (.seq #[] 0), #[]⟩
noncomputable def o_176 (P : Params) : Obj := ⟨.none, none, (.fields #[]), #[]⟩
noncomputable def o_177 (P : Params) : Obj := ⟨(.type "tuple"), none, (.seq #[(.str (S "self") 2517), (.str (S "headers") 2518), (.str (S "k") 2519), (.str (S "v") 2520)] 0), #[]⟩
noncomputable def o_178 (P : Params) : Obj := ⟨(.type "tuple"), none, (.seq #[] 0), #[]⟩
noncomputable def o_179 (P : Params) : Obj := ⟨.none, none, (.func ⟨(S "__init__"), (S "Headers.__init__"), mA 22 0, .stmts (mB 22 0), mS 22 0, 0, [], .none, .none, .none, .none, none, .none, .none, 0⟩), #[]⟩
noncomputable def o_180 (P : Params) : Obj := ⟨(.type "code"), none, (.fields #[(.str (S "__init__") 2514), (.str (S "Headers.__init__") 2515), (.str (S "/claim/cut.py") 2516), (.int 125 0), (.int 2 0), (.int 0 0), (.int 0 0), (.int 3 0), (.ref 175), (.bool true), (.int 276 0), (.ref 176), .none, (.ref 177), (.ref 178), (.ref 179), (.int 2521 0), (.int 125 0), (.str (S "/claim/cut.py") 2522)]), #[]⟩
noncomputable def o_181 (P : Params) : Obj := ⟨(.type "function"), none, (.func ⟨(S "__init__"), (S "Headers.__init__"), mA 22 0, .stmts (mB 22 0), mS 22 0, 3, [], (.ref 174), .none, .none, (.str (S "cpy313.wsgiref.headers") 2396), none, (.ref 180), .none, 0⟩), #[]⟩
noncomputable def o_182 (P : Params) : Obj := ⟨(.type "tuple"), none, (.seq #[] 0), #[]⟩
noncomputable def o_183 (P : Params) : Obj := ⟨.none, none, (.fields #[]), #[]⟩
noncomputable def o_184 (P : Params) : Obj := ⟨(.type "tuple"), none, (.seq #[(.str (S "self") 2527), (.str (S "value") 2528), (.str (S "name") 2529), (.str (S "regex") 2530)] 0), #[]⟩
noncomputable def o_185 (P : Params) : Obj := ⟨(.type "tuple"), none, (.seq #[] 0), #[]⟩
noncomputable def o_186 (P : Params) : Obj := ⟨.none, none, (.func ⟨(S "_convert_string_type"), (S "Headers._convert_string_type"), mA 22 1, .stmts (mB 22 1), mS 22 1, 0, [], .none, .none, .none, .none, none, .none, .none, 0⟩), #[]⟩
noncomputable def o_187 (P : Params) : Obj := ⟨(.type "code"), none, (.fields #[(.str (S "_convert_string_type") 2524), (.str (S "Headers._convert_string_type") 2525), (.str (S "/claim/cut.py") 2526), (.int 135 0), (.int 2 0), (.int 0 0), (.int 1 0), (.int 3 0), (.ref 182), (.bool true), (.int 276 0), (.ref 183), .none, (.ref 184), (.ref 185), (.ref 186), (.int 2531 0), (.int 135 0), (.str (S "/claim/cut.py") 2532)]), #[]⟩
noncomputable def o_188 (P : Params) : Obj := ⟨(.type "function"), none, (.func ⟨(S "_convert_string_type"), (S "Headers._convert_string_type"), mA 22 1, .stmts (mB 22 1), mS 22 1, 3, [], .none, .none, .none, (.str (S "cpy313.wsgiref.headers") 2396), none, (.ref 187), .none, 0⟩), #[]⟩
noncomputable def o_189 (P : Params) : Obj := ⟨(.type "tuple"), none, (.seq #[] 0), #[]⟩
noncomputable def o_190 (P : Params) : Obj := ⟨.none, none, (.fields #[]), #[]⟩
noncomputable def o_191 (P : Params) : Obj := ⟨(.type "tuple"), none, (.seq #[(.str (S "self") 2537)] 0), #[]⟩
noncomputable def o_192 (P : Params) : Obj := ⟨(.type "tuple"), none, (.seq #[] 0), #[]⟩
noncomputable def o_193 (P : Params) : Obj := ⟨.none, none, (.func ⟨(S "__len__"), (S "Headers.__len__"), mA 22 2, .stmts (mB 22 2), mS 22 2, 0, [], .none, .none, .none, .none, none, .none, .none, 0⟩), #[]⟩
noncomputable def o_194 (P : Params) : Obj := ⟨(.type "code"), none, (.fields #[(.str (S "__len__") 2534), (.str (S "Headers.__len__") 2535), (.str (S "/claim/cut.py") 2536), (.int 143 0), (.int 1 0), (.int 0 0), (.int 0 0), (.int 3 0), (.ref 189), (.bool true), (.int 276 0), (.ref 190), .none, (.ref 191), (.ref 192), (.ref 193), (.int 2538 0), (.int 143 0), (.str (S "/claim/cut.py") 2539)]), #[]⟩
noncomputable def o_195 (P : Params) : Obj := ⟨(.type "function"), none, (.func ⟨(S "__len__"), (S "Headers.__len__"), mA 22 2, .stmts (mB 22 2), mS 22 2, 3, [], .none, .none, .none, (.str (S "cpy313.wsgiref.headers") 2396), none, (.ref 194), .none, 0⟩), #[]⟩
noncomputable def o_196 (P : Params) : Obj := ⟨(.type "tuple"), none, (.seq #[] 0), #[]⟩
noncomputable def o_197 (P : Params) : Obj := ⟨.none, none, (.fields #[]), #[]⟩
noncomputable def o_198 (P : Params) : Obj := ⟨(.type "tuple"), none, (.seq #[(.str (S "self") 2544), (.str (S "name") 2545), (.str (S "val") 2546)] 0), #[]⟩
noncomputable def o_199 (P : Params) : Obj := ⟨(.type "tuple"), none, (.seq #[] 0), #[]⟩
noncomputable def o_200 (P : Params) : Obj := ⟨.none, none, (.func ⟨(S "__setitem__"), (S "Headers.__setitem__"), mA 22 3, .stmts (mB 22 3), mS 22 3, 0, [], .none, .none, .none, .none, none, .none, .none, 0⟩), #[]⟩
noncomputable def o_201 (P : Params) : Obj := ⟨(.type "code"), none, (.fields #[(.str (S "__setitem__") 2541), (.str (S "Headers.__setitem__") 2542), (.str (S "/claim/cut.py") 2543), (.int 146 0), (.int 3 0), (.int 0 0), (.int 0 0), (.int 3 0), (.ref 196), (.bool true), (.int 276 0), (.ref 197), .none, (.ref 198), (.ref 199), (.ref 200), (.int 2547 0), (.int 146 0), (.str (S "/claim/cut.py") 2548)]), #[]⟩
noncomputable def o_202 (P : Params) : Obj := ⟨(.type "function"), none, (.func ⟨(S "__setitem__"), (S "Headers.__setitem__"), mA 22 3, .stmts (mB 22 3), mS 22 3, 3, [], .none, .none, .none, (.str (S "cpy313.wsgiref.headers") 2396), none, (.ref 201), .none, 0⟩), #[]⟩
noncomputable def o_203 (P : Params) : Obj := ⟨(.type "tuple"), none, (.seq #[] 0), #[]⟩
noncomputable def o_204 (P : Params) : Obj := ⟨.none, none, (.fields #[]), #[]⟩
noncomputable def o_205 (P : Params) : Obj := ⟨.none, none, (.func ⟨(S "__delitem__"), (S "Headers.__delitem__"), mA 22 4, .stmts (mB 22 4), mS 22 4, 0, [], .none, .none, .none, .none, none, .none, .none, 0⟩), #[]⟩
noncomputable def o_206 (P : Params) : Obj := ⟨(.type "code"), none, (.fields #[(.str (S "__delitem__") 2550), (.str (S "Headers.__delitem__") 2551), (.str (S "/claim/cut.py") 2552), (.int 150 0), (.int 2 0), (.int 0 0), (.int 0 0), (.int 3 0), (.ref 203), (.bool true), (.int 276 0), (.ref 204), .none, .none, .none, (.ref 205), (.int 2553 0), (.int 150 0), (.str (S "/claim/cut.py") 2554)]), #[]⟩
noncomputable def o_207 (P : Params) : Obj := ⟨(.type "function"), none, (.func ⟨(S "__delitem__"), (S "Headers.__delitem__"), mA 22 4, .stmts (mB 22 4), mS 22 4, 3, [], .none, .none, .none, (.str (S "cpy313.wsgiref.headers") 2396), none, (.ref 206), .none, 0⟩), #[]⟩
noncomputable def o_208 (P : Params) : Obj := ⟨(.type "tuple"), none, (.seq #[] 0), #[]⟩
noncomputable def o_209 (P : Params) : Obj := ⟨.none, none, (.fields #[]), #[]⟩
noncomputable def o_210 (P : Params) : Obj := ⟨(.type "tuple"), none, (.seq #[(.str (S "self") 2559), (.str (S "name") 2560)] 0), #[]⟩
noncomputable def o_211 (P : Params) : Obj := ⟨(.type "tuple"), none, (.seq #[] 0), #[]⟩
noncomputable def o_212 (P : Params) : Obj := ⟨.none, none, (.func ⟨(S "__getitem__"), (S "Headers.__getitem__"), mA 22 5, .stmts (mB 22 5), mS 22 5, 0, [], .none, .none, .none, .none, none, .none, .none, 0⟩), #[]⟩
noncomputable def o_213 (P : Params) : Obj := ⟨(.type "code"), none, (.fields #[(.str (S "__getitem__") 2556), (.str (S "Headers.__getitem__") 2557), (.str (S "/claim/cut.py") 2558), (.int 154 0), (.int 2 0), (.int 0 0), (.int 0 0), (.int 3 0), (.ref 208), (.bool true), (.int 276 0), (.ref 209), .none, (.ref 210), (.ref 211), (.ref 212), (.int 2561 0), (.int 154 0), (.str (S "/claim/cut.py") 2562)]), #[]⟩
noncomputable def o_214 (P : Params) : Obj := ⟨(.type "function"), none, (.func ⟨(S "__getitem__"), (S "Headers.__getitem__"), mA 22 5, .stmts (mB 22 5), mS 22 5, 3, [], .none, .none, .none, (.str (S "cpy313.wsgiref.headers") 2396), none, (.ref 213), .none, 0⟩), #[]⟩
noncomputable def o_215 (P : Params) : Obj := ⟨(.type "tuple"), none, (.seq #[] 0), #[]⟩
noncomputable def o_216 (P : Params) : Obj := ⟨.none, none, (.fields #[]), #[]⟩
noncomputable def o_217 (P : Params) : Obj := ⟨(.type "tuple"), none, (.seq #[(.str (S "self") 2567), (.str (S "name") 2568)] 0), #[]⟩
noncomputable def o_218 (P : Params) : Obj := ⟨(.type "tuple"), none, (.seq #[] 0), #[]⟩
noncomputable def o_219 (P : Params) : Obj := ⟨.none, none, (.func ⟨(S "__contains__"), (S "Headers.__contains__"), mA 22 6, .stmts (mB 22 6), mS 22 6, 0, [], .none, .none, .none, .none, none, .none, .none, 0⟩), #[]⟩
noncomputable def o_220 (P : Params) : Obj := ⟨(.type "code"), none, (.fields #[(.str (S "__contains__") 2564), (.str (S "Headers.__contains__") 2565), (.str (S "/claim/cut.py") 2566), (.int 157 0), (.int 2 0), (.int 0 0), (.int 0 0), (.int 3 0), (.ref 215), (.bool true), (.int 276 0), (.ref 216), .none, (.ref 217), (.ref 218), (.ref 219), (.int 2569 0), (.int 157 0), (.str (S "/claim/cut.py") 2570)]), #[]⟩
noncomputable def o_221 (P : Params) : Obj := ⟨(.type "function"), none, (.func ⟨(S "__contains__"), (S "Headers.__contains__"), mA 22 6, .stmts (mB 22 6), mS 22 6, 3, [], .none, .none, .none, (.str (S "cpy313.wsgiref.headers") 2396), none, (.ref 220), .none, 0⟩), #[]⟩
noncomputable def o_222 (P : Params) : Obj := ⟨(.type "tuple"), none, (.seq #[] 0), #[]⟩
noncomputable def o_223 (P : Params) : Obj := ⟨.none, none, (.fields #[]), #[]⟩
noncomputable def o_224 (P : Params) : Obj := ⟨(.type "tuple"), none, (.seq #[(.str (S "self") 2575), (.str (S "name") 2576)] 0), #[]⟩
noncomputable def o_225 (P : Params) : Obj := ⟨(.type "tuple"), none, (.seq #[] 0), #[]⟩
noncomputable def o_226 (P : Params) : Obj := ⟨.none, none, (.func ⟨(S "get_all"), (S "Headers.get_all"), mA 22 7, .stmts (mB 22 7), mS 22 7, 0, [], .none, .none, .none, .none, none, .none, .none, 0⟩), #[]⟩
noncomputable def o_227 (P : Params) : Obj := ⟨(.type "code"), none, (.fields #[(.str (S "get_all") 2572), (.str (S "Headers.get_all") 2573), (.str (S "/claim/cut.py") 2574), (.int 160 0), (.int 2 0), (.int 0 0), (.int 0 0), (.int 3 0), (.ref 222), (.bool true), (.int 276 0), (.ref 223), .none, (.ref 224), (.ref 225), (.ref 226), (.int 2577 0), (.int 160 0), (.str (S "/claim/cut.py") 2578)]), #[]⟩
noncomputable def o_228 (P : Params) : Obj := ⟨(.type "function"), none, (.func ⟨(S "get_all"), (S "Headers.get_all"), mA 22 7, .stmts (mB 22 7), mS 22 7, 3, [], .none, .none, .none, (.str (S "cpy313.wsgiref.headers") 2396), none, (.ref 227), .none, 0⟩), #[]⟩
noncomputable def o_229 (P : Params) : Obj := ⟨(.type "tuple"), none, (.seq #[.none] 0), #[]⟩
noncomputable def o_230 (P : Params) : Obj := ⟨(.type "tuple"), none, (.seq #[] 0), #[]⟩
noncomputable def o_231 (P : Params) : Obj := ⟨.none, none, (.fields #[]), #[]⟩
noncomputable def o_232 (P : Params) : Obj := ⟨(.type "tuple"), none, (.seq #[(.str (S "self") 2583), (.str (S "name") 2584), (.str (S "default") 2585), (.str (S "k") 2586), (.str (S "v") 2587)] 0), #[]⟩
noncomputable def o_233 (P : Params) : Obj := ⟨(.type "tuple"), none, (.seq #[] 0), #[]⟩
noncomputable def o_234 (P : Params) : Obj := ⟨.none, none, (.func ⟨(S "get"), (S "Headers.get"), mA 22 8, .stmts (mB 22 8), mS 22 8, 0, [], .none, .none, .none, .none, none, .none, .none, 0⟩), #[]⟩
noncomputable def o_235 (P : Params) : Obj := ⟨(.type "code"), none, (.fields #[(.str (S "get") 2580), (.str (S "Headers.get") 2581), (.str (S "/claim/cut.py") 2582), (.int 163 0), (.int 3 0), (.int 0 0), (.int 0 0), (.int 3 0), (.ref 230), (.bool true), (.int 276 0), (.ref 231), .none, (.ref 232), (.ref 233), (.ref 234), (.int 2588 0), (.int 163 0), (.str (S "/claim/cut.py") 2589)]), #[]⟩
noncomputable def o_236 (P : Params) : Obj := ⟨(.type "function"), none, (.func ⟨(S "get"), (S "Headers.get"), mA 22 8, .stmts (mB 22 8), mS 22 8, 3, [], (.ref 229), .none, .none, (.str (S "cpy313.wsgiref.headers") 2396), none, (.ref 235), .none, 0⟩), #[]⟩
noncomputable def o_237 (P : Params) : Obj := ⟨(.type "tuple"), none, (.seq #[] 0), #[]⟩
noncomputable def o_238 (P : Params) : Obj := ⟨.none, none, (.fields #[]), #[]⟩
noncomputable def o_239 (P : Params) : Obj := ⟨.none, none, (.func ⟨(S "keys"), (S "Headers.keys"), mA 22 9, .stmts (mB 22 9), mS 22 9, 0, [], .none, .none, .none, .none, none, .none, .none, 0⟩), #[]⟩
noncomputable def o_240 (P : Params) : Obj := ⟨(.type "code"), none, (.fields #[(.str (S "keys") 2591), (.str (S "Headers.keys") 2592), (.str (S "/claim/cut.py") 2593), (.int 170 0), (.int 1 0), (.int 0 0), (.int 0 0), (.int 3 0), (.ref 237), (.bool true), (.int 276 0), (.ref 238), .none, .none, .none, (.ref 239), (.int 2594 0), (.int 170 0), (.str (S "/claim/cut.py") 2595)]), #[]⟩
noncomputable def o_241 (P : Params) : Obj := ⟨(.type "function"), none, (.func ⟨(S "keys"), (S "Headers.keys"), mA 22 9, .stmts (mB 22 9), mS 22 9, 3, [], .none, .none, .none, (.str (S "cpy313.wsgiref.headers") 2396), none, (.ref 240), .none, 0⟩), #[]⟩
noncomputable def o_242 (P : Params) : Obj := ⟨(.type "tuple"), none, (.seq #[] 0), #[]⟩
noncomputable def o_243 (P : Params) : Obj := ⟨.none, none, (.fields #[]), #[]⟩
noncomputable def o_244 (P : Params) : Obj := ⟨.none, none, (.func ⟨(S "values"), (S "Headers.values"), mA 22 10, .stmts (mB 22 10), mS 22 10, 0, [], .none, .none, .none, .none, none, .none, .none, 0⟩), #[]⟩
noncomputable def o_245 (P : Params) : Obj := ⟨(.type "code"), none, (.fields #[(.str (S "values") 2597), (.str (S "Headers.values") 2598), (.str (S "/claim/cut.py") 2599), (.int 173 0), (.int 1 0), (.int 0 0), (.int 0 0), (.int 3 0), (.ref 242), (.bool true), (.int 276 0), (.ref 243), .none, .none, .none, (.ref 244), (.int 2600 0), (.int 173 0), (.str (S "/claim/cut.py") 2601)]), #[]⟩
noncomputable def o_246 (P : Params) : Obj := ⟨(.type "function"), none, (.func ⟨(S "values"), (S "Headers.values"), mA 22 10, .stmts (mB 22 10), mS 22 10, 3, [], .none, .none, .none, (.str (S "cpy313.wsgiref.headers") 2396), none, (.ref 245), .none, 0⟩), #[]⟩
noncomputable def o_247 (P : Params) : Obj := ⟨(.type "tuple"), none, (.seq #[] 0), #[]⟩
noncomputable def o_248 (P : Params) : Obj := ⟨.none, none, (.fields #[]), #[]⟩
noncomputable def o_249 (P : Params) : Obj := ⟨(.type "tuple"), none, (.seq #[(.str (S "self") 2606)] 0), #[]⟩
noncomputable def o_250 (P : Params) : Obj := ⟨(.type "tuple"), none, (.seq #[] 0), #[]⟩
noncomputable def o_251 (P : Params) : Obj := ⟨.none, none, (.func ⟨(S "items"), (S "Headers.items"), mA 22 11, .stmts (mB 22 11), mS 22 11, 0, [], .none, .none, .none, .none, none, .none, .none, 0⟩), #[]⟩
noncomputable def o_252 (P : Params) : Obj := ⟨(.type "code"), none, (.fields #[(.str (S "items") 2603), (.str (S "Headers.items") 2604), (.str (S "/claim/cut.py") 2605), (.int 176 0), (.int 1 0), (.int 0 0), (.int 0 0), (.int 3 0), (.ref 247), (.bool true), (.int 276 0), (.ref 248), .none, (.ref 249), (.ref 250), (.ref 251), (.int 2607 0), (.int 176 0), (.str (S "/claim/cut.py") 2608)]), #[]⟩
noncomputable def o_253 (P : Params) : Obj := ⟨(.type "function"), none, (.func ⟨(S "items"), (S "Headers.items"), mA 22 11, .stmts (mB 22 11), mS 22 11, 3, [], .none, .none, .none, (.str (S "cpy313.wsgiref.headers") 2396), none, (.ref 252), .none, 0⟩), #[]⟩
noncomputable def o_254 (P : Params) : Obj := ⟨(.type "tuple"), none, (.seq #[] 0), #[]⟩
noncomputable def o_255 (P : Params) : Obj := ⟨.none, none, (.fields #[]), #[]⟩
noncomputable def o_256 (P : Params) : Obj := ⟨(.type "tuple"), none, (.seq #[(.str (S "self") 2613)] 0), #[]⟩
noncomputable def o_257 (P : Params) : Obj := ⟨(.type "tuple"), none, (.seq #[] 0), #[]⟩
noncomputable def o_258 (P : Params) : Obj := ⟨.none, none, (.func ⟨(S "__repr__"), (S "Headers.__repr__"), mA 22 12, .stmts (mB 22 12), mS 22 12, 0, [], .none, .none, .none, .none, none, .none, .none, 0⟩), #[]⟩
noncomputable def o_259 (P : Params) : Obj := ⟨(.type "code"), none, (.fields #[(.str (S "__repr__") 2610), (.str (S "Headers.__repr__") 2611), (.str (S "/claim/cut.py") 2612), (.int 179 0), (.int 1 0), (.int 0 0), (.int 0 0), (.int 3 0), (.ref 254), (.bool true), (.int 276 0), (.ref 255), .none, (.ref 256), (.ref 257), (.ref 258), (.int 2614 0), (.int 179 0), (.str (S "/claim/cut.py") 2615)]), #[]⟩
noncomputable def o_260 (P : Params) : Obj := ⟨(.type "function"), none, (.func ⟨(S "__repr__"), (S "Headers.__repr__"), mA 22 12, .stmts (mB 22 12), mS 22 12, 3, [], .none, .none, .none, (.str (S "cpy313.wsgiref.headers") 2396), none, (.ref 259), .none, 0⟩), #[]⟩
noncomputable def o_261 (P : Params) : Obj := ⟨(.type "tuple"), none, (.seq #[] 0), #[]⟩
noncomputable def o_262 (P : Params) : Obj := ⟨.none, none, (.fields #[]), #[]⟩
noncomputable def o_263 (P : Params) : Obj := ⟨.none, none, (.func ⟨(S "__str__"), (S "Headers.__str__"), mA 22 13, .stmts (mB 22 13), mS 22 13, 0, [], .none, .none, .none, .none, none, .none, .none, 0⟩), #[]⟩
noncomputable def o_264 (P : Params) : Obj := ⟨(.type "code"), none, (.fields #[(.str (S "__str__") 2617), (.str (S "Headers.__str__") 2618), (.str (S "/claim/cut.py") 2619), (.int 182 0), (.int 1 0), (.int 0 0), (.int 0 0), (.int 3 0), (.ref 261), (.bool true), (.int 276 0), (.ref 262), .none, .none, .none, (.ref 263), (.int 2620 0), (.int 182 0), (.str (S "/claim/cut.py") 2621)]), #[]⟩
noncomputable def o_265 (P : Params) : Obj := ⟨(.type "function"), none, (.func ⟨(S "__str__"), (S "Headers.__str__"), mA 22 13, .stmts (mB 22 13), mS 22 13, 3, [], .none, .none, .none, (.str (S "cpy313.wsgiref.headers") 2396), none, (.ref 264), .none, 0⟩), #[]⟩
noncomputable def o_266 (P : Params) : Obj := ⟨(.type "tuple"), none, (.seq #[] 0), #[]⟩
noncomputable def o_267 (P : Params) : Obj := ⟨.none, none, (.fields #[]), #[]⟩
noncomputable def o_268 (P : Params) : Obj := ⟨(.type "tuple"), none, (.seq #[(.str (S "self") 2626)] 0), #[]⟩
noncomputable def o_269 (P : Params) : Obj := ⟨(.type "tuple"), none, (.seq #[] 0), #[]⟩
noncomputable def o_270 (P : Params) : Obj := ⟨.none, none, (.func ⟨(S "__bytes__"), (S "Headers.__bytes__"), mA 22 14, .stmts (mB 22 14), mS 22 14, 0, [], .none, .none, .none, .none, none, .none, .none, 0⟩), #[]⟩
noncomputable def o_271 (P : Params) : Obj := ⟨(.type "code"), none, (.fields #[(.str (S "__bytes__") 2623), (.str (S "Headers.__bytes__") 2624), (.str (S "/claim/cut.py") 2625), (.int 185 0), (.int 1 0), (.int 0 0), (.int 0 0), (.int 3 0), (.ref 266), (.bool true), (.int 276 0), (.ref 267), .none, (.ref 268), (.ref 269), (.ref 270), (.int 2627 0), (.int 185 0), (.str (S "/claim/cut.py") 2628)]), #[]⟩
noncomputable def o_272 (P : Params) : Obj := ⟨(.type "function"), none, (.func ⟨(S "__bytes__"), (S "Headers.__bytes__"), mA 22 14, .stmts (mB 22 14), mS 22 14, 3, [], .none, .none, .none, (.str (S "cpy313.wsgiref.headers") 2396), none, (.ref 271), .none, 0⟩), #[]⟩
noncomputable def o_273 (P : Params) : Obj := ⟨(.type "tuple"), none, (.seq #[] 0), #[]⟩
noncomputable def o_274 (P : Params) : Obj := ⟨.none, none, (.fields #[]), #[]⟩
noncomputable def o_275 (P : Params) : Obj := ⟨(.type "tuple"), none, (.seq #[(.str (S "self") 2633), (.str (S "name") 2634), (.str (S "value") 2635), (.str (S "result") 2636)] 0), #[]⟩
noncomputable def o_276 (P : Params) : Obj := ⟨(.type "tuple"), none, (.seq #[] 0), #[]⟩
noncomputable def o_277 (P : Params) : Obj := ⟨.none, none, (.func ⟨(S "setdefault"), (S "Headers.setdefault"), mA 22 15, .stmts (mB 22 15), mS 22 15, 0, [], .none, .none, .none, .none, none, .none, .none, 0⟩), #[]⟩
noncomputable def o_278 (P : Params) : Obj := ⟨(.type "code"), none, (.fields #[(.str (S "setdefault") 2630), (.str (S "Headers.setdefault") 2631), (.str (S "/claim/cut.py") 2632), (.int 188 0), (.int 3 0), (.int 0 0), (.int 0 0), (.int 3 0), (.ref 273), (.bool true), (.int 276 0), (.ref 274), .none, (.ref 275), (.ref 276), (.ref 277), (.int 2637 0), (.int 188 0), (.str (S "/claim/cut.py") 2638)]), #[]⟩
noncomputable def o_279 (P : Params) : Obj := ⟨(.type "function"), none, (.func ⟨(S "setdefault"), (S "Headers.setdefault"), mA 22 15, .stmts (mB 22 15), mS 22 15, 3, [], .none, .none, .none, (.str (S "cpy313.wsgiref.headers") 2396), none, (.ref 278), .none, 0⟩), #[]⟩
noncomputable def o_280 (P : Params) : Obj := ⟨(.type "tuple"), none, (.seq #[] 0), #[]⟩
noncomputable def o_281 (P : Params) : Obj := ⟨.none, none, (.fields #[]), #[]⟩
noncomputable def o_282 (P : Params) : Obj := ⟨(.type "tuple"), none, (.seq #[(.str (S "self") 2643), (.str (S "_name") 2644), (.str (S "_value") 2645), (.str (S "_params") 2646), (.str (S "parts") 2647), (.str (S "k") 2648), (.str (S "v") 2649)] 0), #[]⟩
noncomputable def o_283 (P : Params) : Obj := ⟨(.type "tuple"), none, (.seq #[] 0), #[]⟩
noncomputable def o_284 (P : Params) : Obj := ⟨.none, none, (.func ⟨(S "add_header"), (S "Headers.add_header"), mA 22 16, .stmts (mB 22 16), mS 22 16, 0, [], .none, .none, .none, .none, none, .none, .none, 0⟩), #[]⟩
noncomputable def o_285 (P : Params) : Obj := ⟨(.type "code"), none, (.fields #[(.str (S "add_header") 2640), (.str (S "Headers.add_header") 2641), (.str (S "/claim/cut.py") 2642), (.int 196 0), (.int 3 0), (.int 0 0), (.int 0 0), (.int 11 0), (.ref 280), (.bool true), (.int 276 0), (.ref 281), .none, (.ref 282), (.ref 283), (.ref 284), (.int 2650 0), (.int 196 0), (.str (S "/claim/cut.py") 2651)]), #[]⟩
noncomputable def o_286 (P : Params) : Obj := ⟨(.type "function"), none, (.func ⟨(S "add_header"), (S "Headers.add_header"), mA 22 16, .stmts (mB 22 16), mS 22 16, 3, [], .none, .none, .none, (.str (S "cpy313.wsgiref.headers") 2396), none, (.ref 285), .none, 0⟩), #[]⟩
noncomputable def o_287 (P : Params) : Obj := ⟨(.type "tuple"), none, (.seq #[(.str (S "_headers") 2653)] 0), #[]⟩
noncomputable def o_288 (P : Params) : Obj := ⟨(.type "dict"), none, (.dict #[⟨PyData.keyHash P (S "__module__"), .str (S "__module__") 2509, (.str (S "cpy313.wsgiref.headers") 2396)⟩, ⟨PyData.keyHash P (S "__firstlineno__"), .str (S "__firstlineno__") 2513, (.int 123 2512)⟩, ⟨PyData.keyHash P (S "__init__"), .str (S "__init__") 2523, (.ref 181)⟩, ⟨PyData.keyHash P (S "_convert_string_type"), .str (S "_convert_string_type") 2533, (.ref 188)⟩, ⟨PyData.keyHash P (S "__len__"), .str (S "__len__") 2540, (.ref 195)⟩, ⟨PyData.keyHash P (S "__setitem__"), .str (S "__setitem__") 2549, (.ref 202)⟩, ⟨PyData.keyHash P (S "__delitem__"), .str (S "__delitem__") 2555, (.ref 207)⟩, ⟨PyData.keyHash P (S "__getitem__"), .str (S "__getitem__") 2563, (.ref 214)⟩, ⟨PyData.keyHash P (S "__contains__"), .str (S "__contains__") 2571, (.ref 221)⟩, ⟨PyData.keyHash P (S "get_all"), .str (S "get_all") 2579, (.ref 228)⟩, ⟨PyData.keyHash P (S "get"), .str (S "get") 2590, (.ref 236)⟩, ⟨PyData.keyHash P (S "keys"), .str (S "keys") 2596, (.ref 241)⟩, ⟨PyData.keyHash P (S "values"), .str (S "values") 2602, (.ref 246)⟩, ⟨PyData.keyHash P (S "items"), .str (S "items") 2609, (.ref 253)⟩, ⟨PyData.keyHash P (S "__repr__"), .str (S "__repr__") 2616, (.ref 260)⟩, ⟨PyData.keyHash P (S "__str__"), .str (S "__str__") 2622, (.ref 265)⟩, ⟨PyData.keyHash P (S "__bytes__"), .str (S "__bytes__") 2629, (.ref 272)⟩, ⟨PyData.keyHash P (S "setdefault"), .str (S "setdefault") 2639, (.ref 279)⟩, ⟨PyData.keyHash P (S "add_header"), .str (S "add_header") 2652, (.ref 286)⟩, ⟨PyData.keyHash P (S "__static_attributes__"), .str (S "__static_attributes__") 2654, (.ref 287)⟩, ⟨PyData.keyHash P (S "__dict__"), .str (S "__dict__") 2656, (.ref 290)⟩, ⟨PyData.keyHash P (S "__weakref__"), .str (S "__weakref__") 2658, (.ref 291)⟩, ⟨PyData.keyHash P (S "__doc__"), .str (S "__doc__") 2659, .none⟩] 4), #[]⟩
noncomputable def o_289 (P : Params) : Obj := ⟨(.type "type"), none, (.cls ⟨(S "Headers"), [(.type "object")], [(.ref 289), (.type "object")], 288, (S "Headers"), true, [], [], false, none, false⟩), #[none, none, (some (.str (S "Headers") 2502)), (some (.str (S "Headers") 2510)), (some (.builtin "object.__new__")), (some (.bool true))]⟩
noncomputable def o_290 (P : Params) : Obj := ⟨(.type "getset_descriptor"), none, (.fields #[(.str (S "__dict__") 2655), (.ref 289), (.builtin "function.__dict__"), (.builtin "function.__dict__#set")]), #[]⟩
noncomputable def o_291 (P : Params) : Obj := ⟨(.type "getset_descriptor"), none, (.fields #[(.str (S "__weakref__") 2657), (.ref 289), (.builtin "ExceptionGroup.__weakref__"), .none]), #[]⟩
noncomputable def o_292 (P : Params) : Obj := ⟨(.type "super"), none, (.fields #[(.ref 289), (.ref 289), (.ref 289)]), #[]⟩
noncomputable def o_293 (P : Params) : Obj := ⟨(.type "builtin_function_or_method"), none, (.fields #[(.builtin "object.__init_subclass__"), (.ref 289)]), #[]⟩
noncomputable def T_p21 (P : Params) : BT := (.node (o_0 P) (.node (o_1 P) (.node (o_3_p21 P) (.node (o_7 P) (.node (o_15 P) (.node (o_31 P) (.node (o_63 P) (.node (o_127 P) (.node (o_255 P) .nil .nil) .nil) (.node (o_191 P) .nil .nil)) (.node (o_95 P) (.node (o_159 P) (.node (o_287 P) .nil .nil) .nil) (.node (o_223 P) .nil .nil))) (.node (o_47 P) (.node (o_79 P) (.node (o_143 P) (.node (o_271 P) .nil .nil) .nil) (.node (o_207 P) .nil .nil)) (.node (o_111 P) (.node (o_175 P) .nil .nil) (.node (o_239 P) .nil .nil)))) (.node (o_23 P) (.node (o_39 P) (.node (o_71 P) (.node (o_135 P) (.node (o_263 P) .nil .nil) .nil) (.node (o_199 P) .nil .nil)) (.node (o_103 P) (.node (o_167 P) .nil .nil) (.node (o_231 P) .nil .nil))) (.node (o_55 P) (.node (o_87 P) (.node (o_151 P) (.node (o_279 P) .nil .nil) .nil) (.node (o_215 P) .nil .nil)) (.node (o_119 P) (.node (o_183 P) .nil .nil) (.node (o_247 P) .nil .nil))))) (.node (o_11 P) (.node (o_19 P) (.node (o_35 P) (.node (o_67 P) (.node (o_131 P) (.node (o_259 P) .nil .nil) .nil) (.node (o_195 P) .nil .nil)) (.node (o_99 P) (.node (o_163 P) (.node (o_291 P) .nil .nil) .nil) (.node (o_227 P) .nil .nil))) (.node (o_51 P) (.node (o_83 P) (.node (o_147 P) (.node (o_275 P) .nil .nil) .nil) (.node (o_211 P) .nil .nil)) (.node (o_115 P) (.node (o_179 P) .nil .nil) (.node (o_243 P) .nil .nil)))) (.node (o_27 P) (.node (o_43 P) (.node (o_75 P) (.node (o_139 P) (.node (o_267 P) .nil .nil) .nil) (.node (o_203 P) .nil .nil)) (.node (o_107 P) (.node (o_171 P) .nil .nil) (.node (o_235 P) .nil .nil))) (.node (o_59 P) (.node (o_91 P) (.node (o_155 P) (.node (o_283 P) .nil .nil) .nil) (.node (o_219 P) .nil .nil)) (.node (o_123 P) (.node (o_187 P) .nil .nil) (.node (o_251 P) .nil .nil)))))) (.node (o_5 P) (.node (o_9 P) (.node (o_17 P) (.node (o_33 P) (.node (o_65 P) (.node (o_129 P) (.node (o_257 P) .nil .nil) .nil) (.node (o_193 P) .nil .nil)) (.node (o_97 P) (.node (o_161 P) (.node (o_289 P) .nil .nil) .nil) (.node (o_225 P) .nil .nil))) (.node (o_49 P) (.node (o_81 P) (.node (o_145 P) (.node (o_273 P) .nil .nil) .nil) (.node (o_209 P) .nil .nil)) (.node (o_113 P) (.node (o_177 P) .nil .nil) (.node (o_241 P) .nil .nil)))) (.node (o_25 P) (.node (o_41 P) (.node (o_73 P) (.node (o_137 P) (.node (o_265 P) .nil .nil) .nil) (.node (o_201 P) .nil .nil)) (.node (o_105 P) (.node (o_169 P) .nil .nil) (.node (o_233 P) .nil .nil))) (.node (o_57 P) (.node (o_89 P) (.node (o_153 P) (.node (o_281 P) .nil .nil) .nil) (.node (o_217 P) .nil .nil)) (.node (o_121 P) (.node (o_185 P) .nil .nil) (.node (o_249 P) .nil .nil))))) (.node (o_13 P) (.node (o_21 P) (.node (o_37 P) (.node (o_69 P) (.node (o_133 P) (.node (o_261 P) .nil .nil) .nil) (.node (o_197 P) .nil .nil)) (.node (o_101 P) (.node (o_165 P) (.node (o_293 P) .nil .nil) .nil) (.node (o_229 P) .nil .nil))) (.node (o_53 P) (.node (o_85 P) (.node (o_149 P) (.node (o_277 P) .nil .nil) .nil) (.node (o_213 P) .nil .nil)) (.node (o_117 P) (.node (o_181 P) .nil .nil) (.node (o_245 P) .nil .nil)))) (.node (o_29_p21 P) (.node (o_45 P) (.node (o_77 P) (.node (o_141 P) (.node (o_269 P) .nil .nil) .nil) (.node (o_205 P) .nil .nil)) (.node (o_109 P) (.node (o_173 P) .nil .nil) (.node (o_237 P) .nil .nil))) (.node (o_61 P) (.node (o_93 P) (.node (o_157 P) (.node (o_285 P) .nil .nil) .nil) (.node (o_221 P) .nil .nil)) (.node (o_125 P) (.node (o_189 P) .nil .nil) (.node (o_253 P) .nil .nil))))))) (.node (o_2 P) (.node (o_4 P) (.node (o_8 P) (.node (o_16 P) (.node (o_32 P) (.node (o_64 P) (.node (o_128 P) (.node (o_256 P) .nil .nil) .nil) (.node (o_192 P) .nil .nil)) (.node (o_96 P) (.node (o_160 P) (.node (o_288 P) .nil .nil) .nil) (.node (o_224 P) .nil .nil))) (.node (o_48 P) (.node (o_80 P) (.node (o_144 P) (.node (o_272 P) .nil .nil) .nil) (.node (o_208 P) .nil .nil)) (.node (o_112 P) (.node (o_176 P) .nil .nil) (.node (o_240 P) .nil .nil)))) (.node (o_24 P) (.node (o_40 P) (.node (o_72 P) (.node (o_136 P) (.node (o_264 P) .nil .nil) .nil) (.node (o_200 P) .nil .nil)) (.node (o_104 P) (.node (o_168 P) .nil .nil) (.node (o_232 P) .nil .nil))) (.node (o_56 P) (.node (o_88 P) (.node (o_152 P) (.node (o_280 P) .nil .nil) .nil) (.node (o_216 P) .nil .nil)) (.node (o_120 P) (.node (o_184 P) .nil .nil) (.node (o_248 P) .nil .nil))))) (.node (o_12 P) (.node (o_20 P) (.node (o_36 P) (.node (o_68 P) (.node (o_132 P) (.node (o_260 P) .nil .nil) .nil) (.node (o_196 P) .nil .nil)) (.node (o_100 P) (.node (o_164 P) (.node (o_292 P) .nil .nil) .nil) (.node (o_228 P) .nil .nil))) (.node (o_52 P) (.node (o_84 P) (.node (o_148 P) (.node (o_276 P) .nil .nil) .nil) (.node (o_212 P) .nil .nil)) (.node (o_116 P) (.node (o_180 P) .nil .nil) (.node (o_244 P) .nil .nil)))) (.node (o_28 P) (.node (o_44 P) (.node (o_76 P) (.node (o_140 P) (.node (o_268 P) .nil .nil) .nil) (.node (o_204 P) .nil .nil)) (.node (o_108 P) (.node (o_172 P) .nil .nil) (.node (o_236 P) .nil .nil))) (.node (o_60 P) (.node (o_92 P) (.node (o_156 P) (.node (o_284 P) .nil .nil) .nil) (.node (o_220 P) .nil .nil)) (.node (o_124 P) (.node (o_188 P) .nil .nil) (.node (o_252 P) .nil .nil)))))) (.node (o_6 P) (.node (o_10 P) (.node (o_18 P) (.node (o_34 P) (.node (o_66 P) (.node (o_130 P) (.node (o_258 P) .nil .nil) .nil) (.node (o_194 P) .nil .nil)) (.node (o_98 P) (.node (o_162 P) (.node (o_290 P) .nil .nil) .nil) (.node (o_226 P) .nil .nil))) (.node (o_50 P) (.node (o_82 P) (.node (o_146 P) (.node (o_274 P) .nil .nil) .nil) (.node (o_210 P) .nil .nil)) (.node (o_114 P) (.node (o_178 P) .nil .nil) (.node (o_242 P) .nil .nil)))) (.node (o_26 P) (.node (o_42 P) (.node (o_74 P) (.node (o_138 P) (.node (o_266 P) .nil .nil) .nil) (.node (o_202 P) .nil .nil)) (.node (o_106 P) (.node (o_170 P) .nil .nil) (.node (o_234 P) .nil .nil))) (.node (o_58 P) (.node (o_90 P) (.node (o_154 P) (.node (o_282 P) .nil .nil) .nil) (.node (o_218 P) .nil .nil)) (.node (o_122 P) (.node (o_186 P) .nil .nil) (.node (o_250 P) .nil .nil))))) (.node (o_14 P) (.node (o_22 P) (.node (o_38 P) (.node (o_70 P) (.node (o_134 P) (.node (o_262 P) .nil .nil) .nil) (.node (o_198 P) .nil .nil)) (.node (o_102 P) (.node (o_166 P) .nil .nil) (.node (o_230 P) .nil .nil))) (.node (o_54 P) (.node (o_86 P) (.node (o_150 P) (.node (o_278 P) .nil .nil) .nil) (.node (o_214 P) .nil .nil)) (.node (o_118 P) (.node (o_182 P) .nil .nil) (.node (o_246 P) .nil .nil)))) (.node (o_30 P) (.node (o_46 P) (.node (o_78 P) (.node (o_142 P) (.node (o_270 P) .nil .nil) .nil) (.node (o_206 P) .nil .nil)) (.node (o_110 P) (.node (o_174 P) .nil .nil) (.node (o_238 P) .nil .nil))) (.node (o_62 P) (.node (o_94 P) (.node (o_158 P) (.node (o_286 P) .nil .nil) .nil) (.node (o_222 P) .nil .nil)) (.node (o_126 P) (.node (o_190 P) .nil .nil) (.node (o_254 P) .nil .nil))))))))
noncomputable abbrev st_p21 (w : World) (os : OsState) : SharedT := ⟨T_p21 w.params, 294, {}, #[], {}, 2662, os⟩
noncomputable def o_3_p31 (P : Params) : Obj := ⟨(.type "dict"), none, (.dict #[⟨PyData.keyHash P (S "__name__"), .str (S "__name__") 165, (.str (S "law_uq0030_01") 2662)⟩, ⟨PyData.keyHash P (S "__doc__"), .str (S "__doc__") 166, .none⟩, ⟨PyData.keyHash P (S "__package__"), .str (S "__package__") 167, .none⟩, ⟨PyData.keyHash P (S "__loader__"), .str (S "__loader__") 168, (.builtin "__main__.__loader__#opaque")⟩, ⟨PyData.keyHash P (S "__spec__"), .str (S "__spec__") 169, .none⟩, ⟨PyData.keyHash P (S "__annotations__"), .str (S "__annotations__") 170, (.ref 6)⟩, ⟨PyData.keyHash P (S "__builtins__"), .str (S "__builtins__") 171, (.ref 4)⟩, ⟨PyData.keyHash P (S "__file__"), .str (S "__file__") 173, (.str (S "/claim/cut.py") 172)⟩, ⟨PyData.keyHash P (S "__cached__"), .str (S "__cached__") 174, .none⟩, ⟨PyData.keyHash P (S "_sre"), .str (S "_sre") 275, (.ref 12)⟩, ⟨PyData.keyHash P (S "_wall"), .str (S "_wall") 288, (.ref 38)⟩, ⟨PyData.keyHash P (S "_MAX_STRING_SIZE"), .str (S "_MAX_STRING_SIZE") 292, (.int 40 291)⟩, ⟨PyData.keyHash P (S "_MOVE_COST"), .str (S "_MOVE_COST") 294, (.int 2 293)⟩, ⟨PyData.keyHash P (S "_CASE_COST"), .str (S "_CASE_COST") 296, (.int 1 295)⟩, ⟨PyData.keyHash P (S "_substitution_cost"), .str (S "_substitution_cost") 304, (.ref 45)⟩, ⟨PyData.keyHash P (S "_levenshtein_distance"), .str (S "_levenshtein_distance") 324, (.ref 52)⟩, ⟨PyData.keyHash P (S "insort_right"), .str (S "insort_right") 339, (.ref 61)⟩, ⟨PyData.keyHash P (S "bisect_right"), .str (S "bisect_right") 353, (.ref 70)⟩, ⟨PyData.keyHash P (S "bisect_left"), .str (S "bisect_left") 367, (.ref 79)⟩, ⟨PyData.keyHash P (S "b1_set"), .str (S "b1_set") 429, (.ref 87)⟩, ⟨PyData.keyHash P (S "in_table_b1"), .str (S "in_table_b1") 436, (.ref 97)⟩, ⟨PyData.keyHash P (S "b3_exceptions"), .str (S "b3_exceptions") 2387, (.ref 98)⟩, ⟨PyData.keyHash P (S "map_table_b3"), .str (S "map_table_b3") 2395, (.ref 143)⟩, ⟨PyData.keyHash P (S "tspecials"), .str (S "tspecials") 2431, (.ref 148)⟩, ⟨PyData.keyHash P (S "_name_disallowed_re"), .str (S "_name_disallowed_re") 2457, (.ref 153)⟩, ⟨PyData.keyHash P (S "_value_disallowed_re"), .str (S "_value_disallowed_re") 2491, (.ref 158)⟩, ⟨PyData.keyHash P (S "_formatparam"), .str (S "_formatparam") 2501, (.ref 166)⟩, ⟨PyData.keyHash P (S "Headers"), .str (S "Headers") 2661, (.ref 289)⟩, ⟨PyData.keyHash P (S "_law_typed"), .str (S "_law_typed") 2672, (.ref 300)⟩, ⟨PyData.keyHash P (S "_law_folded"), .str (S "_law_folded") 2678, (.ref 305)⟩, ⟨PyData.keyHash P (S "_law_choice"), .str (S "_law_choice") 2684, (.ref 310)⟩, ⟨PyData.keyHash P (S "_law_hidden"), .str (S "_law_hidden") 2693, (.ref 317)⟩, ⟨PyData.keyHash P (S "_law_row"), .str (S "_law_row") 2706, (.ref 324)⟩, ⟨PyData.keyHash P (S "_law_numbers"), .str (S "_law_numbers") 2717, (.ref 331)⟩, ⟨PyData.keyHash P (S "_law_ways"), .str (S "_law_ways") 2723, (.ref 336)⟩, ⟨PyData.keyHash P (S "_law_due"), .str (S "_law_due") 2729, (.ref 341)⟩, ⟨PyData.keyHash P (S "law"), .str (S "law") 2735, (.ref 346)⟩] 37), #[]⟩
noncomputable def o_29_p31 (P : Params) : Obj := ⟨.none, none, (.fields #[(.int 2 0), (.int 0 0), (.ref 37), (.int 9 0), (.int 0 0), (.ref 44), (.int 15 0), (.int 0 0), (.ref 51), (.int 54 0), (.int 0 0), (.ref 60), (.int 60 0), (.int 0 0), (.ref 69), (.int 80 0), (.int 0 0), (.ref 78), (.int 102 0), (.int 0 0), (.ref 96), (.int 105 0), (.int 0 0), (.ref 142), (.int 114 0), (.int 0 0), (.ref 165), (.int 123 0), (.int 0 0), (.ref 172), (.int 210 0), (.int 0 0), (.ref 299), (.int 214 0), (.int 0 0), (.ref 304), (.int 216 0), (.int 0 0), (.ref 309), (.int 218 0), (.int 0 0), (.ref 316), (.int 221 0), (.int 0 0), (.ref 323), (.int 232 0), (.int 0 0), (.ref 330), (.int 241 0), (.int 0 0), (.ref 335), (.int 250 0), (.int 0 0), (.ref 340), (.int 265 0), (.int 0 0), (.ref 345)]), #[]⟩
noncomputable def o_294 (P : Params) : Obj := ⟨(.type "tuple"), none, (.seq #[] 0), #[]⟩
noncomputable def o_295 (P : Params) : Obj := ⟨.none, none, (.fields #[]), #[]⟩
noncomputable def o_296 (P : Params) : Obj := ⟨(.type "tuple"), none, (.seq #[(.str (S "number") 2667), (.str (S "signs") 2668), (.str (S "means") 2669)] 0), #[]⟩
noncomputable def o_297 (P : Params) : Obj := ⟨(.type "tuple"), none, (.seq #[] 0), #[]⟩
noncomputable def o_298 (P : Params) : Obj := ⟨.none, none, (.func ⟨(S "_law_typed"), (S "_law_typed"), fA 24, .stmts (fB 24), fS 24, 0, [], .none, .none, .none, .none, none, .none, .none, 0⟩), #[]⟩
noncomputable def o_299 (P : Params) : Obj := ⟨(.type "code"), none, (.fields #[(.str (S "_law_typed") 2664), (.str (S "_law_typed") 2665), (.str (S "/claim/cut.py") 2666), (.int 210 0), (.int 1 0), (.int 0 0), (.int 0 0), (.int 3 0), (.ref 294), (.bool true), (.int 276 0), (.ref 295), .none, (.ref 296), (.ref 297), (.ref 298), (.int 2670 0), (.int 210 0), (.str (S "/claim/cut.py") 2671)]), #[]⟩
noncomputable def o_300 (P : Params) : Obj := ⟨(.type "function"), none, (.func ⟨(S "_law_typed"), (S "_law_typed"), fA 24, .stmts (fB 24), fS 24, 3, [], .none, .none, .none, (.str (S "law_uq0030_01") 2662), none, (.ref 299), .none, 0⟩), #[]⟩
noncomputable def o_301 (P : Params) : Obj := ⟨(.type "tuple"), none, (.seq #[] 0), #[]⟩
noncomputable def o_302 (P : Params) : Obj := ⟨.none, none, (.fields #[]), #[]⟩
noncomputable def o_303 (P : Params) : Obj := ⟨.none, none, (.func ⟨(S "_law_folded"), (S "_law_folded"), fA 25, .stmts (fB 25), fS 25, 0, [], .none, .none, .none, .none, none, .none, .none, 0⟩), #[]⟩
noncomputable def o_304 (P : Params) : Obj := ⟨(.type "code"), none, (.fields #[(.str (S "_law_folded") 2673), (.str (S "_law_folded") 2674), (.str (S "/claim/cut.py") 2675), (.int 214 0), (.int 1 0), (.int 0 0), (.int 0 0), (.int 3 0), (.ref 301), (.bool true), (.int 276 0), (.ref 302), .none, .none, .none, (.ref 303), (.int 2676 0), (.int 214 0), (.str (S "/claim/cut.py") 2677)]), #[]⟩
noncomputable def o_305 (P : Params) : Obj := ⟨(.type "function"), none, (.func ⟨(S "_law_folded"), (S "_law_folded"), fA 25, .stmts (fB 25), fS 25, 3, [], .none, .none, .none, (.str (S "law_uq0030_01") 2662), none, (.ref 304), .none, 0⟩), #[]⟩
noncomputable def o_306 (P : Params) : Obj := ⟨(.type "tuple"), none, (.seq #[] 0), #[]⟩
noncomputable def o_307 (P : Params) : Obj := ⟨.none, none, (.fields #[]), #[]⟩
noncomputable def o_308 (P : Params) : Obj := ⟨.none, none, (.func ⟨(S "_law_choice"), (S "_law_choice"), fA 26, .stmts (fB 26), fS 26, 0, [], .none, .none, .none, .none, none, .none, .none, 0⟩), #[]⟩
noncomputable def o_309 (P : Params) : Obj := ⟨(.type "code"), none, (.fields #[(.str (S "_law_choice") 2679), (.str (S "_law_choice") 2680), (.str (S "/claim/cut.py") 2681), (.int 216 0), (.int 2 0), (.int 0 0), (.int 0 0), (.int 3 0), (.ref 306), (.bool true), (.int 276 0), (.ref 307), .none, .none, .none, (.ref 308), (.int 2682 0), (.int 216 0), (.str (S "/claim/cut.py") 2683)]), #[]⟩
noncomputable def o_310 (P : Params) : Obj := ⟨(.type "function"), none, (.func ⟨(S "_law_choice"), (S "_law_choice"), fA 26, .stmts (fB 26), fS 26, 3, [], .none, .none, .none, (.str (S "law_uq0030_01") 2662), none, (.ref 309), .none, 0⟩), #[]⟩
noncomputable def o_311 (P : Params) : Obj := ⟨(.type "tuple"), none, (.seq #[] 0), #[]⟩
noncomputable def o_312 (P : Params) : Obj := ⟨.none, none, (.fields #[]), #[]⟩
noncomputable def o_313 (P : Params) : Obj := ⟨(.type "tuple"), none, (.seq #[(.str (S "low") 2688), (.str (S "word") 2689), (.str (S "gap") 2690)] 0), #[]⟩
noncomputable def o_314 (P : Params) : Obj := ⟨(.type "tuple"), none, (.seq #[] 0), #[]⟩
noncomputable def o_315 (P : Params) : Obj := ⟨.none, none, (.func ⟨(S "_law_hidden"), (S "_law_hidden"), fA 27, .stmts (fB 27), fS 27, 0, [], .none, .none, .none, .none, none, .none, .none, 0⟩), #[]⟩
noncomputable def o_316 (P : Params) : Obj := ⟨(.type "code"), none, (.fields #[(.str (S "_law_hidden") 2685), (.str (S "_law_hidden") 2686), (.str (S "/claim/cut.py") 2687), (.int 218 0), (.int 2 0), (.int 0 0), (.int 0 0), (.int 3 0), (.ref 311), (.bool true), (.int 276 0), (.ref 312), .none, (.ref 313), (.ref 314), (.ref 315), (.int 2691 0), (.int 218 0), (.str (S "/claim/cut.py") 2692)]), #[]⟩
noncomputable def o_317 (P : Params) : Obj := ⟨(.type "function"), none, (.func ⟨(S "_law_hidden"), (S "_law_hidden"), fA 27, .stmts (fB 27), fS 27, 3, [], .none, .none, .none, (.str (S "law_uq0030_01") 2662), none, (.ref 316), .none, 0⟩), #[]⟩
noncomputable def o_318 (P : Params) : Obj := ⟨(.type "tuple"), none, (.seq #[] 0), #[]⟩
noncomputable def o_319 (P : Params) : Obj := ⟨.none, none, (.fields #[]), #[]⟩
noncomputable def o_320 (P : Params) : Obj := ⟨(.type "tuple"), none, (.seq #[(.str (S "name") 2697), (.str (S "low") 2698), (.str (S "pieces") 2699), (.str (S "figures") 2700), (.str (S "word") 2701), (.str (S "row") 2702), (.str (S "piece") 2703)] 0), #[]⟩
noncomputable def o_321 (P : Params) : Obj := ⟨(.type "tuple"), none, (.seq #[] 0), #[]⟩
noncomputable def o_322 (P : Params) : Obj := ⟨.none, none, (.func ⟨(S "_law_row"), (S "_law_row"), fA 28, .stmts (fB 28), fS 28, 0, [], .none, .none, .none, .none, none, .none, .none, 0⟩), #[]⟩
noncomputable def o_323 (P : Params) : Obj := ⟨(.type "code"), none, (.fields #[(.str (S "_law_row") 2694), (.str (S "_law_row") 2695), (.str (S "/claim/cut.py") 2696), (.int 221 0), (.int 2 0), (.int 0 0), (.int 0 0), (.int 3 0), (.ref 318), (.bool true), (.int 276 0), (.ref 319), .none, (.ref 320), (.ref 321), (.ref 322), (.int 2704 0), (.int 221 0), (.str (S "/claim/cut.py") 2705)]), #[]⟩
noncomputable def o_324 (P : Params) : Obj := ⟨(.type "function"), none, (.func ⟨(S "_law_row"), (S "_law_row"), fA 28, .stmts (fB 28), fS 28, 3, [], .none, .none, .none, (.str (S "law_uq0030_01") 2662), none, (.ref 323), .none, 0⟩), #[]⟩
noncomputable def o_325 (P : Params) : Obj := ⟨(.type "tuple"), none, (.seq #[] 0), #[]⟩
noncomputable def o_326 (P : Params) : Obj := ⟨.none, none, (.fields #[]), #[]⟩
noncomputable def o_327 (P : Params) : Obj := ⟨(.type "tuple"), none, (.seq #[(.str (S "row") 2710), (.str (S "numbers") 2711), (.str (S "word") 2712), (.str (S "below") 2713), (.str (S "other") 2714)] 0), #[]⟩
noncomputable def o_328 (P : Params) : Obj := ⟨(.type "tuple"), none, (.seq #[] 0), #[]⟩
noncomputable def o_329 (P : Params) : Obj := ⟨.none, none, (.func ⟨(S "_law_numbers"), (S "_law_numbers"), fA 29, .stmts (fB 29), fS 29, 0, [], .none, .none, .none, .none, none, .none, .none, 0⟩), #[]⟩
noncomputable def o_330 (P : Params) : Obj := ⟨(.type "code"), none, (.fields #[(.str (S "_law_numbers") 2707), (.str (S "_law_numbers") 2708), (.str (S "/claim/cut.py") 2709), (.int 232 0), (.int 1 0), (.int 0 0), (.int 0 0), (.int 3 0), (.ref 325), (.bool true), (.int 276 0), (.ref 326), .none, (.ref 327), (.ref 328), (.ref 329), (.int 2715 0), (.int 232 0), (.str (S "/claim/cut.py") 2716)]), #[]⟩
noncomputable def o_331 (P : Params) : Obj := ⟨(.type "function"), none, (.func ⟨(S "_law_numbers"), (S "_law_numbers"), fA 29, .stmts (fB 29), fS 29, 3, [], .none, .none, .none, (.str (S "law_uq0030_01") 2662), none, (.ref 330), .none, 0⟩), #[]⟩
noncomputable def o_332 (P : Params) : Obj := ⟨(.type "tuple"), none, (.seq #[] 0), #[]⟩
noncomputable def o_333 (P : Params) : Obj := ⟨.none, none, (.fields #[]), #[]⟩
noncomputable def o_334 (P : Params) : Obj := ⟨.none, none, (.func ⟨(S "_law_ways"), (S "_law_ways"), fA 30, .stmts (fB 30), fS 30, 0, [], .none, .none, .none, .none, none, .none, .none, 0⟩), #[]⟩
noncomputable def o_335 (P : Params) : Obj := ⟨(.type "code"), none, (.fields #[(.str (S "_law_ways") 2718), (.str (S "_law_ways") 2719), (.str (S "/claim/cut.py") 2720), (.int 241 0), (.int 2 0), (.int 0 0), (.int 0 0), (.int 3 0), (.ref 332), (.bool true), (.int 276 0), (.ref 333), .none, .none, .none, (.ref 334), (.int 2721 0), (.int 241 0), (.str (S "/claim/cut.py") 2722)]), #[]⟩
noncomputable def o_336 (P : Params) : Obj := ⟨(.type "function"), none, (.func ⟨(S "_law_ways"), (S "_law_ways"), fA 30, .stmts (fB 30), fS 30, 3, [], .none, .none, .none, (.str (S "law_uq0030_01") 2662), none, (.ref 335), .none, 0⟩), #[]⟩
noncomputable def o_337 (P : Params) : Obj := ⟨(.type "tuple"), none, (.seq #[] 0), #[]⟩
noncomputable def o_338 (P : Params) : Obj := ⟨.none, none, (.fields #[]), #[]⟩
noncomputable def o_339 (P : Params) : Obj := ⟨.none, none, (.func ⟨(S "_law_due"), (S "_law_due"), fA 31, .stmts (fB 31), fS 31, 0, [], .none, .none, .none, .none, none, .none, .none, 0⟩), #[]⟩
noncomputable def o_340 (P : Params) : Obj := ⟨(.type "code"), none, (.fields #[(.str (S "_law_due") 2724), (.str (S "_law_due") 2725), (.str (S "/claim/cut.py") 2726), (.int 250 0), (.int 2 0), (.int 0 0), (.int 0 0), (.int 3 0), (.ref 337), (.bool true), (.int 276 0), (.ref 338), .none, .none, .none, (.ref 339), (.int 2727 0), (.int 250 0), (.str (S "/claim/cut.py") 2728)]), #[]⟩
noncomputable def o_341 (P : Params) : Obj := ⟨(.type "function"), none, (.func ⟨(S "_law_due"), (S "_law_due"), fA 31, .stmts (fB 31), fS 31, 3, [], .none, .none, .none, (.str (S "law_uq0030_01") 2662), none, (.ref 340), .none, 0⟩), #[]⟩
noncomputable def o_342 (P : Params) : Obj := ⟨(.type "tuple"), none, (.seq #[] 0), #[]⟩
noncomputable def o_343 (P : Params) : Obj := ⟨.none, none, (.fields #[]), #[]⟩
noncomputable def o_344 (P : Params) : Obj := ⟨.none, none, (.func ⟨(S "law"), (S "law"), fA 32, .stmts (fB 32), fS 32, 0, [], .none, .none, .none, .none, none, .none, .none, 0⟩), #[]⟩
noncomputable def o_345 (P : Params) : Obj := ⟨(.type "code"), none, (.fields #[(.str (S "law") 2730), (.str (S "law") 2731), (.str (S "/claim/cut.py") 2732), (.int 265 0), (.int 1 0), (.int 0 0), (.int 0 0), (.int 3 0), (.ref 342), (.bool true), (.int 276 0), (.ref 343), .none, .none, .none, (.ref 344), (.int 2733 0), (.int 265 0), (.str (S "/claim/cut.py") 2734)]), #[]⟩
noncomputable def o_346 (P : Params) : Obj := ⟨(.type "function"), none, (.func ⟨(S "law"), (S "law"), fA 32, .stmts (fB 32), fS 32, 3, [], .none, .none, .none, (.str (S "law_uq0030_01") 2662), none, (.ref 345), .none, 0⟩), #[]⟩
noncomputable def T_p31 (P : Params) : BT := (.node (o_0 P) (.node (o_1 P) (.node (o_3_p31 P) (.node (o_7 P) (.node (o_15 P) (.node (o_31 P) (.node (o_63 P) (.node (o_127 P) (.node (o_255 P) .nil .nil) .nil) (.node (o_191 P) (.node (o_319 P) .nil .nil) .nil)) (.node (o_95 P) (.node (o_159 P) (.node (o_287 P) .nil .nil) .nil) (.node (o_223 P) .nil .nil))) (.node (o_47 P) (.node (o_79 P) (.node (o_143 P) (.node (o_271 P) .nil .nil) .nil) (.node (o_207 P) (.node (o_335 P) .nil .nil) .nil)) (.node (o_111 P) (.node (o_175 P) (.node (o_303 P) .nil .nil) .nil) (.node (o_239 P) .nil .nil)))) (.node (o_23 P) (.node (o_39 P) (.node (o_71 P) (.node (o_135 P) (.node (o_263 P) .nil .nil) .nil) (.node (o_199 P) (.node (o_327 P) .nil .nil) .nil)) (.node (o_103 P) (.node (o_167 P) (.node (o_295 P) .nil .nil) .nil) (.node (o_231 P) .nil .nil))) (.node (o_55 P) (.node (o_87 P) (.node (o_151 P) (.node (o_279 P) .nil .nil) .nil) (.node (o_215 P) (.node (o_343 P) .nil .nil) .nil)) (.node (o_119 P) (.node (o_183 P) (.node (o_311 P) .nil .nil) .nil) (.node (o_247 P) .nil .nil))))) (.node (o_11 P) (.node (o_19 P) (.node (o_35 P) (.node (o_67 P) (.node (o_131 P) (.node (o_259 P) .nil .nil) .nil) (.node (o_195 P) (.node (o_323 P) .nil .nil) .nil)) (.node (o_99 P) (.node (o_163 P) (.node (o_291 P) .nil .nil) .nil) (.node (o_227 P) .nil .nil))) (.node (o_51 P) (.node (o_83 P) (.node (o_147 P) (.node (o_275 P) .nil .nil) .nil) (.node (o_211 P) (.node (o_339 P) .nil .nil) .nil)) (.node (o_115 P) (.node (o_179 P) (.node (o_307 P) .nil .nil) .nil) (.node (o_243 P) .nil .nil)))) (.node (o_27 P) (.node (o_43 P) (.node (o_75 P) (.node (o_139 P) (.node (o_267 P) .nil .nil) .nil) (.node (o_203 P) (.node (o_331 P) .nil .nil) .nil)) (.node (o_107 P) (.node (o_171 P) (.node (o_299 P) .nil .nil) .nil) (.node (o_235 P) .nil .nil))) (.node (o_59 P) (.node (o_91 P) (.node (o_155 P) (.node (o_283 P) .nil .nil) .nil) (.node (o_219 P) .nil .nil)) (.node (o_123 P) (.node (o_187 P) (.node (o_315 P) .nil .nil) .nil) (.node (o_251 P) .nil .nil)))))) (.node (o_5 P) (.node (o_9 P) (.node (o_17 P) (.node (o_33 P) (.node (o_65 P) (.node (o_129 P) (.node (o_257 P) .nil .nil) .nil) (.node (o_193 P) (.node (o_321 P) .nil .nil) .nil)) (.node (o_97 P) (.node (o_161 P) (.node (o_289 P) .nil .nil) .nil) (.node (o_225 P) .nil .nil))) (.node (o_49 P) (.node (o_81 P) (.node (o_145 P) (.node (o_273 P) .nil .nil) .nil) (.node (o_209 P) (.node (o_337 P) .nil .nil) .nil)) (.node (o_113 P) (.node (o_177 P) (.node (o_305 P) .nil .nil) .nil) (.node (o_241 P) .nil .nil)))) (.node (o_25 P) (.node (o_41 P) (.node (o_73 P) (.node (o_137 P) (.node (o_265 P) .nil .nil) .nil) (.node (o_201 P) (.node (o_329 P) .nil .nil) .nil)) (.node (o_105 P) (.node (o_169 P) (.node (o_297 P) .nil .nil) .nil) (.node (o_233 P) .nil .nil))) (.node (o_57 P) (.node (o_89 P) (.node (o_153 P) (.node (o_281 P) .nil .nil) .nil) (.node (o_217 P) (.node (o_345 P) .nil .nil) .nil)) (.node (o_121 P) (.node (o_185 P) (.node (o_313 P) .nil .nil) .nil) (.node (o_249 P) .nil .nil))))) (.node (o_13 P) (.node (o_21 P) (.node (o_37 P) (.node (o_69 P) (.node (o_133 P) (.node (o_261 P) .nil .nil) .nil) (.node (o_197 P) (.node (o_325 P) .nil .nil) .nil)) (.node (o_101 P) (.node (o_165 P) (.node (o_293 P) .nil .nil) .nil) (.node (o_229 P) .nil .nil))) (.node (o_53 P) (.node (o_85 P) (.node (o_149 P) (.node (o_277 P) .nil .nil) .nil) (.node (o_213 P) (.node (o_341 P) .nil .nil) .nil)) (.node (o_117 P) (.node (o_181 P) (.node (o_309 P) .nil .nil) .nil) (.node (o_245 P) .nil .nil)))) (.node (o_29_p31 P) (.node (o_45 P) (.node (o_77 P) (.node (o_141 P) (.node (o_269 P) .nil .nil) .nil) (.node (o_205 P) (.node (o_333 P) .nil .nil) .nil)) (.node (o_109 P) (.node (o_173 P) (.node (o_301 P) .nil .nil) .nil) (.node (o_237 P) .nil .nil))) (.node (o_61 P) (.node (o_93 P) (.node (o_157 P) (.node (o_285 P) .nil .nil) .nil) (.node (o_221 P) .nil .nil)) (.node (o_125 P) (.node (o_189 P) (.node (o_317 P) .nil .nil) .nil) (.node (o_253 P) .nil .nil))))))) (.node (o_2 P) (.node (o_4 P) (.node (o_8 P) (.node (o_16 P) (.node (o_32 P) (.node (o_64 P) (.node (o_128 P) (.node (o_256 P) .nil .nil) .nil) (.node (o_192 P) (.node (o_320 P) .nil .nil) .nil)) (.node (o_96 P) (.node (o_160 P) (.node (o_288 P) .nil .nil) .nil) (.node (o_224 P) .nil .nil))) (.node (o_48 P) (.node (o_80 P) (.node (o_144 P) (.node (o_272 P) .nil .nil) .nil) (.node (o_208 P) (.node (o_336 P) .nil .nil) .nil)) (.node (o_112 P) (.node (o_176 P) (.node (o_304 P) .nil .nil) .nil) (.node (o_240 P) .nil .nil)))) (.node (o_24 P) (.node (o_40 P) (.node (o_72 P) (.node (o_136 P) (.node (o_264 P) .nil .nil) .nil) (.node (o_200 P) (.node (o_328 P) .nil .nil) .nil)) (.node (o_104 P) (.node (o_168 P) (.node (o_296 P) .nil .nil) .nil) (.node (o_232 P) .nil .nil))) (.node (o_56 P) (.node (o_88 P) (.node (o_152 P) (.node (o_280 P) .nil .nil) .nil) (.node (o_216 P) (.node (o_344 P) .nil .nil) .nil)) (.node (o_120 P) (.node (o_184 P) (.node (o_312 P) .nil .nil) .nil) (.node (o_248 P) .nil .nil))))) (.node (o_12 P) (.node (o_20 P) (.node (o_36 P) (.node (o_68 P) (.node (o_132 P) (.node (o_260 P) .nil .nil) .nil) (.node (o_196 P) (.node (o_324 P) .nil .nil) .nil)) (.node (o_100 P) (.node (o_164 P) (.node (o_292 P) .nil .nil) .nil) (.node (o_228 P) .nil .nil))) (.node (o_52 P) (.node (o_84 P) (.node (o_148 P) (.node (o_276 P) .nil .nil) .nil) (.node (o_212 P) (.node (o_340 P) .nil .nil) .nil)) (.node (o_116 P) (.node (o_180 P) (.node (o_308 P) .nil .nil) .nil) (.node (o_244 P) .nil .nil)))) (.node (o_28 P) (.node (o_44 P) (.node (o_76 P) (.node (o_140 P) (.node (o_268 P) .nil .nil) .nil) (.node (o_204 P) (.node (o_332 P) .nil .nil) .nil)) (.node (o_108 P) (.node (o_172 P) (.node (o_300 P) .nil .nil) .nil) (.node (o_236 P) .nil .nil))) (.node (o_60 P) (.node (o_92 P) (.node (o_156 P) (.node (o_284 P) .nil .nil) .nil) (.node (o_220 P) .nil .nil)) (.node (o_124 P) (.node (o_188 P) (.node (o_316 P) .nil .nil) .nil) (.node (o_252 P) .nil .nil)))))) (.node (o_6 P) (.node (o_10 P) (.node (o_18 P) (.node (o_34 P) (.node (o_66 P) (.node (o_130 P) (.node (o_258 P) .nil .nil) .nil) (.node (o_194 P) (.node (o_322 P) .nil .nil) .nil)) (.node (o_98 P) (.node (o_162 P) (.node (o_290 P) .nil .nil) .nil) (.node (o_226 P) .nil .nil))) (.node (o_50 P) (.node (o_82 P) (.node (o_146 P) (.node (o_274 P) .nil .nil) .nil) (.node (o_210 P) (.node (o_338 P) .nil .nil) .nil)) (.node (o_114 P) (.node (o_178 P) (.node (o_306 P) .nil .nil) .nil) (.node (o_242 P) .nil .nil)))) (.node (o_26 P) (.node (o_42 P) (.node (o_74 P) (.node (o_138 P) (.node (o_266 P) .nil .nil) .nil) (.node (o_202 P) (.node (o_330 P) .nil .nil) .nil)) (.node (o_106 P) (.node (o_170 P) (.node (o_298 P) .nil .nil) .nil) (.node (o_234 P) .nil .nil))) (.node (o_58 P) (.node (o_90 P) (.node (o_154 P) (.node (o_282 P) .nil .nil) .nil) (.node (o_218 P) (.node (o_346 P) .nil .nil) .nil)) (.node (o_122 P) (.node (o_186 P) (.node (o_314 P) .nil .nil) .nil) (.node (o_250 P) .nil .nil))))) (.node (o_14 P) (.node (o_22 P) (.node (o_38 P) (.node (o_70 P) (.node (o_134 P) (.node (o_262 P) .nil .nil) .nil) (.node (o_198 P) (.node (o_326 P) .nil .nil) .nil)) (.node (o_102 P) (.node (o_166 P) (.node (o_294 P) .nil .nil) .nil) (.node (o_230 P) .nil .nil))) (.node (o_54 P) (.node (o_86 P) (.node (o_150 P) (.node (o_278 P) .nil .nil) .nil) (.node (o_214 P) (.node (o_342 P) .nil .nil) .nil)) (.node (o_118 P) (.node (o_182 P) (.node (o_310 P) .nil .nil) .nil) (.node (o_246 P) .nil .nil)))) (.node (o_30 P) (.node (o_46 P) (.node (o_78 P) (.node (o_142 P) (.node (o_270 P) .nil .nil) .nil) (.node (o_206 P) (.node (o_334 P) .nil .nil) .nil)) (.node (o_110 P) (.node (o_174 P) (.node (o_302 P) .nil .nil) .nil) (.node (o_238 P) .nil .nil))) (.node (o_62 P) (.node (o_94 P) (.node (o_158 P) (.node (o_286 P) .nil .nil) .nil) (.node (o_222 P) .nil .nil)) (.node (o_126 P) (.node (o_190 P) (.node (o_318 P) .nil .nil) .nil) (.node (o_254 P) .nil .nil))))))))
noncomputable abbrev st_p31 (w : World) (os : OsState) : SharedT := ⟨T_p31 w.params, 347, {}, #[], {}, 2736, os⟩
noncomputable def Hf (P : Params) : Heap := ⟨#[o_0 P, o_1 P, o_2 P, o_3_p31 P, o_4 P, o_5 P, o_6 P, o_7 P, o_8 P, o_9 P, o_10 P, o_11 P, o_12 P, o_13 P, o_14 P, o_15 P, o_16 P, o_17 P, o_18 P, o_19 P, o_20 P, o_21 P, o_22 P, o_23 P, o_24 P, o_25 P, o_26 P, o_27 P, o_28 P, o_29_p31 P, o_30 P, o_31 P, o_32 P, o_33 P, o_34 P, o_35 P, o_36 P, o_37 P, o_38 P, o_39 P, o_40 P, o_41 P, o_42 P, o_43 P, o_44 P, o_45 P, o_46 P, o_47 P, o_48 P, o_49 P, o_50 P, o_51 P, o_52 P, o_53 P, o_54 P, o_55 P, o_56 P, o_57 P, o_58 P, o_59 P, o_60 P, o_61 P, o_62 P, o_63 P, o_64 P, o_65 P, o_66 P, o_67 P, o_68 P, o_69 P, o_70 P, o_71 P, o_72 P, o_73 P, o_74 P, o_75 P, o_76 P, o_77 P, o_78 P, o_79 P, o_80 P, o_81 P, o_82 P, o_83 P, o_84 P, o_85 P, o_86 P, o_87 P, o_88 P, o_89 P, o_90 P, o_91 P, o_92 P, o_93 P, o_94 P, o_95 P, o_96 P, o_97 P, o_98 P, o_99 P, o_100 P, o_101 P, o_102 P, o_103 P, o_104 P, o_105 P, o_106 P, o_107 P, o_108 P, o_109 P, o_110 P, o_111 P, o_112 P, o_113 P, o_114 P, o_115 P, o_116 P, o_117 P, o_118 P, o_119 P, o_120 P, o_121 P, o_122 P, o_123 P, o_124 P, o_125 P, o_126 P, o_127 P, o_128 P, o_129 P, o_130 P, o_131 P, o_132 P, o_133 P, o_134 P, o_135 P, o_136 P, o_137 P, o_138 P, o_139 P, o_140 P, o_141 P, o_142 P, o_143 P, o_144 P, o_145 P, o_146 P, o_147 P, o_148 P, o_149 P, o_150 P, o_151 P, o_152 P, o_153 P, o_154 P, o_155 P, o_156 P, o_157 P, o_158 P, o_159 P, o_160 P, o_161 P, o_162 P, o_163 P, o_164 P, o_165 P, o_166 P, o_167 P, o_168 P, o_169 P, o_170 P, o_171 P, o_172 P, o_173 P, o_174 P, o_175 P, o_176 P, o_177 P, o_178 P, o_179 P, o_180 P, o_181 P, o_182 P, o_183 P, o_184 P, o_185 P, o_186 P, o_187 P, o_188 P, o_189 P, o_190 P, o_191 P, o_192 P, o_193 P, o_194 P, o_195 P, o_196 P, o_197 P, o_198 P, o_199 P, o_200 P, o_201 P, o_202 P, o_203 P, o_204 P, o_205 P, o_206 P, o_207 P, o_208 P, o_209 P, o_210 P, o_211 P, o_212 P, o_213 P, o_214 P, o_215 P, o_216 P, o_217 P, o_218 P, o_219 P, o_220 P, o_221 P, o_222 P, o_223 P, o_224 P, o_225 P, o_226 P, o_227 P, o_228 P, o_229 P, o_230 P, o_231 P, o_232 P, o_233 P, o_234 P, o_235 P, o_236 P, o_237 P, o_238 P, o_239 P, o_240 P, o_241 P, o_242 P, o_243 P, o_244 P, o_245 P, o_246 P, o_247 P, o_248 P, o_249 P, o_250 P, o_251 P, o_252 P, o_253 P, o_254 P, o_255 P, o_256 P, o_257 P, o_258 P, o_259 P, o_260 P, o_261 P, o_262 P, o_263 P, o_264 P, o_265 P, o_266 P, o_267 P, o_268 P, o_269 P, o_270 P, o_271 P, o_272 P, o_273 P, o_274 P, o_275 P, o_276 P, o_277 P, o_278 P, o_279 P, o_280 P, o_281 P, o_282 P, o_283 P, o_284 P, o_285 P, o_286 P, o_287 P, o_288 P, o_289 P, o_290 P, o_291 P, o_292 P, o_293 P, o_294 P, o_295 P, o_296 P, o_297 P, o_298 P, o_299 P, o_300 P, o_301 P, o_302 P, o_303 P, o_304 P, o_305 P, o_306 P, o_307 P, o_308 P, o_309 P, o_310 P, o_311 P, o_312 P, o_313 P, o_314 P, o_315 P, o_316 P, o_317 P, o_318 P, o_319 P, o_320 P, o_321 P, o_322 P, o_323 P, o_324 P, o_325 P, o_326 P, o_327 P, o_328 P, o_329 P, o_330 P, o_331 P, o_332 P, o_333 P, o_334 P, o_335 P, o_336 P, o_337 P, o_338 P, o_339 P, o_340 P, o_341 P, o_342 P, o_343 P, o_344 P, o_345 P, o_346 P], {}⟩
noncomputable def Kx (P : Params) : Frag := (nat_lit 2, o_2 P) :: (nat_lit 3, o_3_p31 P) :: (nat_lit 32, o_32 P) :: (nat_lit 34, o_34 P) :: (nat_lit 35, o_35 P) :: (nat_lit 37, o_37 P) :: (nat_lit 38, o_38 P) :: (nat_lit 39, o_39 P) :: (nat_lit 41, o_41 P) :: (nat_lit 42, o_42 P) :: (nat_lit 44, o_44 P) :: (nat_lit 45, o_45 P) :: (nat_lit 46, o_46 P) :: (nat_lit 48, o_48 P) :: (nat_lit 49, o_49 P) :: (nat_lit 51, o_51 P) :: (nat_lit 52, o_52 P) :: (nat_lit 53, o_53 P) :: (nat_lit 54, o_54 P) :: (nat_lit 55, o_55 P) :: (nat_lit 57, o_57 P) :: (nat_lit 58, o_58 P) :: (nat_lit 60, o_60 P) :: (nat_lit 61, o_61 P) :: (nat_lit 62, o_62 P) :: (nat_lit 63, o_63 P) :: (nat_lit 64, o_64 P) :: (nat_lit 66, o_66 P) :: (nat_lit 67, o_67 P) :: (nat_lit 69, o_69 P) :: (nat_lit 70, o_70 P) :: (nat_lit 71, o_71 P) :: (nat_lit 72, o_72 P) :: (nat_lit 73, o_73 P) :: (nat_lit 75, o_75 P) :: (nat_lit 76, o_76 P) :: (nat_lit 78, o_78 P) :: (nat_lit 79, o_79 P) :: (nat_lit 87, o_87 P) :: (nat_lit 91, o_91 P) :: (nat_lit 93, o_93 P) :: (nat_lit 94, o_94 P) :: (nat_lit 96, o_96 P) :: (nat_lit 97, o_97 P) :: (nat_lit 98, o_98 P) :: (nat_lit 137, o_137 P) :: (nat_lit 139, o_139 P) :: (nat_lit 140, o_140 P) :: (nat_lit 142, o_142 P) :: (nat_lit 143, o_143 P) :: (nat_lit 147, o_147 P) :: (nat_lit 148, o_148 P) :: (nat_lit 152, o_152 P) :: (nat_lit 153, o_153 P) :: (nat_lit 157, o_157 P) :: (nat_lit 158, o_158 P) :: (nat_lit 159, o_159 P) :: (nat_lit 160, o_160 P) :: (nat_lit 162, o_162 P) :: (nat_lit 163, o_163 P) :: (nat_lit 165, o_165 P) :: (nat_lit 166, o_166 P) :: (nat_lit 174, o_174 P) :: (nat_lit 175, o_175 P) :: (nat_lit 177, o_177 P) :: (nat_lit 178, o_178 P) :: (nat_lit 180, o_180 P) :: (nat_lit 181, o_181 P) :: (nat_lit 182, o_182 P) :: (nat_lit 184, o_184 P) :: (nat_lit 185, o_185 P) :: (nat_lit 187, o_187 P) :: (nat_lit 188, o_188 P) :: (nat_lit 189, o_189 P) :: (nat_lit 191, o_191 P) :: (nat_lit 192, o_192 P) :: (nat_lit 194, o_194 P) :: (nat_lit 195, o_195 P) :: (nat_lit 196, o_196 P) :: (nat_lit 198, o_198 P) :: (nat_lit 199, o_199 P) :: (nat_lit 201, o_201 P) :: (nat_lit 202, o_202 P) :: (nat_lit 203, o_203 P) :: (nat_lit 206, o_206 P) :: (nat_lit 207, o_207 P) :: (nat_lit 208, o_208 P) :: (nat_lit 210, o_210 P) :: (nat_lit 211, o_211 P) :: (nat_lit 213, o_213 P) :: (nat_lit 214, o_214 P) :: (nat_lit 215, o_215 P) :: (nat_lit 217, o_217 P) :: (nat_lit 218, o_218 P) :: (nat_lit 220, o_220 P) :: (nat_lit 221, o_221 P) :: (nat_lit 222, o_222 P) :: (nat_lit 224, o_224 P) :: (nat_lit 225, o_225 P) :: (nat_lit 227, o_227 P) :: (nat_lit 228, o_228 P) :: (nat_lit 229, o_229 P) :: (nat_lit 230, o_230 P) :: (nat_lit 232, o_232 P) :: (nat_lit 233, o_233 P) :: (nat_lit 235, o_235 P) :: (nat_lit 236, o_236 P) :: (nat_lit 237, o_237 P) :: (nat_lit 240, o_240 P) :: (nat_lit 241, o_241 P) :: (nat_lit 242, o_242 P) :: (nat_lit 245, o_245 P) :: (nat_lit 246, o_246 P) :: (nat_lit 247, o_247 P) :: (nat_lit 249, o_249 P) :: (nat_lit 250, o_250 P) :: (nat_lit 252, o_252 P) :: (nat_lit 253, o_253 P) :: (nat_lit 254, o_254 P) :: (nat_lit 256, o_256 P) :: (nat_lit 257, o_257 P) :: (nat_lit 259, o_259 P) :: (nat_lit 260, o_260 P) :: (nat_lit 261, o_261 P) :: (nat_lit 264, o_264 P) :: (nat_lit 265, o_265 P) :: (nat_lit 266, o_266 P) :: (nat_lit 268, o_268 P) :: (nat_lit 269, o_269 P) :: (nat_lit 271, o_271 P) :: (nat_lit 272, o_272 P) :: (nat_lit 273, o_273 P) :: (nat_lit 275, o_275 P) :: (nat_lit 276, o_276 P) :: (nat_lit 278, o_278 P) :: (nat_lit 279, o_279 P) :: (nat_lit 280, o_280 P) :: (nat_lit 282, o_282 P) :: (nat_lit 283, o_283 P) :: (nat_lit 285, o_285 P) :: (nat_lit 286, o_286 P) :: (nat_lit 287, o_287 P) :: (nat_lit 288, o_288 P) :: (nat_lit 289, o_289 P) :: (nat_lit 290, o_290 P) :: (nat_lit 291, o_291 P) :: (nat_lit 294, o_294 P) :: (nat_lit 296, o_296 P) :: (nat_lit 297, o_297 P) :: (nat_lit 299, o_299 P) :: (nat_lit 300, o_300 P) :: (nat_lit 301, o_301 P) :: (nat_lit 304, o_304 P) :: (nat_lit 305, o_305 P) :: (nat_lit 306, o_306 P) :: (nat_lit 309, o_309 P) :: (nat_lit 310, o_310 P) :: (nat_lit 311, o_311 P) :: (nat_lit 313, o_313 P) :: (nat_lit 314, o_314 P) :: (nat_lit 316, o_316 P) :: (nat_lit 317, o_317 P) :: (nat_lit 318, o_318 P) :: (nat_lit 320, o_320 P) :: (nat_lit 321, o_321 P) :: (nat_lit 323, o_323 P) :: (nat_lit 324, o_324 P) :: (nat_lit 325, o_325 P) :: (nat_lit 327, o_327 P) :: (nat_lit 328, o_328 P) :: (nat_lit 330, o_330 P) :: (nat_lit 331, o_331 P) :: (nat_lit 332, o_332 P) :: (nat_lit 335, o_335 P) :: (nat_lit 336, o_336 P) :: (nat_lit 337, o_337 P) :: (nat_lit 340, o_340 P) :: (nat_lit 341, o_341 P) :: (nat_lit 342, o_342 P) :: (nat_lit 345, o_345 P) :: (nat_lit 346, o_346 P) :: []
noncomputable def Ka : List Addr := [2, 3, 32, 34, 35, 37, 38, 39, 41, 42, 44, 45, 46, 48, 49, 51, 52, 53, 54, 55, 57, 58, 60, 61, 62, 63, 64, 66, 67, 69, 70, 71, 72, 73, 75, 76, 78, 79, 87, 91, 93, 94, 96, 97, 98, 137, 139, 140, 142, 143, 147, 148, 152, 153, 157, 158, 159, 160, 162, 163, 165, 166, 174, 175, 177, 178, 180, 181, 182, 184, 185, 187, 188, 189, 191, 192, 194, 195, 196, 198, 199, 201, 202, 203, 206, 207, 208, 210, 211, 213, 214, 215, 217, 218, 220, 221, 222, 224, 225, 227, 228, 229, 230, 232, 233, 235, 236, 237, 240, 241, 242, 245, 246, 247, 249, 250, 252, 253, 254, 256, 257, 259, 260, 261, 264, 265, 266, 268, 269, 271, 272, 273, 275, 276, 278, 279, 280, 282, 283, 285, 286, 287, 288, 289, 290, 291, 294, 296, 297, 299, 300, 301, 304, 305, 306, 309, 310, 311, 313, 314, 316, 317, 318, 320, 321, 323, 324, 325, 327, 328, 330, 331, 332, 335, 336, 337, 340, 341, 342, 345, 346]
end Mine
end

section
open PySem PySem.W PyProof.Rows
set_option Elab.async false
set_option maxRecDepth 100000
set_option maxHeartbeats 0
namespace Mine
theorem pre_ok (w : World) (os : OsState) : topGo treeTable pw w 28 annV 12 (st_0 w os).abs (topStub pw) = some ((st_a w os).abs, ⟨denote treeTable cE, cE, pos0, B0⟩) := by kernel_rfl
theorem block_ok (w : World) (os : OsState) : segRun treeTable pw w 28 annV 1 1 (st_a w os).abs (blockOf (behindTheImports pw) env0 cE pos0 B0) = some (.next, (st_a w os).abs, cE, pos0) := by kernel_rfl
theorem g0 (w : World) (os : OsState) : segRunT treeTable pw w 28 annV 1 278 (st_a w os) (piecesOf (stmts 0 12) env0 cE pos0 B0) = some (.next, st_p11 w os, cE, ⟨100, 0, 100, 8⟩) := by kernel_rfl
theorem g13 (w : World) (os : OsState) : segRunT treeTable pw w 28 annV 1 30 (st_p12 w os) (piecesOf (stmts 13 14) env0 cE ⟨101, 0, 101, 6⟩ B0) = some (.next, st_p13 w os, cE, ⟨102, 0, 103, 30⟩) := by kernel_rfl
theorem fin_ok (w : World) (os : OsState) : topRun treeTable pw w 28 annV 2 (st_p31 w os).abs ⟨doneF .next, cE, ⟨265, 0, 273, 76⟩, B0⟩ = some ⟨Hf w.params, #[], {}, 2736, os⟩ := by kernel_rfl
theorem size_ok (w : World) : ((absHeap (T_0 w.params) 28 {}).isNs mainGlobals && (#[] : Array GenState).size == 0, (absHeap (T_0 w.params) 28 {}).objs.size, (absHeap (T_0 w.params) 28 {}).nsMap mainGlobals "__annotations__") = (true, 28, annV) := by kernel_rfl
end Mine
end

section
open PySem PySem.W PyProof.Rows
set_option Elab.async false
set_option maxRecDepth 100000
set_option maxHeartbeats 0
namespace Mine
theorem st14_eq : stmts 14 15 = [.Assign a14.ts (.Dict a14.ks a14.vs a14.p) a14.q] := by kernel_rfl
theorem src_eq : src3 = chunk 0 ++ (cs3.flatten ++ last3) := by kernel_rfl
theorem items_eq : (evalEachOpt a14.ks env0).zip ((evalEach a14.vs env0).map fun v => do let x ← v; standAt a14.p; pure x) = src3.map (it a14.p) := by kernel_rfl
noncomputable def incr : List Int → Bool
  | x :: y :: r => decide (x < y) && incr (y :: r)
  | _ => true
theorem incr_pw : ∀ (l : List Int) (x : Int), incr (x :: l) = true → ∀ y ∈ l, x < y
  | z :: l, x, h, y, hy => by
    rw [incr, Bool.and_eq_true, decide_eq_true_eq] at h
    rcases List.mem_cons.mp hy with rfl | hy
    · exact h.1
    · exact Int.lt_trans h.1 (incr_pw l z h.2 y hy)
theorem incr_nodup : ∀ l : List Int, incr l = true → l.Nodup
  | [], _ => List.nodup_nil
  | [x], _ => by simp
  | x :: y :: l, h => by
    refine List.nodup_cons.mpr ⟨fun hm => absurd (incr_pw (y :: l) x h x hm) (Int.lt_irrefl x), incr_nodup (y :: l) ?_⟩
    rw [incr, Bool.and_eq_true] at h
    exact h.2
theorem keys_incr : incr (src3.map fun x => hashInt x.1) = true := by kernel_rfl
theorem len0 : (chunk 0).length = 17 := by kernel_rfl
theorem lens : (cs3.all fun c => c.length == 17) = true := by kernel_rfl
theorem lenl : last3.length = 4 := by kernel_rfl
theorem lenf : cs3.flatten.length = 629 := by kernel_rfl
noncomputable def L13 (P : Params) : List Obj := ((T_p13 P).list 98)
theorem L13_len (P : Params) : (L13 P).length = 98 := by unfold L13 BT.list; rw [List.length_map, List.length_range]
theorem disp (w : World) (os : OsState) : Ru w 12515 (dictDisplay ((evalEachOpt a14.ks env0).zip ((evalEach a14.vs env0).map fun v => do let x ← v; standAt a14.p; pure x))) (sh ⟨(L13 w.params).toArray, {}⟩ 437 os) a14.p (.ref 98)
    (sh (heapOf (L13 w.params) D3 (subsOf 488 cs3 ++ [ents2 2375 last3])) 2387 os) a14.p := by
  rw [items_eq, src_eq]
  have h := Ru.display (w := w) (p := a14.p) (os := os) (L0 := L13 w.params) (tk := 437) (by rw [L13_len]; decide) len0 (fun c hc => beq_iff_eq.mp (List.all_eq_true.mp lens c hc)) (by rw [lenl]; decide) (by intro e; have := lenl; rw [e] at this; cases this)
    (by rw [← src_eq]; exact incr_nodup _ keys_incr) (by rw [lenf]; decide)
  rw [L13_len, lenl, show cs3.length = 37 from rfl] at h
  exact h
end Mine
end

section
open PySem PySem.W PyProof.Rows
set_option Elab.async false
set_option maxRecDepth 100000
set_option maxHeartbeats 400000
namespace Mine
theorem exec_as (ts : List PySem.Expr) (v : PySem.Expr) (q : Pos) (env : Env) : ∃ X : Sem Flow, exec (.Assign ts v q) env = (standAt q >>= fun _ => swapsWithSole ts v q.line env >>= fun b =>
    if b = true then X else (eval v env >>= fun r => swappedStores ts v env >>= fun ss => assignStores env r ss ((assignEach ts env).map (·.2)))) := ⟨_, rfl⟩
theorem execs_one (st : Stmt) (env : Env) : execs [st] env = (exec st env >>= fun f => match f with | .next => execs [] env | f => pure f) := rfl
theorem eval_dict (ks : List (Option PySem.Expr)) (vs : List PySem.Expr) (p : Pos) (env : Env) : eval (.Dict ks vs p) env = (standAt p >>= fun _ => dictDisplay ((evalEachOpt ks env).zip ((evalEach vs env).map fun v => do let x ← v; standAt p; pure x))) := rfl
theorem assign_ok (w : World) (os : OsState) : Ru w 7 (swappedStores a14.ts (.Dict a14.ks a14.vs a14.p) env0 >>= fun ss => assignStores env0 (.ref 98) ss ((assignEach a14.ts env0).map (·.2))) (sh (heapOf (L13 w.params) D3 (subsOf 488 cs3 ++ [ents2 2375 last3])) 2387 os) a14.p .next
    (st_p14 w os).abs ⟨104, 0, 104, 13⟩ := fun _ _ _ _ => by kernel_rfl
theorem swaps_ok (w : World) (s : Shared) (q : Pos) : Ru w 0 (swapsWithSole a14.ts (.Dict a14.ks a14.vs a14.p) a14.q.line env0) s q false s q := fun _ _ _ _ => by kernel_rfl
theorem start_ok (w : World) (os : OsState) : (st_p13 w os).abs = sh ⟨(L13 w.params).toArray, {}⟩ 437 os := by kernel_rfl
theorem exec14' {w : World} {os : OsState} {s1 s2 s3 : Shared} {ts : List PySem.Expr} {ks : List (Option PySem.Expr)} {vs : List PySem.Expr} {p q q0 q1 : Pos} {v : Value}
    (h1 : ∀ s q', Ru w 0 (swapsWithSole ts (.Dict ks vs p) q.line env0) s q' false s q')
    (h2 : Ru w 12515 (dictDisplay ((evalEachOpt ks env0).zip ((evalEach vs env0).map fun v => do let x ← v; standAt p; pure x))) s1 p v s2 p)
    (h3 : Ru w 7 (swappedStores ts (.Dict ks vs p) env0 >>= fun ss => assignStores env0 v ss ((assignEach ts env0).map (·.2))) s2 p .next s3 q1) :
    Ru w 12524 (execs [.Assign ts (.Dict ks vs p) q] env0) s1 q0 .next s3 q1 := by
  rw [execs_one]
  refine Ru.cast (n := 12524 + 0) (Ru.bind (a := .next) ?_ Ru.pure) rfl
  obtain ⟨X, e⟩ := exec_as ts (.Dict ks vs p) q env0
  rw [e]
  refine Ru.cast (n := 1 + (0 + (12516 + 7))) ?_ rfl
  refine Ru.bind (n := 1) Ru.standAt ?_
  refine Ru.bind (n := 0) (h1 _ _) ?_
  rw [if_neg (by decide)]
  refine Ru.bind (n := 12516) ?_ h3
  rw [eval_dict]
  exact Ru.bind (n := 1) (n' := 12515) Ru.standAt h2
theorem ex14 (w : World) (os : OsState) : Ru w 12524 (execs [.Assign a14.ts (.Dict a14.ks a14.vs a14.p) a14.q] env0) (sh ⟨(L13 w.params).toArray, {}⟩ 437 os) ⟨102, 0, 103, 30⟩ .next (st_p14 w os).abs ⟨104, 0, 104, 13⟩ :=
  exec14' (w := w) (os := os) (swaps_ok w) (disp w os) (assign_ok w os)
theorem seg_done {w : World} {s s' : Shared} {l : List Stmt} {q q' : Pos} {n : Nat} (h : Ru w n (execs l env0) s q .next s' q') : segRun treeTable pw w 28 annV 1 (n + 1) s (piecesOf l env0 cE q B0) = some (.next, s', cE, q') :=
  seg_go (N := 1) (h doneF deadEnd id id) rfl
theorem g14 (w : World) (os : OsState) : segRun treeTable pw w 28 annV 1 12525 (st_p13 w os).abs (piecesOf (stmts 14 15) env0 cE ⟨102, 0, 103, 30⟩ B0) = some (.next, (st_p14 w os).abs, cE, ⟨104, 0, 104, 13⟩) := by
  have h := seg_done (ex14 w os)
  rw [← st14_eq, ← start_ok] at h
  exact h
end Mine
end

section
open PySem PySem.W PyProof.Rows
set_option Elab.async false
set_option maxRecDepth 100000
set_option maxHeartbeats 0
namespace Mine
theorem open_q (w : World) : ((PySem.W.Fast.tw10274390034422433532 PySem.W.Fast.tw14364793385576792824 (opening pw) w 40000 (start (opening pw)).1 (start (opening pw)).2).bind (fenceModules? pw)).map (fun s => (s.heap, s.gens, s.drawn, s.toks)) = some (absHeap (T_0 w.params) 28 {}, #[], {}, 276) := by kernel_rfl
theorem tw_ends : @importEnds = PySem.W.Fast.tw10274390034422433532 := PySem.W.Fast.te10274390034422433532
theorem tw_tabO : treeTable = PySem.W.Fast.tw14364793385576792824 := PySem.W.Fast.te14364793385576792824
theorem open_ok (w : World) : (fencedOpening treeTable pw w 40000).map (fun s => (s.heap, s.gens, s.drawn, s.toks)) = some (absHeap (T_0 w.params) 28 {}, #[], {}, 276) := by
  unfold fencedOpening
  rw [tw_ends, tw_tabO]; exact open_q w
end Mine
end

section
open PySem PySem.W PyProof.Rows
set_option Elab.async false
set_option maxRecDepth 100000
set_option maxHeartbeats 0
namespace Mine
theorem g15 (w : World) (os : OsState) : segRunT treeTable pw w 28 annV 1 296 (st_p14 w os) (piecesOf (stmts 15 21) env0 cE ⟨104, 0, 104, 13⟩ B0) = some (.next, st_p20 w os, cE, ⟨114, 0, 122, 20⟩) := by kernel_rfl
theorem g22 (w : World) (os : OsState) : segRunT treeTable pw w 28 annV 1 270 (st_p21 w os) (piecesOf (stmts 22 32) env0 cE ⟨123, 0, 208, 93⟩ B0) = some (.next, st_p31 w os, cE, ⟨265, 0, 273, 76⟩) := by kernel_rfl
theorem g21 (w : World) (os : OsState) : segRunT treeTable pw w 28 annV 1 732 (st_p20 w os) (piecesOf (stmts 21 22) env0 cE ⟨114, 0, 122, 20⟩ B0) = some (.next, st_p21 w os, cE, ⟨123, 0, 208, 93⟩) := by kernel_rfl
end Mine
end

section
open PySem PySem.W PyProof.Rows
set_option Elab.async false
set_option maxRecDepth 100000
set_option maxHeartbeats 0
namespace Mine
theorem tw_seg : @segRunT = PySem.W.Fast.tw10110043849684766642 := PySem.W.Fast.te10110043849684766642
theorem tw_tab : treeTable = PySem.W.Fast.tw14364793385576792824 := PySem.W.Fast.te14364793385576792824
noncomputable def G12 (w : World) : Prop := (fun os => PySem.W.Fast.tw10110043849684766642 PySem.W.Fast.tw14364793385576792824 pw w 28 annV 1 999 (st_p11 w os) (piecesOf (stmts 12 13) env0 cE ⟨100, 0, 100, 8⟩ B0)) = fun os => some (.next, st_p12 w os, cE, ⟨101, 0, 101, 6⟩)
theorem g12a (w : World) : G12 ((w.withFollow "special-get-raises" false).withFollow "set-order" false) := by unfold G12; kernel_rfl
theorem g12b (w : World) : G12 ((w.withFollow "special-get-raises" true).withFollow "set-order" false) := by unfold G12; kernel_rfl
theorem g12c (w : World) : G12 ((w.withFollow "special-get-raises" false).withFollow "set-order" true) := by unfold G12; kernel_rfl
theorem g12d (w : World) : G12 ((w.withFollow "special-get-raises" true).withFollow "set-order" true) := by unfold G12; kernel_rfl
theorem g12' (w : World) : G12 w :=
  byRow2 "set-order" (P := G12)
    (fun w => byRow2 "special-get-raises" (P := fun w => G12 (w.withFollow "set-order" false)) g12a g12b w)
    (fun w => byRow2 "special-get-raises" (P := fun w => G12 (w.withFollow "set-order" true)) g12c g12d w) w
theorem g12 (w : World) (os : OsState) : segRunT treeTable pw w 28 annV 1 999 (st_p11 w os) (piecesOf (stmts 12 13) env0 cE ⟨100, 0, 100, 8⟩ B0) = some (.next, st_p12 w os, cE, ⟨101, 0, 101, 6⟩) := by
  rw [tw_seg, tw_tab]; exact congrFun (g12' w) os
end Mine
end

section
open PySem PySem.W PyProof.Rows
set_option Elab.async false
set_option maxRecDepth 100000
set_option maxHeartbeats 400000
namespace Mine
theorem all_stmts : behindTheImports pw = stmts 0 12 ++ (stmts 12 13 ++ (stmts 13 14 ++ (stmts 14 15 ++ (stmts 15 21 ++ (stmts 21 22 ++ (stmts 22 32 ++ [])))))) := by kernel_rfl
noncomputable def runN : Nat := 12 + (1 + (278 + (999 + (30 + (12525 + (296 + (732 + (270 + 2))))))))
theorem run_ok (w : World) (os : OsState) : topRun treeTable pw w 28 annV runN ⟨absHeap (T_0 w.params) 28 {}, #[], {}, 276, os⟩ (topStub pw) = some ⟨Hf w.params, #[], {}, 2736, os⟩ := by
  refine go_top (pre_ok w os) (piece_block (block_ok w os) ?_)
  rw [all_stmts]
  refine piece_app (segRun_of (g0 w os)) (piece_app (segRun_of (g12 w os)) (piece_app (segRun_of (g13 w os)) (piece_app (g14 w os) (piece_app (segRun_of (g15 w os)) (piece_app (segRun_of (g21 w os)) (piece_app (segRun_of (g22 w os)) (piece_nil (fin_ok w os))))))))
end Mine
end

section
open PySem PySem.W PyProof.Rows
set_option Elab.async false
set_option maxRecDepth 100000
set_option maxHeartbeats 400000
namespace Mine
noncomputable def qv : Program := view pw [0, 1, 3, 4, 5, 6, 7, 13, 14, 15, 16, 18, 19, 20, 22, 24, 25, 26, 27, 28, 29, 30, 31, 32]
noncomputable def loose0 : List Str := [S "insort_right", S "bisect_right", S "bisect_left", S "b1_set", S "b3_exceptions", S "tspecials", S "_name_disallowed_re", S "_value_disallowed_re", S "_formatparam"]
noncomputable def hk : Hook := kHook Kx Ka (fun _ => by kernel_rfl)
noncomputable abbrev rowW : RowW := PySem.Challenge.rw_uq0030_01.row.toRowW
theorem looks1 (w : World) (os : OsState) : (staticsOk (importedModules pw.main.body) (absHeap (T_0 w.params) 28 {}) (Hf w.params) && namesBound pw (Hf w.params) && gensDone ⟨Hf w.params, #[], {}, 2736, os⟩ && laidKept (absHeap (T_0 w.params) 28 {}) (Hf w.params)) = true := by kernel_rfl
theorem looks3 (w : World) (os : OsState) : hk.obs ⟨Hf w.params, #[], {}, 2736, os⟩ = hk.val w := by kernel_rfl
end Mine
end

section
open PySem PySem.W PyProof.Rows
set_option Elab.async false
set_option maxRecDepth 100000
set_option maxHeartbeats 400000
namespace Mine
noncomputable def xt (s : Shared) : Bool := xlAt qv [] s && recOk (RowW.records rowW) s
noncomputable abbrev sF (w : World) (os : OsState) : Shared := ⟨Hf w.params, #[], {}, 2736, os⟩
/-- a table whose keys grow from a number on -/
noncomputable def growsD (D : List (PyData × PyData)) (a : Int) : Bool := match D with
  | [] => true
  | (.int k, _) :: r => decide (a < k) && growsD r k
  | _ => false
theorem grows_no {j : Int} : ∀ (D : List (PyData × PyData)) {a : Int}, growsD D a = true → j ≤ a → hasIntKey j D = false
  | [], _, _, _ => rfl
  | e :: r, a, h, l => by
    obtain ⟨k, v⟩ := e
    cases k <;> first | (exfalso; exact Bool.false_ne_true h) | skip
    rename_i k
    obtain ⟨h1, h2⟩ := Bool.and_eq_true_iff.mp (show (decide (a < k) && growsD r k) = true from h)
    have h1 := of_decide_eq_true h1
    exact Bool.or_eq_false_iff.mpr ⟨beq_eq_false_iff_ne.mpr (by omega), grows_no r h2 (by omega)⟩
theorem grows_apart : ∀ (D : List (PyData × PyData)) {a : Int}, growsD D a = true → keysApartInt D = true
  | [], _, _ => rfl
  | e :: r, a, h => by
    obtain ⟨k, v⟩ := e
    cases k <;> first | (exfalso; exact Bool.false_ne_true h) | skip
    rename_i k
    have h2 := (Bool.and_eq_true_iff.mp (show (decide (a < k) && growsD r k) = true from h)).2
    exact Bool.and_eq_true_iff.mpr ⟨by rw [grows_no r h2 (Int.le_refl k)]; rfl, grows_apart r h2⟩
theorem all_but {α : Type} [BEq α] [LawfulBEq α] {l : List α} {f : α → Bool} (a : α) (h1 : (l.all fun x => x == a || f x) = true) (h2 : f a = true) : l.all f = true := by
  refine List.all_eq_true.mpr fun x hx => ?_
  rcases Bool.or_eq_true_iff.mp (List.all_eq_true.mp h1 x hx) with e | e
  · rw [eq_of_beq e]; exact h2
  · exact e
noncomputable def b3D : List (PyData × PyData) := (tabIntOf qv (S "b3_exceptions")).getD []
theorem b3_read : tabIntOf qv (S "b3_exceptions") = some b3D := by kernel_rfl
theorem b3_others : tupIntsOf qv (S "b3_exceptions") = none ∧ tupStrsOf qv (S "b3_exceptions") = none := ⟨by kernel_rfl, by kernel_rfl⟩
theorem b3_apart : keysApartInt b3D = true := grows_apart b3D (a := -1) (by kernel_rfl)
theorem b3_stands (w : World) (os : OsState) : (sF w os).heap.tabIntOk (S "b3_exceptions") b3D = true := by
  unfold Heap.tabIntOk
  rw [b3_apart]
  kernel_rfl
theorem sn3t (w : World) (os : OsState) : tablesOk qv (sF w os).heap = true := by
  unfold tablesOk
  refine all_but (S "b3_exceptions") (by kernel_rfl) ?_
  rw [b3_read, b3_others.1, b3_others.2]
  dsimp only
  rw [b3_stands w os]
  rfl
theorem sn1 (w : World) (os : OsState) : seen ((recsOf qv).map (·.name)) (ownsOf qv) [] { sF w os with gens := #[] } = expectedOf qv := by kernel_rfl
theorem sn2 (w : World) (os : OsState) : (sF w os).heap.bltView = bltViewBooted := by kernel_rfl
theorem sn3 (w : World) (os : OsState) : ((sF w os).heap.keysOk (looseW qv loose0) ((recsOf qv).map (·.name)) ((litsOf qv).map (·.1)) ((clssOf qv (looseW qv loose0)).map (·.name)) && (sF w os).heap.accountedOkI (importedModules pw.main.body) && (sF w os).heap.isNs mainGlobals && (sF w os).heap.isNs builtinsNs && tablesOk qv (sF w os).heap && xt (sF w os) && (if true then (sF w os).gens.size == 0 else !leftWithCleanup (sF w os).gens)) = true := by
  rw [sn3t w os]
  kernel_rfl
theorem sn4 (w : World) (os : OsState) : tabsOk qv (sF w os) = true := by kernel_rfl
theorem sn5 (w : World) (os : OsState) : pinSeenD qv (drecsOf qv) (sF w os) = pinGoodD (drecsOf qv) := by kernel_rfl
theorem sn6 (w : World) (os : OsState) : plainSeenE qv (looseW qv loose0) (sF w os) = plainGoodE qv (looseW qv loose0) := by kernel_rfl
theorem sn7 (w : World) (os : OsState) : plainSeenD qv loose0 (sF w os) = plainGoodD qv loose0 := by kernel_rfl
theorem sn8 (w : World) (os : OsState) : wideSeen qv (sF w os) = wideGood qv := by kernel_rfl
theorem sn9 (w : World) (os : OsState) : clsSeenW qv loose0 (sF w os) = clsGoodW qv loose0 := by kernel_rfl
theorem seen_ok (w : World) (os : OsState) : openSeen qv loose0 (importedModules pw.main.body) xt true (sF w os) = openGood qv loose0 := by
  unfold openSeen openGood
  rw [sn1 w os, sn2 w os, sn3 w os, sn4 w os, sn5 w os, sn6 w os, sn7 w os, sn8 w os, sn9 w os]
end Mine
end

section
open PySem PySem.W PyProof.Rows
set_option Elab.async false
set_option maxRecDepth 100000
set_option maxHeartbeats 400000
namespace Mine
noncomputable def H0 (P : Params) : Heap := absHeap (T_0 P) 28 {}
theorem looks_all (w : World) : (fun os => ((staticsOk (importedModules pw.main.body) (H0 w.params) (Hf w.params) && namesBound pw (Hf w.params) && gensDone ⟨Hf w.params, #[], {}, 2736, os⟩ && laidKept (H0 w.params) (Hf w.params)),
        openSeen qv loose0 (importedModules pw.main.body) xt true ⟨Hf w.params, #[], {}, 2736, os⟩, hk.obs ⟨Hf w.params, #[], {}, 2736, os⟩)) = fun _ => (true, openGood qv loose0, hk.val w) := by
  funext os
  have a := looks1 w os
  have b := seen_ok w os
  have c := looks3 w os
  show ((staticsOk (importedModules pw.main.body) (absHeap (T_0 w.params) 28 {}) (Hf w.params) && namesBound pw (Hf w.params) && gensDone ⟨Hf w.params, #[], {}, 2736, os⟩ && laidKept (absHeap (T_0 w.params) 28 {}) (Hf w.params)), _, _) = _
  rw [a, b, c]
theorem left : LeftO pw qv loose0 xt hk.obs hk.val 40000 true :=
  LeftO.of_pieces (H₀ := H0) (gs₀ := #[]) (d₀ := {}) (k₀ := 276) (m₀ := 28) (ann := annV) (M := runN) (H₁ := Hf) (gs₁ := #[]) (d₁ := {}) (k₁ := 2736) open_ok size_ok run_ok (by decide) looks_all
end Mine
end

section
open PySem PySem.W PyProof.Rows PySem.Calls
set_option Elab.async false
set_option maxRecDepth 100000
namespace Mine
variable {w : World} {mg mb : Str → Option Value} {q : Program} {lo : List Str}
/-- what stands at every heap of the call -/
structure Gd (w : World) (q : Program) (lo : List Str) (mg mb : Str → Option Value) (h : Heap) : Prop where
  X : (Kx w.params).In h
  T : TopRead q lo mg mb h
noncomputable def Kp (h h' : Heap) : Prop := ∀ b o, h.get? b = some o → h'.get? b = some o
theorem Gd.keeps {h h' : Heap} (G : Gd w q lo mg mb h) (k : Kp h h') : Gd w q lo mg mb h' := ⟨G.X.keeps k, G.T.keeps k⟩
noncomputable def Rm (n : Nat) (A : Around) : Prop := A.depth + n < recursionLimit ∧ A.units + 8 * n < cLine
theorem Rm.le {n k : Nat} {A : Around} (h : Rm n A) (e : k ≤ n) : Rm k A := ⟨by have := h.1; omega, by have := h.2; omega⟩
theorem Rm.deeper {n : Nat} {A : Around} {env : Env} (h : Rm (n + 1) A) : Rm n (A.deeper env) := by
  obtain ⟨a, b⟩ := h
  exact ⟨by show A.depth + 1 + n < _; omega, by show A.units + 3 + 8 * n < _; omega⟩
theorem Rm.in1 {n : Nat} {A : Around} (h : Rm (n + 1) A) : Rm n A.in1 := by
  obtain ⟨a, b⟩ := h
  exact ⟨by show A.depth + n < _; omega, by show A.units + 1 + 8 * n < _; omega⟩
theorem Rm.depth {n : Nat} {A : Around} (h : Rm (n + 1) A) : A.depth < recursionLimit := by have := h.1; omega
theorem Rm.units {n : Nat} {A : Around} (h : Rm (n + 1) A) : A.units < cLine := by have := h.2; omega
/-- a def of the text is entered -/
theorem enter {A : Around} {E Q : Value → Shared → Prop} {s : Shared} {f : Addr} {args : List Value} {kw : List (Str × Value)} {binds : List (Str × Value)}
    {name qual : Str} {params : Arguments} {body : List Stmt} {scope : Scope} {dV kV doc pm cdv ct oc : Value} {an od : Option Addr} {osl : Array (Option Value)} {n : Nat}
    (G : Gd w q lo mg mb s.heap) (R : Rm (n + 1) A) (ho : (Kx w.params).lookup f = some ⟨oc, od, .func (fnOf name qual params body scope dV kV doc pm an cdv ct), osl⟩) (hcd : codeIn (Kx w.params) cdv qual = true)
    (hbind : BindsTo s (fnOf name qual params body scope dV kV doc pm an cdv ct) ⟨args, kw⟩ binds) (hloc : ∀ y ∈ binds, scope.names.lookup y.1 = some .local)
    (h : ∀ L h₁ A', Fr s.heap L h₁ (fun y => binds.reverse.lookup y) → News s.heap L h₁ [] → (Kx w.params).In s.heap → TopRead q lo mg mb s.heap → Rm n A' → A'.handled = A.handled →
      wpAny (model pw w) A' (execs body (envOf qual scope L f cdv)) (fun fl s' => Q (match fl with | .ret v => v | _ => .none) s') (fun _ _ => False) { s with heap := h₁, toks := s.toks + binds.length })
    (hco : scope.isCoroutine = false) (hgen : scope.isGenerator = false) (hk : scope.kind = .function) (hcell : ∀ x ∈ scope.names, x.2 ≠ .cell) : wpAny (model pw w) A (call (.ref f) args kw) Q E s := by
  refine wpAny_call (codeAny_call_def (fd := fnOf name qual params body scope dV kV doc pm an cdv ct) R.depth (G.X _ _ ho) rfl G.T.nolimit (codeRec_of G.X hcd) rfl hbind hcell hloc (fun h₁ hns hk₁ => ?_) hco hgen hk)
  exact wpAny_mono (h _ h₁ _ ⟨hns, hk₁, Nat.le_refl _⟩ News.nil G.X G.T R.deeper rfl) (fun _ _ y => y) fun _ _ y => y.elim
/-- a def whose names some comprehension holds: with cells -/
theorem enterC {A : Around} {E Q : Value → Shared → Prop} {s : Shared} {f : Addr} {args : List Value} {binds : List (Str × Value)}
    {name qual : Str} {params : Arguments} {body : List Stmt} {scope : Scope} {dV kV doc pm cdv ct oc : Value} {an od : Option Addr} {osl : Array (Option Value)} {n : Nat}
    (G : Gd w q lo mg mb s.heap) (R : Rm (n + 1) A) (ho : (Kx w.params).lookup f = some ⟨oc, od, .func (fnOf name qual params body scope dV kV doc pm an cdv ct), osl⟩) (hcd : codeIn (Kx w.params) cdv qual = true)
    (hbind : bindArgs (fnOf name qual params body scope dV kV doc pm an cdv ct) ⟨args, []⟩ = pure binds) (hkind : (binds.all fun y => scope.names.lookup y.1 == some .local || scope.names.lookup y.1 == some .cell) = true)
    (hnd : ((cellsFrom 0 scope.names []).map (·.1)).Nodup)
    (h : ∀ L h₁ tk A' cells, Fr s.heap L h₁ (bindL (envOfC qual scope L f cdv).kindOf binds fun _ => none) → News s.heap L h₁ cells → CellsAre (bindC (envOfC qual scope L f cdv).kindOf binds fun _ => none) (cellsFrom (L + 1) scope.names []) cells →
      (Kx w.params).In s.heap → TopRead q lo mg mb s.heap → Rm n A' → A'.handled = A.handled →
      wpAny (model pw w) A' (execs body (envOfC qual scope L f cdv)) (fun fl s' => Q (match fl with | .ret v => v | _ => .none) s') (fun _ _ => False) { s with heap := h₁, toks := tk })
    (hco : scope.isCoroutine = false) (hgen : scope.isGenerator = false) (hk : scope.kind = .function) : wpAny (model pw w) A (call (.ref f) args) Q E s := by
  refine wpAny_call (codeAny_call_cells (fd := fnOf name qual params body scope dV kV doc pm an cdv ct) R.depth (G.X _ _ ho) rfl G.T.nolimit (codeRec_of G.X hcd) rfl hbind rfl (kindsX hkind _) (fun s₁ x => ?_) hco hgen hk)
  have hL : (callEnvC (fnOf name qual params body scope dV kV doc pm an cdv ct) s.heap.objs.size f).locals = s.heap.objs.size := rfl
  obtain ⟨cells, NC, Y⟩ := Cl.news (h₀ := s.heap) (L := s.heap.objs.size) (Nat.le_refl _) fun n c hm => ⟨x.cell n c (lookup_of_mem_nodup (cellsFrom_names scope.names 0 (s.heap.objs.size + 1) [] [] rfl ▸ hnd) hm), x.above n c hm⟩
  have hk₁ := x.toInCall.keep
  have hns := x.toInCall.ns
  obtain ⟨h₁, tk, rfl, _⟩ := x.done
  exact wpAny_mono (h s.heap.objs.size h₁ tk _ cells ⟨hns, hk₁, Nat.le_refl _⟩ NC Y G.X G.T R.deeper rfl) (fun _ _ y => y) fun _ _ y => y.elim
theorem loc_of {scope : Scope} {binds : List (Str × Value)} (h : (binds.all fun x => decide (scope.names.lookup x.1 = some .local)) = true) : ∀ x ∈ binds, scope.names.lookup x.1 = some .local := locs h
end Mine
end

section
open PySem PySem.W PyProof.Rows PySem.Calls
set_option Elab.async false
set_option maxRecDepth 100000
set_option maxHeartbeats 1000000
namespace Mine
variable {w : World} {mg mb : Str → Option Value} {q : Program} {lo : List Str}
noncomputable def ws (l : List Nat) : Str := ⟨l.toArray⟩
theorem ws_len (l : List Nat) : (ws l).length = l.length := by show l.toArray.size = _; simp
section
variable {A : Around} {E : Value → Shared → Prop} {s : Shared}
theorem len_ws {Q : Value → Shared → Prop} {x : List Nat} {t : Tok} (hx : x.length ≤ 1000) (h : Q (.int x.length (s.toks + 1)) { s with toks := s.toks + 1 + 1 }) : wpAny (model pw w) A (call (.builtin "len") [.str (ws x) t]) Q E s :=
  P.len_str (by rw [ws_len]; omega) (by rw [ws_len]; exact h)
/-- one sign of a word, at a place in it -/
theorem item_ws {Q : Value → Shared → Prop} {value slice : Expr} {x : List Nat} {t u : Tok} {i : Nat} {c : Nat} (hi : x[i]? = some c) (hx : x.length ≤ 1000) (h : Q (.str (ws [c]) s.toks) { s with toks := s.toks + 1 })
    (hs : subscripted slice false (.str (ws x) t) (.int i u) = operate [.str (ws x) t, .int i u] (getItem (.str (ws x) t) (.int i u)) := by with_unfolding_all rfl)
    (ht : ∀ r, letTemporaryGo value (.str (ws x) t) r = pure () := by intro _; with_unfolding_all rfl) :
    wpAny (model pw w) A (subscriptTail value slice (.str (ws x) t) (.int i u)) Q E s := by
  have hl : i < x.length := (List.getElem?_eq_some_iff.mp hi).1
  have e : Txt.item (ws x) i = ws [c] := by
    unfold Txt.item Txt.charAt seqIndex?
    have h0 : ¬ ((i : Int) < 0) := by omega
    simp only [h0, if_false, ws_len]
    rw [if_pos (by simp; omega)]
    show Str.mk #[((some ((i : Int).toNat)).bind fun j => (ws x).cps[j]?).getD 0] = _
    rw [Int.toNat_natCast]
    show Str.mk #[(x.toArray[i]?).getD 0] = _
    rw [List.getElem?_toArray, hi]
    rfl
  refine item_str (fitsSsize_of (N := 9223372036854775808) (by omega) (by omega) (Int.le_refl _)) (by rw [ws_len]; omega) (by rw [ws_len]; omega) ?_ hs ht
  intro _
  rw [e]; exact h
end
theorem size_none (h : Heap) : h.get? h.objs.size = none := by
  cases e : h.get? h.objs.size with
  | none => rfl
  | some o => exact absurd (Heap.lt_size e) (Nat.lt_irrefl _)
noncomputable def natV : Value → Nat
  | .int i _ => i.toNat
  | _ => 0
theorem paired_from {R : Nat → Value → Prop} (pz : Nat → Bool) : ∀ (vs : List Value) (k : Nat), (∀ (j : Nat) (v : Value), vs[j]? = some v → ∃ t, v = Value.int ((k + j : Nat) : Int) t) → ∀ ys, Paired (fun v y => R (natV v) y) (vs.filter fun v => pz (natV v)) ys → Paired R ((List.range' k vs.length).filter pz) ys
  | [], k, _, ys, h => by cases h; exact .nil
  | v :: vs, k, hv, ys, h => by
    obtain ⟨t, rfl⟩ := hv 0 v rfl
    have e : natV (Value.int ((k + 0 : Nat) : Int) t) = k := by show ((k + 0 : Nat) : Int).toNat = k; omega
    have hv' : ∀ (j : Nat) (v : Value), vs[j]? = some v → ∃ t, v = Value.int ((k + 1 + j : Nat) : Int) t := fun j v hj => by
      have := hv (j + 1) v hj
      rw [show k + (j + 1) = k + 1 + j by omega] at this; exact this
    rw [List.length_cons, List.range'_succ, List.filter_cons]
    rw [List.filter_cons, e] at h
    by_cases hp : pz k = true
    · rw [if_pos hp] at h ⊢
      cases h with
      | cons ha hr =>
        rw [e] at ha
        exact .cons ha (paired_from pz vs (k + 1) hv' _ hr)
    · rw [if_neg hp] at h ⊢
      exact paired_from pz vs (k + 1) hv' _ h
section
variable {A : Around} {E : Value → Shared → Prop} {s : Shared}
theorem walks_lt {I : Addr} {fp wr : List Addr} {n : Nat} {P : Nat → Value → Prop} {St : Nat → Heap → Prop} (W : Walks pw w A I fp wr n P St) : Walks pw w A I fp wr n (fun i v => i < n ∧ P i v) St where
  sub := W.sub
  frame := W.frame
  item := fun i s Q E hi st hQ => W.item i s Q E hi st fun v h' tk hp => hQ v h' tk ⟨hi, hp⟩
  done := W.done
  self := W.self
/-- a comprehension's source that is a range from nought -/
theorem src_range (hh : A.handled = none) {env : Env} {elt : Expr} {x : Str} {ifs : List Expr} {scope : Scope} {cl : List (Str × Addr)} {Q : Value → Shared → Prop} {r : Addr} {n : Nat} {t1 u1 v1 : Tok} (pz : Nat → Bool) (R : Nat → Value → Prop)
    (hR : IsRange s.heap r 0 n 1 t1 u1 v1) (hn : n ≤ 1000)
    (tests : ∀ C i tp s₃ m₃ E', i < n → s₃.heap.Ns C m₃ → m₃ x = some (.int (i : Nat) tp) → Kp s.heap s₃.heap →
      wpAny (model pw w) A (forIn ifs true fun c r => if r = true then do let ok ← isTrue c (compEnvC scope cl C env) (eval c (compEnvC scope cl C env)); pure (ForInStep.yield ok) else pure (ForInStep.yield r)) (fun ok s₄ => ok = pz i ∧ Keeps s₃ s₄) E' s₃)
    (elts : ∀ C i tp s₃ m₃ E', i < n → pz i = true → s₃.heap.Ns C m₃ → m₃ x = some (.int (i : Nat) tp) → Kp s.heap s₃.heap → wpAny (model pw w) A (eval elt (compEnvC scope cl C env)) (fun y s₄ => R i y ∧ Keeps s₃ s₄) E' s₃)
    (fin : ∀ D h' tk ys, s.heap.get? D = none → h'.IsList D ys → h'.PlainList D ys → Paired R ((List.range n).filter pz) ys.toList → Kp s.heap h' → Q (.ref D) { s with heap := h', toks := tk }) :
    wpAny (model pw w) A (pyIter (.ref r)) (fun it s₂ => ∃ I fp wr n P St, it = .ref I ∧ Walks pw w A I fp wr n P St ∧ n ≤ sizeLine ∧ St 0 s₂.heap ∧ (∀ b ∈ fp, b < s₂.heap.objs.size) ∧
      QuietOnC pw w A env scope cl x ifs elt wr P (fun v => pz (natV v)) (fun v y => R (natV v) y) s₂ ∧
      (∀ D h' tk ys (vs : List Value), s₂.heap.get? D = none → h'.IsList D ys → h'.PlainList D ys → vs.length = n → (∀ j v, vs[j]? = some v → P j v) → Paired (fun v y => R (natV v) y) (vs.filter fun v => pz (natV v)) ys.toList →
        (∀ b o, b ∉ wr → s₂.heap.get? b = some o → h'.get? b = some o) → Q (.ref D) { s₂ with heap := h', toks := tk })) E s := by
  refine wpAny_pyIter_range hR (small_one (by omega) (by omega) (by omega) (by omega)) ?_
  have hI := size_none s.heap
  have up : ∀ {h' : Heap}, (∀ b o, b ∉ [s.heap.objs.size] → (s.heap.push { cls := .type "range_iterator", data := .fields #[rawInt 0, rawInt (Builtin.Range.rangeSize 0 n 1), rawInt 1] }).get? b = some o → h'.get? b = some o) → Kp s.heap h' := fun hk b o e =>
    hk b o (fun hm => by have : b = s.heap.objs.size := by simpa using hm
                         rw [this, hI] at e; cases e) (Heap.get?_push_of_some _ e)
  refine ⟨s.heap.objs.size, _, _, n, _, _, rfl, walks_lt (Walks.range hh s.heap.objs.size 0 1 n), ?_, ?_, ?_, ?_, ?_⟩
  · exact Nat.le_trans hn (by decide)
  · show (s.heap.push _).get? s.heap.objs.size = some _
    rw [Heap.get?_push_size _ rfl]
    rw [rangeSize_one]
    have e : (if (0 : Int) < (n : Int) then (n : Int) - 0 else 0) = (n : Int) - ((0 : Nat) : Int) := by split <;> omega
    rw [e]
    rfl
  · intro b hb
    have : b = s.heap.objs.size := by simpa using hb
    rw [this, Heap.size_push]; exact Nat.lt_succ_self _
  · constructor
    · intro C i v s3 m3 E' hC hP hns hm hk htk
      obtain ⟨hi, tp, rfl⟩ := hP
      have e : natV (Value.int (0 + (i : Nat) * 1) tp) = i := by show (0 + (i : Int) * 1).toNat = i; omega
      rw [e]
      exact tests C i tp s3 m3 E' hi hns (by rw [hm]; congr 2; omega) (up hk)
    · intro C i v s3 m3 E' hC hP hp hns hm hk htk
      obtain ⟨hi, tp, rfl⟩ := hP
      have e : natV (Value.int (0 + (i : Nat) * 1) tp) = i := by show (0 + (i : Int) * 1).toNat = i; omega
      rw [e] at hp ⊢
      exact elts C i tp s3 m3 E' hi hp hns (by rw [hm]; congr 2; omega) (up hk)
  · intro D h' tk ys vs hD hl hpl hlen hP hpair hk
    have hD' : s.heap.get? D = none := by
      cases e : s.heap.get? D with
      | none => rfl
      | some o => rw [Heap.get?_push_of_some _ e] at hD; cases hD
    refine fin D h' tk ys hD' hl hpl ?_ (up hk)
    have := paired_from pz vs 0 (fun j v hj => by obtain ⟨_, t, e⟩ := hP j v hj; exact ⟨t, by rw [e]; congr 1; omega⟩) ys.toList hpair
    rw [hlen, ← List.range_eq_range'] at this
    exact this
theorem comp_range (hh : A.handled = none) {env : Env} {elt iter : Expr} {x : Str} {px pos : Pos} {ifs : List Expr} {scope : Scope} {cl : List (Str × Addr)} {Q : Value → Shared → Prop} (pz : Nat → Bool) (R : Nat → Value → Prop)
    (hclos : closureFor scope env = pure cl) (hcell : ∀ y ∈ scope.names, y.2 ≠ .cell) (hkind : scope.kind = .function)
    (hnames : ∀ y ∈ scope.names, y.2 = .local → scope.names.lookup y.1 = some .local) (hx : scope.names.lookup x = some .local)
    (h : wpAny (model pw w) A (eval iter env) (fun xv s₁ => ∃ r n t1 u1 v1, xv = .ref r ∧ IsRange s₁.heap r 0 (n : Nat) 1 t1 u1 v1 ∧ n ≤ 1000 ∧
      (∀ C i tp s₃ m₃ E', i < n → s₃.heap.Ns C m₃ → m₃ x = some (.int (i : Nat) tp) → Kp s₁.heap s₃.heap →
        wpAny (model pw w) A (forIn ifs true fun c r => if r = true then do let ok ← isTrue c (compEnvC scope cl C env) (eval c (compEnvC scope cl C env)); pure (ForInStep.yield ok) else pure (ForInStep.yield r)) (fun ok s₄ => ok = pz i ∧ Keeps s₃ s₄) E' s₃) ∧
      (∀ C i tp s₃ m₃ E', i < n → pz i = true → s₃.heap.Ns C m₃ → m₃ x = some (.int (i : Nat) tp) → Kp s₁.heap s₃.heap → wpAny (model pw w) A (eval elt (compEnvC scope cl C env)) (fun y s₄ => R i y ∧ Keeps s₃ s₄) E' s₃) ∧
      (∀ D h' tk ys, s₁.heap.get? D = none → h'.IsList D ys → h'.PlainList D ys → Paired R ((List.range n).filter pz) ys.toList → Kp s₁.heap h' → Q (.ref D) { s₁ with heap := h', toks := tk })) E s)
    (hs : ∀ x, foldedSetIterable iter env x = pure x := by intro _; rfl) :
    wpAny (model pw w) A (eval (.ListComp elt [⟨.Name x px, iter, ifs, 0⟩] scope pos) env) Q E s := by
  refine wpAny_ListComp_free (cl := cl) (fun v => pz (natV v)) (fun v y => R (natV v) y) hclos hcell hkind hnames hx (wpAny_mono h (fun xv s₁ h₁ => ?_) fun _ _ e => e) hs
  obtain ⟨r, n, t1, u1, v1, rfl, hR, hn, ht, he, hf⟩ := h₁
  exact src_range hh pz R hR hn ht he hf
end
end Mine
end

section
open PySem PySem.W PyProof.Rows PySem.Calls
set_option Elab.async false
set_option maxRecDepth 100000
set_option maxHeartbeats 1000000
namespace Mine
variable {w : World} {mg mb : Str → Option Value} {q : Program} {lo : List Str}
/-- the places that the figures tell -/
noncomputable def bitOn (k : Int) (i : Nat) : Bool := (k.fdiv (2 ^ i)).fmod 2 == 1
noncomputable def chF (x : List Nat) (k : Int) : List Nat := ((List.range x.length).filter (bitOn k)).map fun i => x.getD i 0
theorem strs_of {x : List Nat} : ∀ (l : List Nat) (ys : List Value), Paired (fun i y => ∃ t, y = Value.str (ws [x.getD i 0]) t) l ys → StrsAre ys ((l.map fun i => [x.getD i 0]).map ws)
  | [], ys, h => by cases h; exact .nil
  | i :: l, ys, h => by
    cases h with
    | cons ha hr => obtain ⟨t, rfl⟩ := ha; exact .cons _ t (strs_of l _ hr)
theorem ws_append (a b : List Nat) : ws a ++ ws b = ws (a ++ b) := by
  show Str.mk (a.toArray ++ b.toArray) = Str.mk _
  rw [List.append_toArray]
theorem empty_ws : (Str.ofString "") = ws [] := by rfl
theorem ws_nil_append (a : Str) : Str.ofString "" ++ a = a := by
  show Str.mk (#[] ++ a.cps) = a
  simp
theorem join_ws : ∀ l : List (List Nat), Txt.join (Str.ofString "") (l.map ws) = ws l.flatten := by
  intro l
  show PySem.Builtin.Str.glued _ _ = _
  rw [StrLaws.glued_eq_join]
  induction l with
  | nil => rfl
  | cons b l ih =>
    cases l with
    | nil => show ws b = ws (b ++ []); rw [List.append_nil]
    | cons c l =>
      show ws b ++ Str.ofString "" ++ Str.join _ ((c :: l).map ws) = _
      rw [ih]
      show Str.mk ((b.toArray ++ #[]) ++ (List.flatten (c :: l)).toArray) = Str.mk _
      simp
theorem Keeps.trans' {s s' s'' : Shared} (a : Keeps s s') (b : Keeps s' s'') : Keeps s s'' := by
  obtain ⟨h, t, rfl, k⟩ := a
  obtain ⟨h', t', rfl, k'⟩ := b
  exact ⟨h', t', rfl, fun b o e => k' b o (k b o e)⟩
section
variable {A : Around} {E : Value → Shared → Prop} {s : Shared}
theorem mOn1 {T id : String} {name : Str} {ov : Value} {pos : Pos} {a : Sem Value} {Q : Value → Shared → Prop} (hp : PlainAttrs T) (hs : Slot T name id) (ht : typeOf (.builtin id) = pure (.type "method_descriptor")) (hT : s.TypeIs ov T)
    (hd : ∀ a, ov = .ref a → ∃ ob, s.heap.get? a = some ob ∧ ob.dict = none) (h : wpAny (model pw w) A a (fun v s₁ => wpAny (model pw w) A (call (.builtin id) [ov, v]) Q E s₁) E s) : MethodOnS pw w A E name ov pos [(false, a)] Q s :=
  ⟨T, id, hp, hs, ht, hT, hd, Calls.callWith_builtin rfl (Calls.evalArgs_plain (Calls.spliced_cons (wpAny_mono h (fun _ _ h₁ => Calls.spliced_nil h₁) fun _ _ e => e)))⟩
theorem joinC {env : Env} {x : Str} {k : Nat} {p apos pos : Pos} {e : Expr} {Q : Value → Shared → Prop} (hs : starEach [e] env = [(false, eval e env)]) (hline : (apos.endLine == pos.line) = true)
    (h : wpAny (model pw w) A (eval e env) (fun v s₁ => ∃ D items ys, v = .ref D ∧ s₁.heap.IsList D items ∧ StrsAre items.toList ys ∧ (ys.map (·.length)).sum + ys.length * x.length ≤ 16777216 ∧ ∀ t' k, Q (.str (Txt.join x ys) t') { s₁ with toks := k }) E { s with toks := s.toks + 1 }) :
    wpAny (model pw w) A (eval (.Call (.Attribute (.Constant (.str x) k p) "join" apos) [e] [] pos) env) Q E s := by
  refine Call_method1 (by rfl) hs hline (wpAny_Constant_str ?_)
  refine mOn1 F.plainAttrs_str F.slot_str_join F.type_str_join (typeIs_str _ _ _) (fun _ e => nomatch e) (wpAny_mono h (fun v s₁ h₁ => ?_) fun _ _ e => e)
  obtain ⟨D, items, ys, rfl, hl, hy, hok, hq⟩ := h₁
  exact join_list hl hy hok hq
end
theorem ldV {A : Around} {E : Value → Shared → Prop} {s : Shared} {Q : Value → Shared → Prop} {scope : Scope} {cl : List (Str × Addr)} {C : Addr} {env : Env} {m : Str → Option Value} {x : Str} {pos : Pos} {v : Value} (F : s.heap.Ns C m) (hv : m x = some v) (h : Q v s)
    (hl : (compEnvC scope cl C env).kindOf x = some .local := by with_unfolding_all rfl) (hk : scope.kind = .function := by with_unfolding_all rfl) (hd : (x == ("__debug__" : Str)) = false := by decide) : wpAny (model pw w) A (eval (.Name x pos) (compEnvC scope cl C env)) Q E s :=
  ldVarK (m := m) F hv h hk hl hd
theorem ldF {A : Around} {E : Value → Shared → Prop} {s : Shared} {Q : Value → Shared → Prop} {scope : Scope} {cl : List (Str × Addr)} {C : Addr} {env : Env} {x : Str} {pos : Pos} {c : Addr} {v : Value} (hc : cl.lookup x = some c) (hv : s.heap.IsCell c (some v)) (h : Q v s)
    (hl : (compEnvC scope cl C env).kindOf x = some .cell := by with_unfolding_all rfl) (hk : scope.kind = .function := by with_unfolding_all rfl) (hd : (x == ("__debug__" : Str)) = false := by decide) :
    wpAny (model pw w) A (eval (.Name x pos) (compEnvC scope cl C env)) Q E s :=
  ldCellK hc hv h hk hl hd
theorem fill : (fun (_ : OpenLaw) (_ : Params → Frag) => True) PySem.Challenge.rw_uq0030_01 Kx := by k_fill; trivial
theorem flat_one (x : List Nat) : ∀ l : List Nat, (l.map fun i => [x.getD i 0]).flatten = l.map fun i => x.getD i 0
  | [] => rfl
  | i :: l => by show [x.getD i 0] ++ _ = _; rw [flat_one x l]; rfl
theorem sum_one (x : List Nat) : ∀ l : List Nat, ((l.map fun i => [x.getD i 0]).map ws |>.map (·.length)).sum = l.length
  | [] => rfl
  | i :: l => by
    show (ws [x.getD i 0]).length + _ = l.length + 1
    have := sum_one x l
    rw [ws_len]
    show 1 + List.sum _ = _
    omega
theorem choice {A : Around} {E : Value → Shared → Prop} {s : Shared} {n : Nat} {x : List Nat} {k : Int} {t u : Tok} (G : Gd w q lo mg mb s.heap) (R : Rm (n + 2) A)
    (hh : A.handled = none) (hx : x.length ≤ 4) (hk0 : 0 ≤ k) (hk1 : k < 1000) :
    wpAny (model pw w) A (call (.ref 310) [.str (ws x) t, .int k u]) (fun v s' => (∃ t, v = .str (ws (chF x k)) t) ∧ Keeps s s') E s := by
  refine enterC (f := 310) (name := S "_law_choice") (qual := S "_law_choice") (params := fA 26) (body := fB 26) (scope := fS 26) (binds := [(S "word", .str (ws x) t), (S "figures", .int k u)]) G R rfl rfl rfl rfl (by decide +kernel) ?_ rfl rfl rfl
  intro L h₁ tk A' cells F N Y X T R' hh'
  rw [hh] at hh'
  k_cells Y
  rename_i o1 o2 d1 d2
  (with_unfolding_all show wpAny _ _ (execs (_ :: _) _) _ _ _)
  refine wpAny_execs_cons (wpAny_Return_some (joinC (by rfl) (by rfl) ?_))
  refine comp_range (Q := ?Q) hh' (cl := [(S "word", L + 1), (S "figures", L + 2)]) (bitOn k) (fun i y => ∃ t, y = Value.str (ws [x.getD i 0]) t) ?_ ?_ ?_ ?_ ?_ ?_ ?_
  · rfl
  · decide
  · rfl
  · decide
  · decide
  · refine Call_Name1 (nameX_B F X T (by k_is) (by boot_fast) (by decide) ?_)
    refine PySem.callWith_type1 ?_
    refine Call_Name1 (nameX_B F X T (by k_is) (by boot_fast) (by decide) ?_)
    refine PySem.callWith_builtin1 (nameX_C N rfl (.tail _ (.head _)) d2 ?_)
    refine len_ws (by omega) ?_
    refine call_range_1 ?_
    refine ⟨_, x.length, _, _, _, rfl, IsRange.new _ _ _ _ _ _ _, by omega, ?_, ?_, ?_⟩
    · intro C i tp s3 m3 E' hi hns hm k3
      have hfig : s3.heap.IsCell (L + 2) (some (.int k u)) := ⟨o1, k3 _ _ (Heap.get?_push_of_some _ (N _ (.head _)).1), d1⟩
      refine wpAny_tests_one ?_
      refine wpAny_isTrue_Compare1 (wpAny_BinOp (wpAny_BinOp (ldF rfl hfig (wpAny_BinOp (wpAny_Constant_int (ldV hns hm ?_))))))
      refine pow_int_small (by omega) (by omega) (by decide) ?_
      have hp : (2 : Int) ^ ((i : Int).toNat) ≠ 0 := by
        have : (0 : Int) < 2 ^ ((i : Int).toNat) := Int.pow_pos (by omega)
        omega
      have hs : ((2 : Int) ^ ((i : Int).toNat)).natAbs < 1073741824 := by
        have : i = 0 ∨ i = 1 ∨ i = 2 ∨ i = 3 := by omega
        rcases this with rfl | rfl | rfl | rfl <;> decide
      refine floordiv_int hp ?_ (Or.inl (PyProof.noPylong_small hs))
      refine wpAny_Constant_int ?_
      refine mod_int' (by decide) ?_
      refine wpAny_Constant_int ?_
      refine P.eq_int ?_
      refine wpAny_truthy_bool ?_
      exact ⟨by rw [Int.toNat_natCast]; rfl, _, _, rfl, fun b o e => e⟩
    · intro C i tp s3 m3 E' hi hp hns hm k3
      have hword : s3.heap.IsCell (L + 1) (some (.str (ws x) t)) := ⟨o2, k3 _ _ (Heap.get?_push_of_some _ (N _ (.tail _ (.head _))).1), d2⟩
      refine Subscript_ (ldF rfl hword (ldV hns hm ?_))
      refine item_ws (c := x.getD i 0) ?_ (by omega) ?_
      · rw [List.getD_eq_getElem?_getD, List.getElem?_eq_getElem hi]; rfl
      · exact ⟨⟨_, rfl⟩, _, _, rfl, fun b o e => e⟩
    · intro D h' tk' ys hD hl hpl hp k3
      refine ⟨D, ys, _, rfl, hl, strs_of _ _ hp, ?_, ?_⟩
      · have h1 := sum_one x ((List.range x.length).filter (bitOn k))
        have h2 := List.length_filter_le (bitOn k) (List.range x.length)
        rw [List.length_range] at h2
        rw [h1, List.length_map, List.length_map]
        show _ + _ * 0 ≤ _
        omega
      · intro t' k'
        refine ⟨⟨t', ?_⟩, _, _, rfl, fun b o e => k3 _ _ (Heap.get?_push_of_some _ (F.keep _ _ e))⟩
        rw [join_ws, flat_one]; rfl
  · intro _; rfl
end Mine
end

section
open PySem PySem.W PyProof.Rows PySem.Calls
set_option Elab.async false
set_option maxRecDepth 100000
set_option maxHeartbeats 1000000
namespace Mine
variable {w : World} {mg mb : Str → Option Value} {q : Program} {lo : List Str}
theorem fill2 : (fun (_ : OpenLaw) (_ : Params → Frag) => True) PySem.Challenge.rw_uq0030_01 Kx := by k_fill; trivial
theorem sub_cost {A : Around} {E : Value → Shared → Prop} {s : Shared} {n : Nat} {x y : Nat} {t u : Tok} (G : Gd w q lo mg mb s.heap) (R : Rm (n + 2) A)
    (hx : (x = 102 ∨ x = 105 ∨ x = 108) ∧ (y = 102 ∨ y = 105 ∨ y = 108)) :
    wpAny (model pw w) A (call (.ref 45) [.str (ws [x]) t, .str (ws [y]) u]) (fun v s' => (∃ t, v = .int (if x = y then 0 else 2) t) ∧ Keeps s s') E s := by
  refine enter (f := 45) (name := S "_substitution_cost") (qual := S "_substitution_cost") (params := fA 6) (body := fB 6) (scope := fS 6) (binds := [(S "ch_a", .str (ws [x]) t), (S "ch_b", .str (ws [y]) u)]) G R rfl rfl (BindsTo.of_eq rfl) (locs rfl) ?_ rfl rfl rfl (by decide)
  intro L h₁ A' F N X T R' hh
  (with_unfolding_all show wpAny _ _ (execs (_ :: _) _) _ _ _)
  refine wpAny_execs_cons (wpAny_If (wpAny_isTrue_Compare1 (ld F rfl (ld F rfl ?_))))
  refine P.eq_str (wpAny_truthy_bool ?_)
  by_cases e : x = y
  · rw [if_pos (by rw [e]; exact beq_self_eq_true _)]
    refine wpAny_execs_cons (wpAny_Return_some (wpAny_Constant_int ?_))
    exact ⟨⟨_, by rw [if_pos e]⟩, _, _, rfl, F.keep⟩
  · rw [if_neg (by
      intro h
      have := eq_of_beq h
      simp [ws] at this
      exact e this)]
    refine wpAny_execs_nil ?_
    refine wpAny_execs_cons (wpAny_If (wpAny_isTrue_Compare1 (Call_method0 (by rfl) (by rfl) (ld F rfl (SB.lower ?_ ?_)))))
    · obtain ⟨rfl | rfl | rfl, _⟩ := hx <;> decide +kernel
    refine Call_method0 (by rfl) (by rfl) (ld F rfl (SB.lower ?_ ?_))
    · obtain ⟨_, rfl | rfl | rfl⟩ := hx <;> decide +kernel
    refine P.eq_str (wpAny_truthy_bool ?_)
    rw [if_neg (by obtain ⟨rfl | rfl | rfl, rfl | rfl | rfl⟩ := hx <;> first | exact absurd rfl e | decide +kernel)]
    refine wpAny_execs_nil ?_
    refine wpAny_execs_cons (wpAny_Return_some (name_K F X T (by k_is) ?_))
    exact ⟨⟨_, by rw [if_neg e]⟩, _, _, rfl, F.keep⟩
end Mine
end

section
open PySem PySem.W PyProof.Rows PySem.Calls
set_option Elab.async false
set_option maxRecDepth 100000
set_option maxHeartbeats 1000000
namespace Mine
variable {w : World} {A : Around} {E : Value → Shared → Prop} {s : Shared} {env : Env}
theorem While_ {test : Expr} {body : List Stmt} {pos : Pos} {Q : Flow → Shared → Prop} (I : Nat → Shared → Prop)
    (turn : ∀ n s E', I n s → wpAny (model pw w) A (isTrue test env (eval test env)) (fun b s₂ => if b = true then wpAny (model pw w) A (execs body env) (fun f s₃ => match f with
      | .next | .cont => ∃ m, m < n ∧ I m s₃
      | .brk => Q .next s₃
      | .ret v => Q (.ret v) s₃) E' s₂ else Q .next s₂) E' s) (n : Nat) (h : I n s) : wpAny (model pw w) A (exec (.While test body [] pos) env) Q E s := by
  refine wpAny_While (codeAny_whileLoop I (fun n s hI => wpAny_mono (turn n s _ hI) (fun b s₂ h₂ => ?_) fun _ _ e => e) n h)
  cases b with
  | true => exact wpAny_mono h₂ (fun f s₃ h₃ => by cases f <;> exact h₃) fun _ _ e => e
  | false => exact wpAny_execs_nil h₂
theorem For_ {x : Str} {px pos : Pos} {iter : Expr} {body : List Stmt} {Q : Flow → Shared → Prop}
    (h : wpAny (model pw w) A (eval iter env) (fun xv s₁ => wpAny (model pw w) A (pyIter xv) (fun it s₂ => ∃ I fp wr n P St, ∃ Inv : Nat → Shared → Prop, it = .ref I ∧ Walks pw w A I fp wr n P St ∧ St 0 s₂.heap ∧ Inv 0 s₂ ∧
      (∀ k v s₀ h' tk E', k < n → P k v → Inv k s₀ → (∀ b o, b ∉ wr → s₀.heap.get? b = some o → h'.get? b = some o) → St (k + 1) h' →
        wpAny (model pw w) A (assign (.Name x px) env v) (fun _ s₃ => wpAny (model pw w) A (execs body env) (fun f s₄ => match f with
          | .next | .cont => Inv (k + 1) s₄ ∧ St (k + 1) s₄.heap
          | .brk => Q .next s₄
          | .ret v => Q (.ret v) s₄) E' s₃) E' { s₀ with heap := h', toks := tk }) ∧
      (∀ s₀ h' tk, Inv n s₀ → (∀ b o, b ∉ wr → s₀.heap.get? b = some o → h'.get? b = some o) → Q .next { s₀ with heap := h', toks := tk })) E s₁) E s)
    (hs : ∀ x, foldedSetIterable iter env x = pure x := by intro _; rfl) : wpAny (model pw w) A (exec (.For (.Name x px) iter body [] pos) env) Q E s := by
  refine wpAny_For (wpAny_mono h (fun xv s₁ h₁ => wpAny_mono h₁ (fun it s₂ h₂ => ?_) fun _ _ e => e) fun _ _ e => e) hs
  obtain ⟨I, fp, wr, n, P, St, Inv, rfl, W, h0, i0, turn, fin⟩ := h₂
  refine codeAny_forLoop_any (fun m s => ∃ k, k + m = n ∧ Inv k s ∧ St k s.heap) (fun m s hI => ?_) n ⟨0, by omega, i0, h0⟩
  obtain ⟨k, e, hi, hst⟩ := hI
  cases m with
  | zero =>
    have : k = n := by omega
    subst this
    refine W.done _ _ _ hst fun h' tk hf => ?_
    exact wpAny_execs_nil (fin s h' tk hi hf)
  | succ m =>
    refine W.item k _ _ _ (by omega) hst fun v h' tk hp hst' hf => ?_
    refine wpAny_pure ?_
    refine wpAny_mono (turn k v s h' tk _ (by omega) hp hi hf hst') (fun _ s₃ h₃ => wpAny_mono h₃ (fun f s₄ h₄ => ?_) fun _ _ e => e) fun _ _ e => e
    cases f with
    | next => exact ⟨m, by omega, k + 1, by omega, h₄⟩
    | cont => exact ⟨m, by omega, k + 1, by omega, h₄⟩
    | brk => exact h₄
    | ret v => exact h₄
theorem slice_w {value : Expr} {lower upper : Option Expr} {p pos : Pos} {Q : Value → Shared → Prop}
    (h : wpAny (model pw w) A (eval value env) (fun o s₁ => wpAny (model pw w) A (evalPart lower env) (fun vl s₂ => wpAny (model pw w) A (evalPart upper env) (fun vu s₃ =>
      ∃ x t l u, o = .str x t ∧ vl = partValue l ∧ vu = partValue u ∧ x.length ≤ sizeLine ∧ ∀ h' t' k, Kp s₃.heap h' → Q (.str (Txt.slice x (l.map (·.1)) (u.map (·.1))) t') { s₃ with heap := h', toks := k }) E s₂) E s₁) E s)
    (ht : ∀ o r, letTemporaryGo value o r = pure () := by intro _ _; rfl) : wpAny (model pw w) A (eval (.Subscript value (.Slice lower upper none p) pos) env) Q E s := by
  refine wpAny_Subscript_str_slice (wpAny_mono h (fun o s₁ h₁ => wpAny_mono h₁ (fun vl s₂ h₂ => wpAny_mono h₂ (fun vu s₃ h₃ => ?_) fun _ _ e => e) fun _ _ e => e) fun _ _ e => e) ht
  obtain ⟨x, t, l, u, rfl, rfl, rfl, hx, hq⟩ := h₃
  exact ⟨x, t, l, u, rfl, rfl, rfl, post_val_or_str ⟨Nat.le_trans (Txt.slice_le x _ _) hx, fun t' k => hq _ t' k fun b o e => Heap.get?_push_of_some _ e⟩⟩
theorem slice_from (l : List Nat) (k : Nat) : Txt.slice (ws l) (some (k : Int)) none = ws (l.drop k) := by
  by_cases h : k ≤ l.length
  · rw [slice_from_eq (b := (ws l).length) (by omega) (by rw [ws_len]; omega) rfl]
    show Str.mk _ = Str.mk _
    congr 2
    rw [ws_len]
    show (l.toArray.toList.drop _).take _ = _
    rw [List.take_of_length_le]
    · simp
    · simp
  · rw [slice_beyond (by rw [ws_len]; omega), List.drop_eq_nil_of_le (by omega)]; rfl
theorem slice_all (l : List Nat) : Txt.slice (ws l) none none = ws l := by
  have e : Txt.slice (ws l) none none = Txt.slice (ws l) (some ((0 : Nat) : Int)) none := by
    unfold Txt.slice; rw [StrLaws.sliceIdx_none_lo]; rfl
  rw [e, slice_from]; rfl
theorem slice_neg (l : List Nat) (k : Nat) (h0 : 0 < k) (h1 : k ≤ l.length) : Txt.slice (ws l) none (some (-(k : Int))) = ws (l.take (l.length - k)) := by
  have e := StrLaws.sliceText_to_neg (x := ws l) (j := -(k : Int)) (by omega) (by rw [ws_len]; omega)
  refine Eq.trans e ?_
  rw [ws_len]
  have : (-(k : Int) + (l.length : Int) - 0).toNat = l.length - k := by omega
  rw [this]; rfl
theorem slice_to (l : List Nat) (k : Nat) : Txt.slice (ws l) none (some (k : Int)) = ws (l.take k) := by
  by_cases h : k ≤ l.length
  · have e := StrLaws.sliceText_to (x := ws l) (j := (k : Int)) ⟨by omega, by show (k : Int) ≤ (l.toArray.toList.length : Int); simp; omega⟩
    refine Eq.trans e ?_
    have : ((k : Int) - 0).toNat = k := by omega
    rw [this]; rfl
  · rw [slice_to_beyond (by rw [ws_len]; omega)]
    have e := StrLaws.sliceText_to (x := ws l) (j := ((ws l).length : Int)) ⟨by omega, by rw [ws_len]; simp [ws]⟩
    refine Eq.trans e ?_
    rw [ws_len]
    have : ((l.length : Int) - 0).toNat = l.length := by omega
    rw [this]
    show ws (l.take l.length) = _
    rw [List.take_of_length_le (Nat.le_refl _), List.take_of_length_le (by omega)]
theorem sliceF {value e : Expr} {p pos : Pos} {Q : Value → Shared → Prop}
    (h : wpAny (model pw w) A (eval value env) (fun o s₁ => wpAny (model pw w) A (eval e env) (fun iv s₂ => ∃ (x : List Nat) (t : Tok) (i : Nat) (u : Tok), o = .str (ws x) t ∧ iv = .int (i : Nat) u ∧ x.length ≤ 1000 ∧
      ∀ h' t' k, Kp s₂.heap h' → Q (.str (ws (x.drop i)) t') { s₂ with heap := h', toks := k }) E s₁) E s)
    (ht : ∀ o r, letTemporaryGo value o r = pure () := by intro _ _; rfl) : wpAny (model pw w) A (eval (.Subscript value (.Slice (some e) none none p) pos) env) Q E s := by
  refine slice_w (wpAny_mono h (fun o s₁ h₁ => evalPart_some_step (wpAny_mono h₁ (fun iv s₂ h₂ => evalPart_none_step ?_) fun _ _ e => e)) fun _ _ e => e) ht
  obtain ⟨x, t, i, u, rfl, rfl, hx, hq⟩ := h₂
  refine ⟨ws x, t, some ((i : Nat), u), none, rfl, rfl, rfl, (by rw [ws_len]; exact Nat.le_trans hx (by decide)), fun h' t' k kp => ?_⟩
  have := hq h' t' k kp
  rw [← slice_from] at this
  exact this
/-- a slice that leaves off the last k signs; k = 0 stands for None -/
theorem sliceL {value e : Expr} {p pos : Pos} {Q : Value → Shared → Prop}
    (h : wpAny (model pw w) A (eval value env) (fun o s₁ => wpAny (model pw w) A (eval e env) (fun iv s₂ => ∃ (x : List Nat) (t : Tok) (k : Nat), o = .str (ws x) t ∧ (iv = .none ∧ k = 0 ∨ ∃ u, iv = .int (-(k : Int)) u ∧ 0 < k ∧ k ≤ x.length) ∧ x.length ≤ 1000 ∧
      ∀ h' t' tk, Kp s₂.heap h' → Q (.str (ws (x.take (x.length - k))) t') { s₂ with heap := h', toks := tk }) E s₁) E s)
    (ht : ∀ o r, letTemporaryGo value o r = pure () := by intro _ _; rfl) : wpAny (model pw w) A (eval (.Subscript value (.Slice none (some e) none p) pos) env) Q E s := by
  refine slice_w (wpAny_mono h (fun o s₁ h₁ => evalPart_none_step (evalPart_some_step (wpAny_mono h₁ (fun iv s₂ h₂ => ?_) fun _ _ e => e))) fun _ _ e => e) ht
  obtain ⟨x, t, k, rfl, hv, hx, hq⟩ := h₂
  have hs : (ws x).length ≤ sizeLine := by rw [ws_len]; exact Nat.le_trans hx (by decide)
  obtain ⟨rfl, rfl⟩ | ⟨u, rfl, h0, h1⟩ := hv
  · refine ⟨ws x, t, none, none, rfl, rfl, rfl, hs, fun h' t' k kp => ?_⟩
    have := hq h' t' k kp
    rw [Nat.sub_zero, List.take_of_length_le (Nat.le_refl _), ← slice_all] at this
    exact this
  · refine ⟨ws x, t, none, some (-(k : Int), u), rfl, rfl, rfl, hs, fun h' t' tk kp => ?_⟩
    have := hq h' t' tk kp
    rw [← slice_neg x k h0 h1] at this
    exact this
/-- a slice up to a place -/
theorem sliceT {value e : Expr} {p pos : Pos} {Q : Value → Shared → Prop}
    (h : wpAny (model pw w) A (eval value env) (fun o s₁ => wpAny (model pw w) A (eval e env) (fun iv s₂ => ∃ (x : List Nat) (t : Tok) (i : Nat) (u : Tok), o = .str (ws x) t ∧ iv = .int (i : Nat) u ∧ x.length ≤ 1000 ∧
      ∀ h' t' k, Kp s₂.heap h' → Q (.str (ws (x.take i)) t') { s₂ with heap := h', toks := k }) E s₁) E s)
    (ht : ∀ o r, letTemporaryGo value o r = pure () := by intro _ _; rfl) : wpAny (model pw w) A (eval (.Subscript value (.Slice none (some e) none p) pos) env) Q E s := by
  refine slice_w (wpAny_mono h (fun o s₁ h₁ => evalPart_none_step (evalPart_some_step (wpAny_mono h₁ (fun iv s₂ h₂ => ?_) fun _ _ e => e))) fun _ _ e => e) ht
  obtain ⟨x, t, i, u, rfl, rfl, hx, hq⟩ := h₂
  refine ⟨ws x, t, none, some ((i : Nat), u), rfl, rfl, rfl, (by rw [ws_len]; exact Nat.le_trans hx (by decide)), fun h' t' k kp => ?_⟩
  have := hq h' t' k kp
  rw [← slice_to] at this
  exact this
end Mine
end

section
open PySem PySem.W PyProof.Rows PySem.Calls
set_option Elab.async false
set_option maxRecDepth 100000
set_option maxHeartbeats 1000000
namespace Mine
variable {w : World} {mg mb : Str → Option Value} {q : Program} {lo : List Str}
section
variable {A : Around} {E : Value → Shared → Prop} {s : Shared}
theorem truthy_ws {Q : Bool → Shared → Prop} {l : List Nat} {t : Tok} (hx : l.length ≤ 1000) (h : Q (!l.isEmpty) { s with toks := s.toks + 1 + 1 }) : wpAny (model pw w) A (truthy (.str (ws l) t)) Q E s := by
  refine P.truthy_str (by rw [ws_len]; omega) ?_
  rw [ws_len]
  cases l with
  | nil => exact h
  | cons a l =>
    have e : (((a :: l).length : Int) != 0) = true := by
      rw [bne_iff_ne]; simp only [List.length_cons]; omega
    rw [e]; exact h
theorem item_neg {Q : Value → Shared → Prop} {value slice : Expr} {x : List Nat} {t u : Tok} {k : Nat} {c : Nat} (hk : k < x.length) (hi : x[x.length - 1 - k]? = some c) (hx : x.length ≤ 1000) (h : Q (.str (ws [c]) s.toks) { s with toks := s.toks + 1 })
    (hs : ∀ i : Int, subscripted slice false (.str (ws x) t) (.int i u) = operate [.str (ws x) t, .int i u] (getItem (.str (ws x) t) (.int i u)) := by intro _; with_unfolding_all rfl)
    (ht : ∀ r, letTemporaryGo value (.str (ws x) t) r = pure () := by intro _; with_unfolding_all rfl) :
    wpAny (model pw w) A (subscriptTail value slice (.str (ws x) t) (.int (-(k : Int) - 1) u)) Q E s := by
  have e : Txt.item (ws x) (-(k : Int) - 1) = ws [c] := by
    unfold Txt.item Txt.charAt seqIndex?
    have h0 : ((-(k : Int) - 1) < 0) := by omega
    simp only [h0, if_true, ws_len]
    rw [if_pos (by simp; omega)]
    show Str.mk #[((some ((-(k : Int) - 1 + (x.length : Int)).toNat)).bind fun j => (ws x).cps[j]?).getD 0] = _
    have e2 : (-(k : Int) - 1 + (x.length : Int)).toNat = x.length - 1 - k := by omega
    rw [e2]
    show Str.mk #[(x.toArray[x.length - 1 - k]?).getD 0] = _
    rw [List.getElem?_toArray, hi]
    rfl
  refine item_str (fitsSsize_of (N := 9223372036854775808) (by omega) (by omega) (Int.le_refl _)) (by rw [ws_len]; omega) (by rw [ws_len]; omega) ?_ (hs _) ht
  intro _
  rw [e]; exact h
theorem eq_ws {Q : Value → Shared → Prop} {x y : List Nat} {t u : Tok} (h : Q (.bool (x == y)) s) : wpAny (model pw w) A (compareOp .Eq (.str (ws x) t) (.str (ws y) u)) Q E s :=
  P.eq_str h
end
theorem Frk {h0 h h' : Heap} {L : Addr} {m : Str → Option Value} (F : Fr h0 L h m) (k : Kp h h') : Fr h0 L h' m := ⟨F.ns.keeps k, fun b o e => k b o (F.keep b o e), F.above⟩
/-- two words without the start that they share -/
noncomputable def stripP : List Nat → List Nat → List Nat × List Nat
  | x :: a, y :: b => if x = y then stripP a b else (x :: a, y :: b)
  | a, b => (a, b)
theorem stripP_nil (b : List Nat) : stripP [] b = ([], b) := by cases b <;> rfl
theorem stripP_nil' (a : List Nat) : stripP a [] = (a, []) := by cases a <;> rfl
theorem drop_cons {l : List Nat} {i x : Nat} {r : List Nat} (e : l.drop i = x :: r) : l[i]? = some x ∧ l.drop (i + 1) = r ∧ i < l.length := by
  have h : i < l.length := by
    have := congrArg List.length e
    rw [List.length_drop, List.length_cons] at this; omega
  rw [List.drop_eq_getElem_cons h] at e
  obtain ⟨rfl, rfl⟩ := List.cons.inj e
  exact ⟨List.getElem?_eq_getElem h, rfl, h⟩
theorem or_none {A : Around} {E : Value → Shared → Prop} {s : Shared} {env : Env} {e : Expr} {k : Nat} {p pos : Pos} {Q : Value → Shared → Prop}
    (h : wpAny (model pw w) A (eval e env) (fun v s₁ => ∃ (j : Nat) (u : Tok), v = .int (-(j : Int)) u ∧ ∀ r, (r = .none ∧ j = 0 ∨ r = .int (-(j : Int)) u ∧ 0 < j) → Q r s₁) E s) :
    wpAny (model pw w) A (eval (.BoolOp .Or [e, .Constant .none k p] pos) env) Q E s := by
  refine wpAny_Or2 (wpAny_mono h (fun v s₁ h₁ => ?_) fun _ _ e => e)
  obtain ⟨j, u, rfl, hq⟩ := h₁
  refine P.truthy_int ?_
  by_cases e0 : j = 0
  · subst e0
    exact wpAny_Constant_none (hq _ (.inl ⟨rfl, rfl⟩))
  · rw [if_pos (by rw [bne_iff_ne]; omega)]
    exact hq _ (.inr ⟨rfl, by omega⟩)
theorem rdrop (l : List Nat) (j : Nat) : (l.reverse.drop j).reverse = l.take (l.length - j) := by
  rw [List.reverse_drop, List.reverse_reverse, List.length_reverse]
theorem take_of_rdrop {l : List Nat} {j : Nat} : (l.take (l.length - j)).isEmpty = (l.reverse.drop j).isEmpty := by
  rw [← rdrop, List.isEmpty_reverse]
theorem rdrop_cons {l : List Nat} {j x : Nat} {r : List Nat} (e : l.reverse.drop j = x :: r) : l[l.length - 1 - j]? = some x ∧ l.reverse.drop (j + 1) = r ∧ j < l.length := by
  obtain ⟨h1, h2, h3⟩ := drop_cons e
  rw [List.length_reverse] at h3
  exact ⟨by rw [List.getElem?_reverse h3] at h1; exact h1, h2, h3⟩
end Mine
end

section
open PySem PySem.W PyProof.Rows PySem.Calls
set_option Elab.async false
set_option maxRecDepth 100000
set_option maxHeartbeats 1000000
namespace Mine
variable {w : World} {A : Around} {E : Value → Shared → Prop} {s : Shared} {env : Env}
theorem Frx {h0 h h' : Heap} {L I : Addr} {m : Str → Option Value} (F : Fr h0 L h m) (nL : L ≠ I) (n0 : h0.get? I = none) (k : ∀ b o, b ≠ I → h.get? b = some o → h'.get? b = some o) : Fr h0 L h' m :=
  ⟨F.ns.at fun o e => k L o nL e, fun b o e => k b o (fun hb => by subst hb; rw [n0] at e; cases e) (F.keep b o e), F.above⟩
theorem Fr.neL {h0 h : Heap} {L I : Addr} {m : Str → Option Value} (F : Fr h0 L h m) (e : h.get? I = none) : L ≠ I := by
  rintro rfl
  obtain ⟨o, es, ep, ho, _⟩ := F.ns
  rw [e] at ho; cases ho
theorem item_L {value slice : Expr} {l : Addr} {items : Array Value} {k : Nat} {u : Tok} {x : Value} {Q : Value → Shared → Prop} (hl : s.heap.IsList l items) (hx : items[k]? = some x) (hk : k < 1000) (h : Q x s)
    (hs : subscripted slice false (.ref l) (.int k u) = operate [.ref l, .int k u] (getItem (.ref l) (.int k u)) := by with_unfolding_all rfl) (hg : ∀ r, letTemporaryGo value (.ref l) r = pure () := by intro _; with_unfolding_all rfl) :
    wpAny (model pw w) A (subscriptTail value slice (.ref l) (.int k u)) Q E s :=
  item_list hl (by omega) (by omega) (by rw [Int.toNat_natCast]; exact hx) h hs hg
/-- a loop over a range from nought -/
theorem For_range (hh : A.handled = none) {x : Str} {px pos : Pos} {iter : Expr} {body : List Stmt} {Q : Flow → Shared → Prop}
    (h : wpAny (model pw w) A (eval iter env) (fun xv s₁ => ∃ (r : Addr) (n : Nat) (t1 u1 v1 : Tok), xv = .ref r ∧ IsRange s₁.heap r 0 (n : Nat) 1 t1 u1 v1 ∧ n ≤ 1000 ∧ ∃ Inv : Nat → Shared → Prop,
      (∀ h', Kp s₁.heap h' → Inv 0 { s₁ with heap := h' }) ∧
      (∀ k tv s₀ h' tk I io E', k < n → Inv k s₀ → (∀ b o, b ≠ I → s₀.heap.get? b = some o → h'.get? b = some o) → h'.get? I = some io → s₁.heap.get? I = none →
        wpAny (model pw w) A (storeName env x (.int (k : Nat) tv)) (fun _ s₃ => wpAny (model pw w) A (execs body env) (fun f s₄ => match f with
          | .next | .cont => Inv (k + 1) s₄ ∧ s₄.heap.get? I = some io
          | .brk => Q .next s₄
          | .ret v => Q (.ret v) s₄) E' s₃) E' { s₀ with heap := h', toks := tk }) ∧
      (∀ s₀ h' tk I, Inv n s₀ → (∀ b o, b ≠ I → s₀.heap.get? b = some o → h'.get? b = some o) → s₁.heap.get? I = none → Q .next { s₀ with heap := h', toks := tk })) E s)
    (hs : ∀ x, foldedSetIterable iter env x = pure x := by intro _; rfl) : wpAny (model pw w) A (exec (.For (.Name x px) iter body [] pos) env) Q E s := by
  refine For_ (wpAny_mono h (fun xv s₁ h₁ => ?_) fun _ _ e => e) hs
  obtain ⟨r, n, t1, u1, v1, rfl, hR, hn, Inv, h0, turn, fin⟩ := h₁
  refine wpAny_pyIter_range hR (small_one (by omega) (by omega) (by omega) (by omega)) ?_
  refine ⟨s₁.heap.objs.size, _, _, n, _, _, Inv, rfl, Walks.range hh s₁.heap.objs.size 0 1 n, ?_, h0 _ (fun b o e => Heap.get?_push_of_some _ e), ?_, ?_⟩
  · show (s₁.heap.push _).get? s₁.heap.objs.size = some _
    rw [Heap.get?_push_size _ rfl, rangeSize_one]
    have e : (if (0 : Int) < (n : Int) then (n : Int) - 0 else 0) = (n : Int) - ((0 : Nat) : Int) := by split <;> omega
    rw [e]
    rfl
  · intro k v s₀ h' tk E' hk hP hi hf hst
    obtain ⟨tv, rfl⟩ := hP
    refine assign_Name ?_
    have e : (0 + (k : Nat) * 1 : Int) = (k : Nat) := by omega
    rw [e]
    refine wpAny_mono (turn k tv s₀ h' tk s₁.heap.objs.size _ E' hk hi (fun b o hb => hf b o (by simpa using hb)) hst (size_none _)) (fun _ s₃ h₃ => wpAny_mono h₃ (fun f s₄ h₄ => ?_) fun _ _ e => e) fun _ _ e => e
    cases f <;> exact h₄
  · intro s₀ h' tk hi hf
    exact fin s₀ h' tk s₁.heap.objs.size hi (fun b o hb => hf b o (by simpa using hb)) (size_none _)
theorem stS {name : Str} {scope : Scope} {L a : Addr} {cd : Value} {h₀ : Heap} {m : Str → Option Value} {x : Str} {v : Value} {Q : Unit → Shared → Prop} (F : Fr h₀ L s.heap m)
    (h : ∀ h', Fr h₀ L h' (fun y => if y = x then some v else m y) → Heap.SameBut L s.heap h' → Q () { s with heap := h', toks := s.toks + 1 })
    (hk : scope.kind = .function := by rfl) (hl : (envOf name scope L a cd).kindOf x = some .local := by rfl) :
    wpAny (model pw w) A (storeName (envOf name scope L a cd) x v) Q E s :=
  stK F (fun h' f sb _ => h h' f sb) hk hl
theorem min_w {a b : Int} {t u : Tok} {Q : Value → Shared → Prop} (hh : A.handled = none) (h : ∀ h' tk, Kp s.heap h' → Q (.int (if b < a then b else a) (if b < a then u else t)) { s with heap := h', toks := tk }) :
    wpAny (model pw w) A (call (.builtin "min") [.int a t, .int b u]) Q E s := by
  refine min_two_ints hh fun h' tk kp => ?_
  have := h h' tk kp
  by_cases e : b < a
  · rw [if_pos e]; rw [if_pos e, if_pos e] at this; exact this
  · rw [if_neg e]; rw [if_neg e, if_neg e] at this; exact this
noncomputable def RowIs (items : Array Value) (row : List Int) : Prop := items.size = row.length ∧ ∀ k, k < row.length → ∃ t, items[k]? = some (.int (row.getD k 0) t)
theorem RowIs.set {items : Array Value} {row : List Int} {k : Nat} {x : Int} {t : Tok} (h : RowIs items row) : RowIs (items.setIfInBounds k (.int x t)) (row.set k x) := by
  refine ⟨by rw [Array.size_setIfInBounds, List.length_set]; exact h.1, fun j hj => ?_⟩
  rw [List.length_set] at hj
  obtain ⟨t', e⟩ := h.2 j hj
  by_cases ejk : k = j
  · subst ejk
    refine ⟨t, ?_⟩
    rw [Array.getElem?_setIfInBounds_self_of_lt (by rw [h.1]; exact hj)]
    simp [List.getD_eq_getElem?_getD, hj]
  · refine ⟨t', ?_⟩
    rw [Array.getElem?_setIfInBounds_ne ejk, e]
    simp [List.getD_eq_getElem?_getD, List.getElem?_set_ne ejk]
noncomputable def row0 (n : Nat) : List Int := (List.range n).map fun (k : Nat) => 2 + (k : Int) * 2
theorem rs2 : ∀ n < 5, Builtin.Range.rangeSize 2 (2 * ((n : Nat) + 1 : Int)) 2 = n := by decide
theorem sm2 : ∀ n < 5, Builtin.Range.small 2 (2 * ((n : Nat) + 1 : Int)) 2 = true := by decide
theorem list_rng {n : Nat} {r : Addr} {t u v : Tok} {Q : Value → Shared → Prop} (hn : n < 5) (hh : A.handled = none) (hr : IsRange s.heap r 2 (2 * ((n : Nat) + 1 : Int)) 2 t u v)
    (h : ∀ D h' tk items, s.heap.get? D = none → Kp s.heap h' → h'.IsList D items → RowIs items (row0 n) → Q (.ref D) { s with heap := h', toks := tk }) : wpAny (model pw w) A (call (.type "list") [.ref r]) Q E s := by
  refine call_list_range hh hr (sm2 n hn) (rs2 n hn) (Nat.le_trans (Nat.le_of_lt hn) (by decide)) fun h' tk acc c' kp hD hi => ?_
  refine h _ h' tk acc (size_none _) kp ⟨_, hD, rfl, _, rfl⟩ ⟨by rw [hi.1]; simp [row0], fun k hk => ?_⟩
  have hk' : k < acc.size := by rw [hi.1]; simpa [row0] using hk
  obtain ⟨t', e⟩ := hi.2 k acc[k] (Array.getElem?_eq_getElem hk')
  refine ⟨t', ?_⟩
  rw [Array.getElem?_eq_getElem hk', e]
  have hkn : k < n := by rw [hi.1] at hk'; exact hk'
  simp [row0, List.getD_eq_getElem?_getD, hkn]
theorem lst_of {h h' : Heap} {D : Addr} {items : Array Value} (k : ∀ o, h.get? D = some o → h'.get? D = some o) (x : h.IsList D items) : h'.IsList D items := by
  obtain ⟨o, ho, r⟩ := x; exact ⟨o, k o ho, r⟩
end Mine
end

section
open PySem PySem.W PyProof.Rows PySem.Calls
set_option Elab.async false
set_option maxRecDepth 100000
set_option maxHeartbeats 2000000
namespace Mine
variable {w : World} {mg mb : Str → Option Value} {q : Program} {lo : List Str}
noncomputable def retV : Flow → Value
  | .ret v => v
  | _ => .none
/-- one cell of the table -/
noncomputable def innerStep (bc : Nat) (a : List Nat) (st : List Int × Int × Int × Int) (k : Nat) : List Int × Int × Int × Int :=
  let sub := st.2.1 + (if bc = a.getD k 0 then 0 else 2)
  let d := st.1.getD k 0
  let ins := (if d < st.2.2.1 then d else st.2.2.1) + 2
  let r := if sub < ins then sub else ins
  (st.1.set k r, d, r, if r < st.2.2.2 then r else st.2.2.2)
noncomputable def innerF (bc : Nat) (a : List Nat) (row : List Int) (d : Int) (n : Nat) : List Int × Int × Int × Int := (List.range n).foldl (innerStep bc a) (row, d, d, 9223372036854775807)
noncomputable def outerF (a : List Nat) (c : Int) : List Nat → Nat → List Int → Int → Int
  | [], _, _, res => res
  | bc :: rest, bi, row, _ => if c < (innerF bc a row ((bi : Int) * 2) a.length).2.2.2 then c + 1 else outerF a c rest (bi + 1) (innerF bc a row ((bi : Int) * 2) a.length).1 (innerF bc a row ((bi : Int) * 2) a.length).2.2.1
theorem if_split {c : Prop} [Decidable c] {p q : Prop} (h1 : c → p) (h2 : ¬c → q) : if c then p else q := by
  by_cases h : c
  · rw [if_pos h]; exact h1 h
  · rw [if_neg h]; exact h2 h
theorem outerF_cons (a : List Nat) (c : Int) (bc : Nat) (rest : List Nat) (bi : Nat) (row : List Int) (res : Int) : outerF a c (bc :: rest) bi row res =
    if c < (innerF bc a row ((bi : Int) * 2) a.length).2.2.2 then c + 1 else outerF a c rest (bi + 1) (innerF bc a row ((bi : Int) * 2) a.length).1 (innerF bc a row ((bi : Int) * 2) a.length).2.2.1 := rfl
theorem innerF_succ (bc : Nat) (a : List Nat) (row : List Int) (d : Int) (n : Nat) : innerF bc a row d (n + 1) = innerStep bc a (innerF bc a row d n) n := by
  unfold innerF; rw [List.range_succ, List.foldl_append]; rfl
theorem innerF_len (bc : Nat) (a : List Nat) (row : List Int) (d : Int) : ∀ n, (innerF bc a row d n).1.length = row.length
  | 0 => rfl
  | n + 1 => by rw [innerF_succ]; unfold innerStep; rw [List.length_set]; exact innerF_len bc a row d n
noncomputable def levG (a b : List Nat) (c : Int) : Int := if ((b.length : Int) - a.length) * 2 > c then c + 1 else outerF a c b 0 (row0 a.length) 0
noncomputable def levT (a b : List Nat) (c : Int) : Int := if a.isEmpty || b.isEmpty then 2 * ((a.length : Int) + b.length) else if b.length < a.length then levG b a c else levG a b c
noncomputable def levF (a b : List Nat) (c : Int) : Int := if a = b then 0 else levT (stripP (stripP a b).1.reverse (stripP a b).2.reverse).1.reverse (stripP (stripP a b).1.reverse (stripP a b).2.reverse).2.reverse c
/-- a goal's end under a short name: what follows does not bear it along -/
theorem gQ {α : Type} {M : Model} {A : Around} {c : Sem α} {E : Value → Shared → Prop} {s : Shared} {Q : α → Shared → Prop} (h : ∀ Q' : α → Shared → Prop, (∀ a s, Q a s → Q' a s) → wpAny M A c Q' E s) : wpAny M A c Q E s := h Q fun _ _ x => x
theorem fill3 : (fun (_ : OpenLaw) (_ : Params → Frag) => True) PySem.Challenge.rw_uq0030_01 Kx := by k_fill; trivial
inductive LevO (s₀ : Shared) (L D : Addr) (a b : List Nat) (c : Int) (t u v : Tok) (k : Nat) (s' : Shared) : Prop where
  | mk (h : _) (tk : _) (m : _) (items : _) (row : _) (res : _) (tr : _) (_ : s' = { s₀ with heap := h, toks := tk }) (_ : Fr s₀.heap L h m) (_ : h.IsList D items) (_ : RowIs items row) (_ : row.length = a.length) (_ : outerF a c (b.drop k) k row res = outerF a c b 0 (row0 a.length) 0) (_ : m (S "a") = some (.str (ws a) t)) (_ : m (S "b") = some (.str (ws b) u)) (_ : m (S "max_cost") = some (.int c v)) (_ : m (S "row") = some (.ref D)) (_ : m (S "result") = some (.int res tr)) : LevO s₀ L D a b c t u v k s'
inductive LevI (s₀ : Shared) (L D I : Addr) (io : Obj) (a b : List Nat) (c : Int) (t u v : Tok) (k : Nat) (row : List Int) (j : Nat) (s' : Shared) : Prop where
  | mk (h : _) (tk : _) (m : _) (items : _) (t1 : _) (t2 : _) (t3 : _) (t4 : _) (rj : _) (dj : _) (xj : _) (mj : _) (_ : s' = { s₀ with heap := h, toks := tk }) (_ : innerF (b.getD k 0) a row ((k : Int) * 2) j = (rj, dj, xj, mj)) (_ : Fr s₀.heap L h m) (_ : h.IsList D items) (_ : RowIs items rj) (_ : h.get? I = some io) (_ : m (S "a") = some (.str (ws a) t)) (_ : m (S "b") = some (.str (ws b) u)) (_ : m (S "max_cost") = some (.int c v)) (_ : m (S "row") = some (.ref D)) (_ : m (S "bchar") = some (.str (ws [b.getD k 0]) t1)) (_ : m (S "distance") = some (.int dj t2)) (_ : m (S "result") = some (.int xj t3)) (_ : m (S "minimum") = some (.int mj t4)) : LevI s₀ L D I io a b c t u v k row j s'
theorem lev_main {A : Around} {E : Value → Shared → Prop} {s₀ s : Shared} {L : Addr} {m : Str → Option Value} {n : Nat} {a b : List Nat} {c : Int} {t u v : Tok} (F : Fr s₀.heap L s.heap m) (hs : ∃ h tk, s = { s₀ with heap := h, toks := tk }) (X : (Kx w.params).In s₀.heap) (T : TopRead q lo mg mb s₀.heap) (R : Rm (n + 2) A)
    (hA : A.handled = none) (ha : a.length ≤ 4) (hb : b.length ≤ 4) (hla : ∀ x ∈ a, x = 102 ∨ x = 105 ∨ x = 108) (hlb : ∀ x ∈ b, x = 102 ∨ x = 105 ∨ x = 108)
    (va : m (S "a") = some (.str (ws a) t)) (vb : m (S "b") = some (.str (ws b) u)) (vc : m (S "max_cost") = some (.int c v)) :
    wpAny (model pw w) A (execs ((fB 7).drop 12) (envOf (S "_levenshtein_distance") (fS 7) L 52 (.ref 51))) (fun fl s' => (∃ t, retV fl = .int (levG a b c) t) ∧ Keeps s₀ s') E s := by
  obtain ⟨h, tk, rfl⟩ := hs
  (with_unfolding_all show wpAny _ _ (execs (_ :: _) _) _ _ _)
  refine wpAny_execs_cons (wpAny_If (wpAny_isTrue_Compare1 (wpAny_BinOp (wpAny_BinOp (Call_Name1 (name_B F X T (by k_is) (by boot_fast) (by decide) (PySem.callWith_builtin1 (ld F vb (len_ws (by omega) (Call_Name1 (name_B F X T (by k_is) (by boot_fast) (by decide) (PySem.callWith_builtin1 (ld F va (len_ws (by omega) (P.sub_int (name_K F X T (by k_is) (P.mul_int (hm := IntMulOk.of_right (by decide)) (ld F vc (P.gt_int (wpAny_truthy_bool ?_))))))))))))))))))))
  by_cases e1 : ((b.length : Int) - a.length) * 2 > c
  · rw [if_pos (decide_eq_true e1)]
    refine wpAny_execs_cons (wpAny_Return_some (wpAny_BinOp (ld F vc (wpAny_Constant_int (P.add_int ?_)))))
    exact ⟨⟨_, by unfold levG; rw [if_pos e1]; rfl⟩, _, _, rfl, F.keep⟩
  rw [if_neg (by simpa using e1)]
  refine wpAny_execs_nil ?_
  refine wpAny_execs_cons (wpAny_Assign_Name (Call_Name1 (name_B F X T (by k_is) (by boot_fast) (by decide) (PySem.callWith_type1 (Call_ (name_B F X T (by k_is) (by boot_fast) (by decide) (PyProof.Rows.callWith_type1 (wpAny_items_cons (name_K F X T (by k_is) (wpAny_items_cons (wpAny_BinOp (name_K F X T (by k_is) (wpAny_BinOp (Call_Name1 (name_B F X T (by k_is) (by boot_fast) (by decide) (PySem.callWith_builtin1 (ld F va (len_ws (by omega) (wpAny_Constant_int (P.add_int (P.mul_int (hm := IntMulOk.of_left (by decide)) (wpAny_items_cons (name_K F X T (by k_is) (wpAny_items_nil (call_range_3 (by decide) (list_rng (n := a.length) (by omega) hA (IsRange.new _ _ _ _ _ _ _) (fun D h₁ tk₁ items hD kp hl hrow => ?_)))))))))))))))))))))))))))
  have hDL : L ≠ D := Fr.neL (F.push _) hD
  have hD0 : s₀.heap.get? D = none := Fr.noneBack (F.push _) hD
  refine stS (Frk F fun b o e => kp b o (Heap.get?_push_of_some _ e)) (fun h₂ F s2 => ?_)
  replace hl := lst_of (fun o e => (s2.2 D hDL.symm).trans e) hl
  refine wpAny_execs_cons (wpAny_Assign_Name (wpAny_Constant_int (stS F (fun h₃ F s3 => ?_))))
  replace hl := lst_of (fun o e => (s3.2 D hDL.symm).trans e) hl
  refine wpAny_execs_cons (For_range hA (Call_Name1 (name_B F X T (by k_is) (by boot_fast) (by decide) (PySem.callWith_type1 (Call_Name1 (name_B F X T (by k_is) (by boot_fast) (by decide) (PySem.callWith_builtin1 (ld F vb (len_ws (by omega) (call_range_1 (⟨_, b.length, _, _, _, rfl, IsRange.new _ _ _ _ _ _ _, by omega, (LevO s₀ L D a b c t u v), ?_, ?_, ?_⟩)))))))))))
  · intro h' kp
    exact ⟨h', _, _, items, row0 a.length, 0, _, rfl, Frk F fun b o e => kp b o (Heap.get?_push_of_some _ e), lst_of (fun o e => kp _ o (Heap.get?_push_of_some _ e)) hl, hrow, by simp [row0], rfl, va, vb, vc, rfl, rfl⟩
  · intro k tv s' h' tk I io E' hk ⟨h, tk', m, items, row, res, tr, e, F', hl', hrow', hlen, ho, va, vb, vc, vr, vres⟩ kI eI nI
    subst e
    have hLI : L ≠ I := Fr.neL (F.push _) nI
    have n0 : s₀.heap.get? I = none := Fr.noneBack (F.push _) nI
    have hDI : D ≠ I := by
      rintro rfl
      obtain ⟨o, e, _⟩ := hl
      rw [Heap.get?_push_of_some _ e] at nI; cases nI
    replace F := Frx F' hLI n0 kI
    replace hl := lst_of (fun o e => kI D o hDI e) hl'
    refine stS F (fun h₁ F s1 => ?_)
    refine gQ fun Q1 hQ1 => ?_
    replace hl := lst_of (fun o e => (s1.2 D hDL.symm).trans e) hl
    replace eI := (s1.2 I hLI.symm).trans eI
    have hbk : b[k]? = some (b.getD k 0) := by rw [List.getD_eq_getElem?_getD, List.getElem?_eq_getElem hk]; rfl
    refine wpAny_execs_cons (wpAny_Assign_Name (Subscript_ (ld F vb (ld F rfl (item_ws hbk (by omega) (stS F (fun h₂ F s2 => ?_)))))))
    replace hl := lst_of (fun o e => (s2.2 D hDL.symm).trans e) hl
    replace eI := (s2.2 I hLI.symm).trans eI
    refine wpAny_execs_cons (wpAny_Assign_two (wpAny_BinOp (ld F rfl (name_K F X T (by k_is) (P.mul_int (hm := IntMulOk.of_right (by decide)) (assign_Name (stS F (fun h₃ F s3 => ?_))))))))
    replace hl := lst_of (fun o e => (s3.2 D hDL.symm).trans e) hl
    replace eI := (s3.2 I hLI.symm).trans eI
    refine assign_Name (stS F (fun h₄ F s4 => ?_))
    replace hl := lst_of (fun o e => (s4.2 D hDL.symm).trans e) hl
    replace eI := (s4.2 I hLI.symm).trans eI
    refine wpAny_execs_cons (wpAny_Assign_Name (wpAny_Constant_int (stS F (fun h₅ F s5 => ?_))))
    replace hl := lst_of (fun o e => (s5.2 D hDL.symm).trans e) hl
    replace eI := (s5.2 I hLI.symm).trans eI
    refine wpAny_execs_cons (For_range hA (Call_Name1 (name_B F X T (by k_is) (by boot_fast) (by decide) (PySem.callWith_type1 (Call_Name1 (name_B F X T (by k_is) (by boot_fast) (by decide) (PySem.callWith_builtin1 (ld F va (len_ws (by omega) (call_range_1 (⟨_, a.length, _, _, _, rfl, IsRange.new _ _ _ _ _ _ _, by omega, (LevI s₀ L D I io a b c t u v k row), ?_, ?_, ?_⟩)))))))))))
    · intro h' kp
      exact ⟨h', _, _, items, _, _, _, _, _, _, _, _, rfl, rfl, Frk F fun b o e => kp b o (Heap.get?_push_of_some _ e), lst_of (fun o e => kp _ o (Heap.get?_push_of_some _ e)) hl, hrow', kp _ _ (Heap.get?_push_of_some _ eI), va, vb, vc, vr, rfl, rfl, rfl, rfl⟩
    · intro j tv s' h' tk I2 io2 E' hj ⟨h, tk', m, items, t1, t2, t3, t4, rj, dj, xj, mj, e, hst, F', hl', hrow', eI', va, vb, vc, vr, vbc, vd, vre, vm⟩ kI2 eI2 nI2
      subst e
      have hLI2 : L ≠ I2 := Fr.neL (F.push _) nI2
      have n02 : s₀.heap.get? I2 = none := Fr.noneBack (F.push _) nI2
      have hDI2 : D ≠ I2 := by
        rintro rfl
        obtain ⟨o, e, _⟩ := hl
        rw [Heap.get?_push_of_some _ e] at nI2; cases nI2
      have hII2 : I ≠ I2 := by
        rintro rfl
        rw [Heap.get?_push_of_some _ eI] at nI2; cases nI2
      replace F := Frx F' hLI2 n02 kI2
      replace hl := lst_of (fun o e => kI2 D o hDI2 e) hl'
      replace eI := kI2 I _ hII2 eI'
      refine stS F (fun h₁ F s1 => ?_)
      refine gQ fun Q2 hQ2 => ?_
      replace hl := lst_of (fun o e => (s1.2 D hDL.symm).trans e) hl
      replace eI := (s1.2 I hLI.symm).trans eI
      replace eI2 := (s1.2 I2 hLI2.symm).trans eI2
      have haj : a[j]? = some (a.getD j 0) := by rw [List.getD_eq_getElem?_getD, List.getElem?_eq_getElem hj]; rfl
      have hax := hla _ (List.mem_of_getElem? haj)
      have hbx := hlb _ (List.mem_of_getElem? hbk)
      refine wpAny_execs_cons (wpAny_Assign_Name (wpAny_BinOp (ld F vd (Call_ (name_K F X T (by k_is) (PyProof.Rows.callWith_def rfl (wpAny_items_cons (ld F vbc (wpAny_items_cons (Subscript_ (ld F va (ld F rfl (item_ws haj (by omega) (wpAny_items_nil (⟨F.keep _ _ (X _ _ rfl), ?_⟩)))))))))))))))
      refine wpAny_mono (sub_cost (E := E') (Gd.keeps ⟨X, T⟩ F.keep) R ⟨hbx, hax⟩) (fun v' s' hv => ?_) fun _ _ e => e
      obtain ⟨⟨tc, rfl⟩, h₂, tk₂, rfl, kp⟩ := hv
      replace F := Frk F kp
      replace hl := lst_of (kp D) hl
      replace eI := kp _ _ eI
      replace eI2 := kp _ _ eI2
      refine P.add_int (stS F (fun h₃ F s3 => ?_))
      replace hl := lst_of (fun o e => (s3.2 D hDL.symm).trans e) hl
      replace eI := (s3.2 I hLI.symm).trans eI
      replace eI2 := (s3.2 I2 hLI2.symm).trans eI2
      have hrl : rj.length = a.length := by
        have := innerF_len (b.getD k 0) a row ((k : Int) * 2) j
        rw [hst] at this; exact this.trans hlen
      obtain ⟨ti, hit⟩ := hrow'.2 j (by rw [hrl]; exact hj)
      refine wpAny_execs_cons (wpAny_Assign_Name (Subscript_ (ld F vr (ld F rfl (item_L hl hit (by omega) (stS F (fun h₄ F s4 => ?_)))))))
      replace hl := lst_of (fun o e => (s4.2 D hDL.symm).trans e) hl
      replace eI := (s4.2 I hLI.symm).trans eI
      replace eI2 := (s4.2 I2 hLI2.symm).trans eI2
      refine wpAny_execs_cons (wpAny_Assign_Name (wpAny_BinOp (Call_ (name_B F X T (by k_is) (by boot_fast) (by decide) (PyProof.Rows.callWith_builtin1 (wpAny_items_cons (ld F vre (wpAny_items_cons (ld F rfl (wpAny_items_nil (min_w hA (fun h₅ tk₅ kp5 => ?_))))))))))))
      replace F := Frk F kp5
      replace hl := lst_of (kp5 D) hl
      replace eI := kp5 _ _ eI
      replace eI2 := kp5 _ _ eI2
      refine name_K F X T (by k_is) (P.add_int (stS F (fun h₆ F s6 => ?_)))
      replace hl := lst_of (fun o e => (s6.2 D hDL.symm).trans e) hl
      replace eI := (s6.2 I hLI.symm).trans eI
      replace eI2 := (s6.2 I2 hLI2.symm).trans eI2
      refine wpAny_execs_cons (wpAny_Assign_Name (Call_ (name_B F X T (by k_is) (by boot_fast) (by decide) (PyProof.Rows.callWith_builtin1 (wpAny_items_cons (ld F rfl (wpAny_items_cons (ld F rfl (wpAny_items_nil (min_w hA (fun h₇ tk₇ kp7 => ?_)))))))))))
      replace F := Frk F kp7
      replace hl := lst_of (kp7 D) hl
      replace eI := kp7 _ _ eI
      replace eI2 := kp7 _ _ eI2
      refine stS F (fun h₈ F s8 => ?_)
      replace hl := lst_of (fun o e => (s8.2 D hDL.symm).trans e) hl
      replace eI := (s8.2 I hLI.symm).trans eI
      replace eI2 := (s8.2 I2 hLI2.symm).trans eI2
      refine wpAny_execs_cons (wpAny_Assign_Subscript (ld F rfl (ld F vr (ld F rfl (wpAny_setItem_list hl (by omega) (by omega) (by rw [hrow'.1, hrl]; omega) (fun h₉ hl s9 => ?_))))))
      replace F := Frx F hDL hD0 (fun b o hb e => (s9.2 b hb).trans e)
      replace eI := (s9.2 I hDI.symm).trans eI
      replace eI2 := (s9.2 I2 hDI2.symm).trans eI2
      rw [Int.toNat_natCast] at hl
      refine wpAny_execs_cons (wpAny_If (wpAny_isTrue_Compare1 (ld F rfl (ld F vm (P.lt_int (wpAny_truthy_bool ?_))))))
      refine if_split (fun e3 => ?_) (fun e3 => ?_)
      · refine wpAny_execs_cons (wpAny_Assign_Name (ld F rfl ?_))
        refine stS F (fun hB F sA => ?_)
        replace hl := lst_of (fun o e => (sA.2 D hDL.symm).trans e) hl
        replace eI := (sA.2 I hLI.symm).trans eI
        replace eI2 := (sA.2 I2 hLI2.symm).trans eI2
        refine wpAny_execs_nil (wpAny_execs_nil ?_)
        refine hQ2 _ _ ⟨⟨_, _, _, _, _, _, _, _, _, _, _, _, rfl, ?_, F, hl, hrow'.set, eI, va, vb, vc, vr, vbc, rfl, rfl, rfl⟩, eI2⟩
        rw [innerF_succ, hst]
        show (_, _, _, _) = _
        rw [if_pos (of_decide_eq_true e3)]
      · refine wpAny_execs_nil (wpAny_execs_nil ?_)
        refine hQ2 _ _ ⟨⟨_, _, _, _, _, _, _, _, _, _, _, _, rfl, ?_, F, hl, hrow'.set, eI, va, vb, vc, vr, vbc, rfl, rfl, vm⟩, eI2⟩
        rw [innerF_succ, hst]
        show (_, _, _, _) = _
        rw [if_neg (fun h => e3 (decide_eq_true h))]
    · intro s' h' tk I2 ⟨h, tk', m, items, t1, t2, t3, t4, rj, dj, xj, mj, e, hst, F', hl', hrow', eI', va, vb, vc, vr, vbc, vd, vre, vm⟩ kI2 nI2
      subst e
      have hLI2 : L ≠ I2 := Fr.neL (F.push _) nI2
      have n02 : s₀.heap.get? I2 = none := Fr.noneBack (F.push _) nI2
      have hDI2 : D ≠ I2 := by
        rintro rfl
        obtain ⟨o, e, _⟩ := hl
        rw [Heap.get?_push_of_some _ e] at nI2; cases nI2
      have hII2 : I ≠ I2 := by
        rintro rfl
        rw [Heap.get?_push_of_some _ eI] at nI2; cases nI2
      replace F := Frx F' hLI2 n02 kI2
      replace hl := lst_of (fun o e => kI2 D o hDI2 e) hl'
      replace eI := kI2 I _ hII2 eI'
      refine wpAny_execs_cons (wpAny_If (wpAny_isTrue_Compare1 (ld F vm (ld F vc (P.gt_int (wpAny_truthy_bool ?_))))))
      have hb' : b.drop k = b.getD k 0 :: b.drop (k + 1) := by
        rw [List.drop_eq_getElem_cons hk, List.getD_eq_getElem?_getD, List.getElem?_eq_getElem hk]; rfl
      rw [hb', outerF_cons, hst] at ho
      by_cases e2 : c < mj
      · rw [if_pos (by simpa using e2)]
        refine wpAny_execs_cons (wpAny_Return_some (wpAny_BinOp (ld F vc (wpAny_Constant_int (P.add_int ?_)))))
        rw [if_pos (show c < (rj, dj, xj, mj).2.2.2 from e2)] at ho
        exact hQ1 _ _ ⟨⟨_, by unfold levG; rw [if_neg e1, ← ho]; rfl⟩, _, _, rfl, F.keep⟩
      · rw [if_neg (by simpa using e2)]
        rw [if_neg (show ¬ c < (rj, dj, xj, mj).2.2.2 from e2)] at ho
        have hrl : rj.length = a.length := by
          have := innerF_len (b.getD k 0) a row ((k : Int) * 2) a.length
          rw [hst] at this; exact this.trans hlen
        refine wpAny_execs_nil (wpAny_execs_nil (hQ1 _ _ ⟨⟨h', _, m, items, _, _, t3, rfl, F, hl, hrow', hrl, ho, va, vb, vc, vr, vre⟩, eI⟩))
  · intro s' h' tk I ⟨h, tk', m, items, row, res, tr, e, F', hl', _, _, ho, _, _, _, _, vr⟩ kI eI
    subst e
    have nI : L ≠ I := Fr.neL (F.push _) eI
    have n0 : s₀.heap.get? I = none := Fr.noneBack (F.push _) eI
    replace F := Frx F' nI n0 kI
    refine wpAny_execs_cons (wpAny_Return_some (ld F vr ?_))
    rw [List.drop_length] at ho
    refine ⟨⟨tr, ?_⟩, _, _, rfl, F.keep⟩
    unfold levG; rw [if_neg e1, ← ho]; rfl
theorem lev_tail {A : Around} {E : Value → Shared → Prop} {s₀ s : Shared} {L : Addr} {m : Str → Option Value} {n : Nat} {a b : List Nat} {c : Int} {t u v : Tok} (F : Fr s₀.heap L s.heap m) (hs : ∃ h tk, s = { s₀ with heap := h, toks := tk }) (X : (Kx w.params).In s₀.heap) (T : TopRead q lo mg mb s₀.heap) (R : Rm (n + 2) A)
    (hA : A.handled = none) (ha : a.length ≤ 4) (hb : b.length ≤ 4) (hla : ∀ x ∈ a, x = 102 ∨ x = 105 ∨ x = 108) (hlb : ∀ x ∈ b, x = 102 ∨ x = 105 ∨ x = 108)
    (va : m (S "a") = some (.str (ws a) t)) (vb : m (S "b") = some (.str (ws b) u)) (vc : m (S "max_cost") = some (.int c v)) :
    wpAny (model pw w) A (execs ((fB 7).drop 9) (envOf (S "_levenshtein_distance") (fS 7) L 52 (.ref 51))) (fun fl s' => (∃ t, retV fl = .int (levT a b c) t) ∧ Keeps s₀ s') E s := by
  obtain ⟨h, tk, rfl⟩ := hs
  (with_unfolding_all show wpAny _ _ (execs (_ :: _) _) _ _ _)
  refine wpAny_execs_cons (wpAny_If (wpAny_mono (Q := fun r s' => r = (a.isEmpty || b.isEmpty) ∧ ∃ tk, s' = { s₀ with heap := h, toks := tk }) (E := E) (wpAny_isTrue_BoolOp (wpAny_allTrue_Or_cons (wpAny_isTrue_Not (wpAny_isTrue_value (ld F va (truthy_ws (by omega) ?_)))))) (fun r s' hr => ?_) fun _ _ e => e))
  · cases ea : a.isEmpty with
    | true => exact ⟨rfl, _, rfl⟩
    | false =>
      refine wpAny_allTrue_Or_cons (wpAny_isTrue_Not (wpAny_isTrue_value (ld F vb (truthy_ws (by omega) ?_))))
      cases eb : b.isEmpty with
      | true => exact ⟨rfl, _, rfl⟩
      | false => exact wpAny_allTrue_Or_nil ⟨rfl, _, rfl⟩
  obtain ⟨rfl, tk, rfl⟩ := hr
  by_cases e0 : (a.isEmpty || b.isEmpty) = true
  · rw [if_pos e0]
    refine wpAny_execs_cons (wpAny_Return_some (wpAny_BinOp (name_K F X T (by k_is) (wpAny_BinOp (Call_Name1 (name_B F X T (by k_is) (by boot_fast) (by decide) (PySem.callWith_builtin1 (ld F va (len_ws (by omega) (Call_Name1 (name_B F X T (by k_is) (by boot_fast) (by decide) (PySem.callWith_builtin1 (ld F vb (len_ws (by omega) (P.add_int (P.mul_int ?_ ?_))))))))))))))))
    · exact ⟨⟨_, by unfold levT; rw [if_pos e0]; rfl⟩, _, _, rfl, F.keep⟩
    · exact IntMulOk.of_left (by decide)
  rw [if_neg e0]
  refine wpAny_execs_nil ?_
  refine wpAny_execs_cons (wpAny_If (wpAny_isTrue_BoolOp (wpAny_allTrue_Or_cons (wpAny_isTrue_Compare1 (Call_Name1 (name_B F X T (by k_is) (by boot_fast) (by decide) (PySem.callWith_builtin1 (ld F va (len_ws (by omega) (name_K F X T (by k_is) (P.gt_int (wpAny_truthy_bool ?_))))))))))))
  rw [if_neg (by simp; omega)]
  refine wpAny_allTrue_Or_cons (wpAny_isTrue_Compare1 (Call_Name1 (name_B F X T (by k_is) (by boot_fast) (by decide) (PySem.callWith_builtin1 (ld F vb (len_ws (by omega) (name_K F X T (by k_is) (P.gt_int (wpAny_truthy_bool ?_)))))))))
  rw [if_neg (by simp; omega)]
  refine wpAny_allTrue_Or_nil (wpAny_execs_nil ?_)
  refine wpAny_execs_cons (wpAny_If (wpAny_isTrue_Compare1 (Call_Name1 (name_B F X T (by k_is) (by boot_fast) (by decide) (PySem.callWith_builtin1 (ld F vb (len_ws (by omega) (Call_Name1 (name_B F X T (by k_is) (by boot_fast) (by decide) (PySem.callWith_builtin1 (ld F va (len_ws (by omega) (P.lt_int (wpAny_truthy_bool ?_))))))))))))))
  by_cases e1 : b.length < a.length
  · rw [if_pos (by simp; omega)]
    refine wpAny_execs_cons (Assign_Tuple_swapped (names := [S "a", S "b"]) (wpAny_Tuple (wpAny_items_cons (ld F vb (wpAny_items_cons (ld F va (wpAny_items_nil ?_)))))))
    refine ⟨Nat.le_of_lt (by show 2 < 16777216; decide), ?_⟩
    have F' := F.push { cls := .type "tuple", data := .seq [Value.str (ws b) u, Value.str (ws a) t].toArray }
    refine unpackItems_ F' ⟨_, Heap.get?_push_size _ rfl, rfl, _, rfl⟩ hA rfl (fun h' F => ?_)
    refine wpAny_assignInOrder_more (bindName_ (stN F News.nil (fun h' F _ => ?_)))
    refine wpAny_assignInOrder_more (bindName_ (stN F News.nil (fun h' F _ => ?_)))
    refine wpAny_assignInOrder_none (wpAny_execs_nil ?_)
    have hT : levT a b c = levG b a c := by unfold levT; rw [if_neg e0, if_pos e1]
    rw [hT]
    exact lev_main F ⟨_, _, rfl⟩ X T R hA hb ha hlb hla rfl rfl vc
  · rw [if_neg (by simp; omega)]
    refine wpAny_execs_nil ?_
    have hT : levT a b c = levG a b c := by unfold levT; rw [if_neg e0, if_neg e1]
    rw [hT]
    exact lev_main F ⟨_, _, rfl⟩ X T R hA ha hb hla hlb va vb vc
end Mine
end

section
open PySem PySem.W PyProof.Rows PySem.Calls
set_option Elab.async false
set_option maxRecDepth 100000
set_option maxHeartbeats 2000000
namespace Mine
variable {w : World} {mg mb : Str → Option Value} {q : Program} {lo : List Str}
inductive StrQ (s : Shared) (L : Addr) (a b : List Nat) (c : Int) (t u v : Tok) (f : Flow) (s' : Shared) : Prop where
  | mk (_ : f = .next) (h : _) (tk : _) (m : _) (i : _) (t' : _) (_ : s' = { s with heap := h, toks := tk }) (_ : Fr s.heap L h m) (_ : stripP a b = (a.drop i, b.drop i)) (_ : m (S "a") = some (.str (ws a) t)) (_ : m (S "b") = some (.str (ws b) u)) (_ : m (S "max_cost") = some (.int c v)) (_ : m (S "pre") = some (.int (i : Nat) t')) : StrQ s L a b c t u v f s'
inductive StrI (s : Shared) (L : Addr) (a b : List Nat) (c : Int) (t u v : Tok) (k : Nat) (s' : Shared) : Prop where
  | mk  (h : _) (tk : _) (m : _) (i : _) (t' : _) (_ : s' = { s with heap := h, toks := tk }) (_ : Fr s.heap L h m) (_ : i + k = a.length) (_ : i ≤ b.length) (_ : stripP (a.drop i) (b.drop i) = stripP a b) (_ : m (S "a") = some (.str (ws a) t)) (_ : m (S "b") = some (.str (ws b) u)) (_ : m (S "max_cost") = some (.int c v)) (_ : m (S "pre") = some (.int (i : Nat) t')) : StrI s L a b c t u v k s'
inductive StrQ2 (s : Shared) (L : Addr) (a b : List Nat) (c : Int) (v : Tok) (i : Nat) (f : Flow) (s' : Shared) : Prop where
  | mk (_ : f = .next) (h : _) (tk : _) (m : _) (j : _) (t' : _) (t : _) (u : _) (_ : s' = { s with heap := h, toks := tk }) (_ : Fr s.heap L h m) (_ : j ≤ (a.drop i).length) (_ : j ≤ (b.drop i).length) (_ : stripP (a.drop i).reverse (b.drop i).reverse = ((a.drop i).reverse.drop j, (b.drop i).reverse.drop j)) (_ : m (S "a") = some (.str (ws (a.drop i)) t)) (_ : m (S "b") = some (.str (ws (b.drop i)) u)) (_ : m (S "max_cost") = some (.int c v)) (_ : m (S "post") = some (.int (-((j : Nat) : Int)) t')) : StrQ2 s L a b c v i f s'
inductive StrI2 (s : Shared) (L : Addr) (a b : List Nat) (c : Int) (v : Tok) (i : Nat) (k : Nat) (s' : Shared) : Prop where
  | mk  (h : _) (tk : _) (m : _) (j : _) (t' : _) (t : _) (u : _) (_ : s' = { s with heap := h, toks := tk }) (_ : Fr s.heap L h m) (_ : j + k = (a.drop i).length) (_ : j ≤ (b.drop i).length) (_ : stripP ((a.drop i).reverse.drop j) ((b.drop i).reverse.drop j) = stripP (a.drop i).reverse (b.drop i).reverse) (_ : m (S "a") = some (.str (ws (a.drop i)) t)) (_ : m (S "b") = some (.str (ws (b.drop i)) u)) (_ : m (S "max_cost") = some (.int c v)) (_ : m (S "post") = some (.int (-((j : Nat) : Int)) t')) : StrI2 s L a b c v i k s'
theorem lev {A : Around} {E : Value → Shared → Prop} {s : Shared} {n : Nat} {a b : List Nat} {c : Int} {t u v : Tok} (G : Gd w q lo mg mb s.heap) (R : Rm (n + 3) A)
    (ha : a.length ≤ 4) (hb : b.length ≤ 4) (hla : ∀ x ∈ a, x = 102 ∨ x = 105 ∨ x = 108) (hlb : ∀ x ∈ b, x = 102 ∨ x = 105 ∨ x = 108) (hA : A.handled = none) :
    wpAny (model pw w) A (call (.ref 52) [.str (ws a) t, .str (ws b) u, .int c v]) (fun v s' => (∃ t, v = .int (levF a b c) t) ∧ Keeps s s') E s := by
  refine enter (f := 52) (name := S "_levenshtein_distance") (qual := S "_levenshtein_distance") (params := fA 7) (body := fB 7) (scope := fS 7) (binds := [(S "a", .str (ws a) t), (S "b", .str (ws b) u), (S "max_cost", .int c v)]) G R rfl rfl (BindsTo.of_eq rfl) (locs rfl) ?_ rfl rfl rfl (by decide)
  intro L h₁ A' F N X T R' hh
  (with_unfolding_all show wpAny _ _ (execs (_ :: _) _) _ _ _)
  refine wpAny_execs_cons (wpAny_If (wpAny_isTrue_Compare1 (ld F rfl (ld F rfl (eq_ws (wpAny_truthy_bool ?_))))))
  by_cases eab : a = b
  · rw [if_pos (by rw [eab]; exact beq_self_eq_true _)]
    refine wpAny_execs_cons (wpAny_Return_some (wpAny_Constant_int ?_))
    exact ⟨⟨_, by unfold levF; rw [if_pos eab]⟩, _, _, rfl, F.keep⟩
  rw [if_neg (by intro h; exact eab (by simpa using eq_of_beq h))]
  refine wpAny_execs_nil ?_
  refine wpAny_execs_cons (wpAny_Assign_Name (wpAny_Constant_int (stN F N (fun h' F N => ?_))))
  refine wpAny_execs_cons (wpAny_mono (While_ (Q := StrQ s L a b c t u v) (I := StrI s L a b c t u v) ?_ a.length ?_) ?rest fun _ _ e => e)
  case rest =>
    intro f s' ⟨hf, h, tk, m, i, t', e, F, hst, va, vb, vc, vp⟩
    subst hf e
    refine wpAny_execs_cons (wpAny_Assign_Name (sliceF (ld F va (ld F vp ⟨a, _, i, _, rfl, rfl, by omega, fun h' t'' k' kp => stN (Frk F kp) News.nil (fun h' F _ => ?_)⟩))))
    refine wpAny_execs_cons (wpAny_Assign_Name (sliceF (ld F vb (ld F vp ⟨b, _, i, _, rfl, rfl, by omega, fun h' t'' k' kp => stN (Frk F kp) News.nil (fun h' F _ => ?_)⟩))))
    refine wpAny_execs_cons (wpAny_Assign_Name (wpAny_Constant_int (stN F News.nil (fun h' F _ => ?_))))
    have la : (a.drop i).length ≤ 4 := by rw [List.length_drop]; omega
    have lb : (b.drop i).length ≤ 4 := by rw [List.length_drop]; omega
    refine wpAny_execs_cons (wpAny_mono (While_ (Q := StrQ2 s L a b c v i)
      (I := StrI2 s L a b c v i) ?_ (a.drop i).length ?_) ?rest2 fun _ _ e => e)
    case rest2 =>
      intro f s' ⟨hf, h, tk, m, j, t', t, u, e, F, hja, hjb, hst2, va, vb, vc, vp⟩
      subst hf e
      have hF : levF a b c = levT ((a.drop i).take ((a.drop i).length - j)) ((b.drop i).take ((b.drop i).length - j)) c := by
        unfold levF; rw [if_neg eab, hst]; dsimp only; rw [hst2]; dsimp only; rw [rdrop, rdrop]
      rw [hF]
      refine wpAny_execs_cons (wpAny_Assign_Name (sliceL (ld F va (or_none (ld F vp ⟨j, _, rfl, fun r hr => ⟨a.drop i, _, j, rfl, ?_, by omega, fun h' t'' k' kp => stN (Frk F kp) News.nil (fun h' F _ => ?_)⟩⟩)))))
      · rcases hr with ⟨h1, h2⟩ | ⟨h1, h2⟩
        · exact .inl ⟨h1, h2⟩
        · exact .inr ⟨_, h1, h2, by omega⟩
      refine wpAny_execs_cons (wpAny_Assign_Name (sliceL (ld F vb (or_none (ld F vp ⟨j, _, rfl, fun r hr => ⟨b.drop i, _, j, rfl, ?_, by omega, fun h' t'' k' kp => stN (Frk F kp) News.nil (fun h' F _ => ?_)⟩⟩)))))
      · rcases hr with ⟨h1, h2⟩ | ⟨h1, h2⟩
        · exact .inl ⟨h1, h2⟩
        · exact .inr ⟨_, h1, h2, by omega⟩
      have ha2 : ((a.drop i).take ((a.drop i).length - j)).length ≤ 4 := by rw [List.length_take]; omega
      have hb2 : ((b.drop i).take ((b.drop i).length - j)).length ≤ 4 := by rw [List.length_take]; omega
      have hla2 : ∀ x ∈ (a.drop i).take ((a.drop i).length - j), x = 102 ∨ x = 105 ∨ x = 108 := fun x hx => hla x (List.mem_of_mem_drop (List.mem_of_mem_take hx))
      have hlb2 : ∀ x ∈ (b.drop i).take ((b.drop i).length - j), x = 102 ∨ x = 105 ∨ x = 108 := fun x hx => hlb x (List.mem_of_mem_drop (List.mem_of_mem_take hx))
      refine wpAny_mono (lev_tail (E := fun _ _ => False) F ⟨_, _, rfl⟩ X T R' (hh.trans hA) ha2 hb2 hla2 hlb2 rfl rfl vc) (fun fl s' h' => ?_) fun _ _ e => e
      cases fl <;> exact h'
    · intro k s' E' ⟨h, tk, m, j, t', t, u, e, F, hjk, hjb, hst2, va, vb, vc, vp⟩
      subst e
      refine wpAny_isTrue_BoolOp (wpAny_allTrue_And_cons (wpAny_isTrue_value (sliceL (ld F va (or_none (ld F vp ⟨j, _, rfl, fun r hr => ⟨a.drop i, _, j, rfl, ?_, by omega, fun h' t'' k' kp => ?_⟩⟩))))))
      · rcases hr with ⟨h1, h2⟩ | ⟨h1, h2⟩
        · exact .inl ⟨h1, h2⟩
        · exact .inr ⟨_, h1, h2, by omega⟩
      replace F := Frk F kp
      refine truthy_ws (by rw [List.length_take]; omega) ?_
      rw [take_of_rdrop]
      cases ea : (a.drop i).reverse.drop j with
      | nil => exact ⟨rfl, _, _, _, j, _, _, _, rfl, F, by omega, hjb, by rw [← hst2, ea, stripP_nil], va, vb, vc, vp⟩
      | cons x ra =>
        obtain ⟨ax, ar, ai⟩ := rdrop_cons ea
        refine wpAny_allTrue_And_cons (wpAny_isTrue_value (sliceL (ld F vb (or_none (ld F vp ⟨j, _, rfl, fun r hr => ⟨b.drop i, _, j, rfl, ?_, by omega, fun h' t'' k' kp => ?_⟩⟩)))))
        · rcases hr with ⟨h1, h2⟩ | ⟨h1, h2⟩
          · exact .inl ⟨h1, h2⟩
          · exact .inr ⟨_, h1, h2, by omega⟩
        replace F := Frk F kp
        refine truthy_ws (by rw [List.length_take]; omega) ?_
        rw [take_of_rdrop]
        cases eb : (b.drop i).reverse.drop j with
        | nil => exact ⟨rfl, _, _, _, j, _, _, _, rfl, F, by omega, hjb, by rw [← hst2, ea, eb, stripP_nil'], va, vb, vc, vp⟩
        | cons y rb =>
          obtain ⟨bx, br, bi⟩ := rdrop_cons eb
          refine wpAny_allTrue_And_cons (wpAny_isTrue_Compare1 (Subscript_ (ld F va (wpAny_BinOp (ld F vp (wpAny_Constant_int (P.sub_int (item_neg ai ax (by omega) (Subscript_ (ld F vb (wpAny_BinOp (ld F vp (wpAny_Constant_int (P.sub_int (item_neg bi bx (by omega) (eq_ws (wpAny_truthy_bool ?_)))))))))))))))))
          by_cases exy : x = y
          · rw [if_pos (by rw [exy]; exact beq_self_eq_true _)]
            refine wpAny_allTrue_And_nil ?_
            refine wpAny_execs_cons (wpAny_AugAssign_Name (wpAny_loadName_local rfl (by rfl) F.ns vp (wpAny_Constant_int (P.isub_int (stN F News.nil (fun h' F _ => ?_))))))
            refine wpAny_execs_nil ?_
            refine ⟨k - 1, by omega, _, _, _, j + 1, _, _, _, rfl, F, by omega, by omega, ?_, va, vb, vc, congrArg (fun z => some (Value.int z _)) (by omega)⟩
            rw [← hst2, ea, eb, stripP, if_pos exy, ar, br]
          · rw [if_neg (by intro h; exact exy (by simpa using eq_of_beq h))]
            exact ⟨rfl, _, _, _, j, _, _, _, rfl, F, by omega, by omega, by rw [← hst2, ea, eb, stripP, if_neg exy], va, vb, vc, vp⟩
    · exact ⟨_, _, _, 0, _, _, _, rfl, F, by omega, by omega, rfl, rfl, rfl, vc, rfl⟩
  · intro k s' E' ⟨h, tk, m, i, t', e, F, hik, hib, hst, va, vb, vc, vp⟩
    subst e
    refine wpAny_isTrue_BoolOp (wpAny_allTrue_And_cons (wpAny_isTrue_value (slice_w (ld F va (evalPart_some_step (ld F vp (evalPart_none_step ?_)))))))
    refine ⟨ws a, _, some ((i : Nat), t'), none, rfl, rfl, rfl, (by rw [ws_len]; exact Nat.le_trans ha (by decide)), fun h' t'' k' kp => ?_⟩
    replace F := Frk F kp
    show wpAny _ _ (truthy (.str (Txt.slice (ws a) (some ((i : Nat) : Int)) none) _)) _ _ _
    rw [slice_from]
    refine truthy_ws (by rw [List.length_drop]; omega) ?_
    cases ea : a.drop i with
    | nil =>
      exact ⟨rfl, _, _, _, i, _, rfl, F, by rw [← hst, ea, stripP_nil], va, vb, vc, vp⟩
    | cons x ra =>
      obtain ⟨ax, ar, ai⟩ := drop_cons ea
      refine wpAny_allTrue_And_cons (wpAny_isTrue_value (slice_w (ld F vb (evalPart_some_step (ld F vp (evalPart_none_step ?_))))))
      refine ⟨ws b, _, some ((i : Nat), t'), none, rfl, rfl, rfl, (by rw [ws_len]; exact Nat.le_trans hb (by decide)), fun h' t'' k' kp => ?_⟩
      replace F := Frk F kp
      show wpAny _ _ (truthy (.str (Txt.slice (ws b) (some ((i : Nat) : Int)) none) _)) _ _ _
      rw [slice_from]
      refine truthy_ws (by rw [List.length_drop]; omega) ?_
      cases eb : b.drop i with
      | nil =>
        exact ⟨rfl, _, _, _, i, _, rfl, F, by rw [← hst, eb, stripP_nil'], va, vb, vc, vp⟩
      | cons y rb =>
        obtain ⟨bx, br, bi⟩ := drop_cons eb
        refine wpAny_allTrue_And_cons (wpAny_isTrue_Compare1 (Subscript_ (ld F va (ld F vp (item_ws ax (by omega) (Subscript_ (ld F vb (ld F vp (item_ws bx (by omega) (eq_ws (wpAny_truthy_bool ?_)))))))))))
        by_cases exy : x = y
        · rw [if_pos (by rw [exy]; exact beq_self_eq_true _)]
          refine wpAny_allTrue_And_nil ?_
          refine wpAny_execs_cons (wpAny_AugAssign_Name (wpAny_loadName_local rfl (by rfl) F.ns vp (wpAny_Constant_int (P.iadd_int (stN F News.nil (fun h' F _ => ?_))))))
          refine wpAny_execs_nil ?_
          refine ⟨k - 1, by omega, _, _, _, i + 1, _, rfl, F, by omega, by omega, ?_, va, vb, vc, rfl⟩
          rw [← hst, ea, eb, stripP, if_pos exy, ar, br]
        · rw [if_neg (by intro h; exact exy (by simpa using eq_of_beq h))]
          exact ⟨rfl, _, _, _, i, _, rfl, F, by rw [← hst, ea, eb, stripP, if_neg exy], va, vb, vc, vp⟩
  · exact ⟨_, _, _, 0, _, rfl, F, by omega, by omega, rfl, rfl, rfl, rfl, rfl⟩
end Mine
end

section
open PySem PySem.W PyProof.Rows PySem.Calls
set_option Elab.async false
set_option maxRecDepth 100000
set_option maxHeartbeats 2000000
namespace Mine
variable {w : World} {mg mb : Str → Option Value} {q : Program} {lo : List Str}
noncomputable def gapF (l x : List Nat) : Int := 2 * ((x.length : Int) - l.length)
noncomputable def hidF (l x : List Nat) : Bool := levF l x (gapF l x) == gapF l x
noncomputable def FIL (l : List Nat) : Prop := ∀ x ∈ l, x = 102 ∨ x = 105 ∨ x = 108
theorem fill5 : (fun (_ : OpenLaw) (_ : Params → Frag) => True) PySem.Challenge.rw_uq0030_01 Kx := by k_fill; trivial
theorem hidden {A : Around} {E : Value → Shared → Prop} {s : Shared} {n : Nat} {a b : List Nat} {t u : Tok} (G : Gd w q lo mg mb s.heap) (R : Rm (n + 4) A)
    (ha : a.length ≤ 4) (hb : b.length ≤ 4) (hla : FIL a) (hlb : FIL b) (hA : A.handled = none) :
    wpAny (model pw w) A (call (.ref 317) [.str (ws a) t, .str (ws b) u]) (fun v s' => v = .bool (hidF a b) ∧ Keeps s s') E s := by
  refine enter (f := 317) (name := S "_law_hidden") (qual := S "_law_hidden") (params := fA 27) (body := fB 27) (scope := fS 27) (binds := [(S "low", .str (ws a) t), (S "word", .str (ws b) u)]) G R rfl rfl (BindsTo.of_eq rfl) (locs rfl) ?_ rfl rfl rfl (by decide)
  intro L h₁ A' F N X T R' hh
  (with_unfolding_all show wpAny _ _ (execs (_ :: _) _) _ _ _)
  refine wpAny_execs_cons (wpAny_Assign_Name (wpAny_BinOp (wpAny_Constant_int (wpAny_BinOp (Call_Name1 (name_B F X T (by k_is) (by boot_fast) (by decide) (PySem.callWith_builtin1 (ld F rfl (len_ws (by omega) (Call_Name1 (name_B F X T (by k_is) (by boot_fast) (by decide) (PySem.callWith_builtin1 (ld F rfl (len_ws (by omega) (P.sub_int (P.mul_int (hm := IntMulOk.of_left (by decide)) (stS F (fun h₂ F s2 => ?_))))))))))))))))))
  refine wpAny_execs_cons (wpAny_Return_some (wpAny_Compare1 (Call_ (name_K F X T (by k_is) (PyProof.Rows.callWith_def rfl (wpAny_items_cons (ld F rfl (wpAny_items_cons (ld F rfl (wpAny_items_cons (ld F rfl (wpAny_items_nil (⟨F.keep _ _ (X _ _ rfl), ?_⟩)))))))))))))
  refine wpAny_mono (lev (E := fun _ _ => False) (Gd.keeps ⟨X, T⟩ F.keep) R' ha hb hla hlb (hh.trans hA)) (fun v' s' hv => ?_) fun _ _ e => e
  obtain ⟨⟨tc, rfl⟩, h₃, tk₃, rfl, kp⟩ := hv
  replace F := Frk F kp
  refine ld F rfl (P.eq_int ?_)
  exact ⟨rfl, _, _, rfl, F.keep⟩
end Mine
end

section
open PySem PySem.W PyProof.Rows PySem.Calls
set_option Elab.async false
set_option maxRecDepth 100000
set_option maxHeartbeats 2000000
namespace Mine
variable {w : World} {mg mb : Str → Option Value} {q : Program} {lo : List Str}
/-- a list of words -/
noncomputable def WL (vs : List Value) (l : List (List Nat)) : Prop := Paired (fun x y => ∃ t, y = Value.str (ws x) t) l vs
theorem WL.nil : WL [] [] := Paired.nil
theorem WL.cons {vs : List Value} {l : List (List Nat)} (x : List Nat) (t : Tok) (h : WL vs l) : WL (Value.str (ws x) t :: vs) (x :: l) := Paired.cons (Exists.intro t rfl) h
theorem WL.len {vs : List Value} {l : List (List Nat)} (h : WL vs l) : vs.length = l.length := by
  induction h with
  | nil => rfl
  | cons _ _ ih => simp [ih]
theorem WL.get {vs : List Value} {l : List (List Nat)} (h : WL vs l) : ∀ {k : Nat} {x : List Nat}, l[k]? = some x → ∃ t, vs[k]? = some (.str (ws x) t) := by
  induction h with
  | nil => intro k x e; cases e
  | cons a _ ih =>
    intro k x e
    cases k with
    | zero => cases e; obtain ⟨t, rfl⟩ := a; exact ⟨t, rfl⟩
    | succ k => exact ih e
noncomputable def sgs : List (List Nat) := [[102], [105], [108], [70], [73], [76], [8497], [8464], [64256], [64257], [64258], [173]]
noncomputable def mns : List (List Nat) := [[102], [105], [108], [102], [105], [108], [102], [105], [102, 102], [102, 105], [102, 108], []]
noncomputable def m12 (x : Int) : Nat := (x.fmod 12).toNat
theorem m12_lt (x : Int) : m12 x < 12 := by
  unfold m12
  have h0 : 0 ≤ x.fmod 12 := Int.fmod_nonneg_of_pos x (by decide)
  have h1 : x.fmod 12 < 12 := Int.fmod_lt_of_pos x (by decide)
  omega
theorem m12_eq (x : Int) : x.fmod 12 = (m12 x : Nat) := by
  unfold m12
  have h0 : 0 ≤ x.fmod 12 := Int.fmod_nonneg_of_pos x (by decide)
  omega
noncomputable def TypP (x : Int) (its : Array Value) : Prop := ∃ t u, its = #[.str (ws (sgs.getD (m12 x) [])) t, .str (ws (mns.getD (m12 x) [])) u]
theorem getD12 {l : List (List Nat)} (h : l.length = 12) (x : Int) : l[m12 x]? = some (l.getD (m12 x) []) := by
  rw [List.getD_eq_getElem?_getD, List.getElem?_eq_getElem (by rw [h]; exact m12_lt x)]; rfl
noncomputable def litWs : List Expr → Option (List (List Nat))
  | [] => some []
  | .Constant (.str x) _ _ :: r => (litWs r).map (x.cps.toList :: ·)
  | _ => none
theorem ws_of (x : Str) : ws x.cps.toList = x := by cases x; simp [ws]
theorem spliced_ws {A : Around} {E : Value → Shared → Prop} {env : Env} {pos : Pos} : ∀ (elts : List Expr) (l : List (List Nat)) (s : Shared) (Q : List Value → Shared → Prop), litWs elts = some l → (∀ vs tk, WL vs l → Q vs { s with toks := tk }) → wpAny (model pw w) A (spliced (backTo pos (starEach elts env))) Q E s := by
  intro elts
  induction elts with
  | nil => intro l s Q h hq; cases h; exact wpAny_items_nil (hq [] s.toks .nil)
  | cons e r ih =>
    intro l s Q h hq
    unfold litWs at h
    split at h
    · rename_i heq; cases heq
    · rename_i x _ _ r' heq
      obtain ⟨rfl, rfl⟩ := List.cons.inj heq
      obtain ⟨l', h1, rfl⟩ := Option.map_eq_some_iff.mp h
      refine wpAny_items_cons (wpAny_Constant_str (ih l' _ _ h1 fun vs tk hv => ?_))
      have := WL.cons x.cps.toList s.toks hv
      rw [ws_of] at this
      exact hq _ _ this
    · cases h
theorem fill6 : (fun (_ : OpenLaw) (_ : Params → Frag) => True) PySem.Challenge.rw_uq0030_01 Kx := by k_fill; trivial
theorem typed {A : Around} {E : Value → Shared → Prop} {s : Shared} {n : Nat} {x : Int} {t : Tok} (G : Gd w q lo mg mb s.heap) (R : Rm (n + 1) A) :
    wpAny (model pw w) A (call (.ref 300) [.int x t]) (fun v s' => (∃ T its, v = .ref T ∧ s.heap.get? T = none ∧ s'.heap.IsTuple T its ∧ TypP x its) ∧ Keeps s s') E s := by
  refine enter (f := 300) (name := S "_law_typed") (qual := S "_law_typed") (params := fA 24) (body := fB 24) (scope := fS 24) (binds := [(S "number", .int x t)]) G R rfl rfl (BindsTo.of_eq rfl) (locs rfl) ?_ rfl rfl rfl (by decide)
  intro L h₁ A' F N X T R' hh
  (with_unfolding_all show wpAny _ _ (execs (_ :: _) _) _ _ _)
  refine wpAny_execs_cons ?_
  refine @wpAny_Assign_Name (model pw w) _ _ _ _ _ _ _ _ _ ?_ rfl
  refine @List_ (model pw w) _ _ _ _ _ _ _ ?_
  refine @spliced_ws w _ _ _ _ _ sgs _ _ (by kernel_rfl) fun vs tk hv => ?_
  refine wpAny_newList (hsz := by rw [hv.len]; exact (by decide : 12 ≤ sizeLine)) ?_
  have F0 := F.push { cls := .type "list", data := .seq vs.toArray }
  have hD : Heap.IsList (h₁.push { cls := .type "list", data := .seq vs.toArray }) h₁.objs.size vs.toArray := ⟨_, Heap.get?_push_size _ rfl, rfl, _, rfl⟩
  have hDL : L ≠ h₁.objs.size := Fr.neL F (size_none _)
  refine stS F0 (fun h₂ F s2 => ?_)
  replace hD := lst_of (fun o e => (s2.2 _ hDL.symm).trans e) hD
  refine wpAny_execs_cons ?_
  refine @wpAny_Assign_Name (model pw w) _ _ _ _ _ _ _ _ _ ?_ rfl
  refine @List_ (model pw w) _ _ _ _ _ _ _ ?_
  refine @spliced_ws w _ _ _ _ _ mns _ _ (by kernel_rfl) fun us tk hu => ?_
  refine wpAny_newList (hsz := by rw [hu.len]; exact (by decide : 12 ≤ sizeLine)) ?_
  have F0 := F.push { cls := .type "list", data := .seq us.toArray }
  have hE : Heap.IsList (h₂.push { cls := .type "list", data := .seq us.toArray }) h₂.objs.size us.toArray := ⟨_, Heap.get?_push_size _ rfl, rfl, _, rfl⟩
  have hEL : L ≠ h₂.objs.size := Fr.neL F (size_none _)
  replace hD := lst_of (fun o e => Heap.get?_push_of_some { cls := .type "list", data := .seq us.toArray } e) hD
  refine stS F0 (fun h₃ F s3 => ?_)
  replace hD := lst_of (fun o e => (s3.2 _ hDL.symm).trans e) hD
  replace hE := lst_of (fun o e => (s3.2 _ hEL.symm).trans e) hE
  obtain ⟨t1, g1⟩ := hv.get (getD12 (l := sgs) rfl x)
  obtain ⟨t2, g2⟩ := hu.get (getD12 (l := mns) rfl x)
  refine wpAny_execs_cons (wpAny_Return_some (wpAny_Tuple (wpAny_items_cons (Subscript_ (ld F rfl (wpAny_BinOp (ld F rfl (wpAny_Constant_int (mod_int' (by decide) ?_)))))))))
  rw [m12_eq]
  refine item_L hD (by simpa using g1) (Nat.lt_trans (m12_lt x) (by decide)) (wpAny_items_cons (Subscript_ (ld F rfl (wpAny_BinOp (ld F rfl (wpAny_Constant_int (mod_int' (by decide) ?_)))))))
  rw [m12_eq]
  refine item_L hE (by simpa using g2) (Nat.lt_trans (m12_lt x) (by decide)) (wpAny_items_nil ?_)
  refine ⟨(by decide : 2 ≤ sizeLine), ⟨_, _, rfl, Fr.noneBack F (size_none _), ⟨_, Heap.get?_push_size _ rfl, rfl, _, rfl⟩, t1, t2, rfl⟩, _, _, rfl, fun b o e => Heap.get?_push_of_some _ (F.keep b o e)⟩
end Mine
end

section
open PySem PySem.W PyProof.Rows PySem.Calls
set_option Elab.async false
set_option maxRecDepth 100000
set_option maxHeartbeats 2000000
namespace Mine
variable {w : World} {mg mb : Str → Option Value} {q : Program} {lo : List Str}
theorem fill7 : (fun (_ : OpenLaw) (_ : Params → Frag) => True) PySem.Challenge.rw_uq0030_01 Kx := by k_fill; trivial
noncomputable def b1L : List (Int × Nat) := [(65024, 386), (65025, 387), (65026, 388), (65027, 389), (65028, 390), (65029, 391), (6150, 372), (65030, 392), (65031, 393), (65032, 394), (65033, 395), (6155, 373), (6156, 374), (6157, 375), (8203, 376), (8204, 377), (8205, 378), (65034, 396), (65035, 397), (65036, 398), (65037, 399), (65038, 400), (65039, 401), (173, 370), (847, 371), (8288, 379), (65279, 380)]
theorem elems_of (l : List (Int × Nat)) : ElemsOf (intKind pw w) (l.map fun e => (hashInt e.1, Value.int e.1 e.2)) := by
  intro e he
  obtain ⟨x, _, rfl⟩ := List.mem_map.mp he
  exact ⟨⟨x.1, by exact beq_self_eq_true _, rfl⟩, rfl⟩
theorem b1_set {h : Heap} (X : (Kx w.params).In h) : h.SetOf (intKind pw w) 87 (fun k => b1L.any fun e => Value.isInt k (Value.int e.1 e.2)) 27 := by
  refine ⟨_, (b1L.map fun e => (hashInt e.1, Value.int e.1 e.2)).toArray, _, _, X 87 (o_87 w.params) rfl, ⟨rfl, rfl, rfl⟩, rfl, ?_, ?_, ?_, rfl, rfl⟩
  · rw [List.toList_toArray]; exact elems_of _
  · intro k
    rw [List.toList_toArray]
    simp only [List.any_eq_true, List.mem_map]
    constructor
    · rintro ⟨x, hx, e⟩; exact ⟨_, ⟨x, hx, rfl⟩, e⟩
    · rintro ⟨_, ⟨x, hx, rfl⟩, e⟩; exact ⟨x, hx, e⟩
  · exact (by decide : 27 < scanBound)
noncomputable def SG (c : Nat) : Prop := c = 102 ∨ c = 105 ∨ c = 108 ∨ c = 70 ∨ c = 73 ∨ c = 76 ∨ c = 8497 ∨ c = 8464 ∨ c = 64256 ∨ c = 64257 ∨ c = 64258 ∨ c = 173
theorem in_b1 {A : Around} {E : Value → Shared → Prop} {s : Shared} {n : Nat} {c : Nat} {t : Tok} (G : Gd w q lo mg mb s.heap) (R : Rm (n + 1) A) (hc : SG c) :
    wpAny (model pw w) A (call (.ref 97) [.str (ws [c]) t]) (fun v s' => v = .bool (c == 173) ∧ Keeps s s') E s := by
  refine enter (f := 97) (name := S "in_table_b1") (qual := S "in_table_b1") (params := fA 14) (body := fB 14) (scope := fS 14) (binds := [(S "code", .str (ws [c]) t)]) G R rfl rfl (BindsTo.of_eq rfl) (locs rfl) ?_ rfl rfl rfl (by decide)
  intro L h₁ A' F N X T R' hh
  (with_unfolding_all show wpAny _ _ (execs (_ :: _) _) _ _ _)
  refine wpAny_execs_cons (wpAny_Return_some (wpAny_Compare1 (Call_Name1 (name_B F X T (by k_is) (by boot_fast) (by decide) (PySem.callWith_builtin1 (ld F rfl (P.ord_of_char (name_K F X T (by k_is) (wpAny_inSet_of (knd := intKind pw w) (k := (c : Int)) (by exact beq_self_eq_true _) rfl (b1_set (X.keeps F.keep)) ?_)))))))))
  refine ⟨congrArg Value.bool ?_, _, _, rfl, F.keep⟩
  rcases hc with rfl | rfl | rfl | rfl | rfl | rfl | rfl | rfl | rfl | rfl | rfl | rfl <;> decide +kernel
noncomputable def fldT : List (Nat × List Nat) := [(102, [102]), (105, [105]), (108, [108]), (70, [102]), (73, [105]), (76, [108]), (8497, [102]), (8464, [105]), (64256, [102, 102]), (64257, [102, 105]), (64258, [102, 108])]
noncomputable def fld (c : Nat) : List Nat := ((fldT.find? fun e => e.1 == c).map (·.2)).getD []
noncomputable def keyOk (e : DictEntry) : Bool := match e.key with | .int k _ => e.hash == hashInt k | _ => false
theorem keys3 : D3.all keyOk = true := by kernel_rfl
theorem map3 {h : Heap} (X : (Kx w.params).In h) : h.MapOf (intKind pw w) 98 (fun k => findBy Value.isInt D3.toArray k) := by
  refine ⟨_, D3.toArray, _, X 98 (dOo D3) rfl, ⟨rfl, rfl, rfl⟩, rfl, ?_, fun k => rfl⟩
  intro e he
  have h1 := List.all_eq_true.mp keys3 e (by simpa using he)
  unfold keyOk at h1
  split at h1
  · rename_i k t hk
    exact ⟨k, by rw [hk]; exact beq_self_eq_true _, eq_of_beq h1⟩
  · cases h1
noncomputable def strOk (v : Option Value) (x : List Nat) : Bool := match v with | some (.str y _) => y.cps.toList == x | _ => false
theorem strOk_of {v : Option Value} {x : List Nat} (h : strOk v x = true) : ∃ t, v = some (.str (ws x) t) := by
  unfold strOk at h
  split at h
  · rename_i y t
    have := eq_of_beq h
    exact ⟨t, by rw [← this, ws_of]⟩
  · cases h
theorem find3 (k : Int) : findBy Value.isInt D3.toArray k = (D3.find? fun e => Value.isInt k e.key).map (·.val) := by
  unfold findBy; rw [List.find?_toArray]
theorem miss3L : (D3.all fun e => ([102, 105, 108, 70, 73, 76] : List Int).all fun k => !Value.isInt k e.key) = true := by kernel_rfl
theorem miss3 {k : Int} (h : k ∈ ([102, 105, 108, 70, 73, 76] : List Int)) : findBy Value.isInt D3.toArray k = none := by
  rw [find3, List.find?_eq_none.mpr]
  · rfl
  · intro e he
    have h1 := List.all_eq_true.mp (List.all_eq_true.mp miss3L e he) k h
    simpa using h1
theorem look3 : (strOk (findBy Value.isInt D3.toArray 8497) [102] && strOk (findBy Value.isInt D3.toArray 8464) [105] && strOk (findBy Value.isInt D3.toArray 64256) [102, 102] && strOk (findBy Value.isInt D3.toArray 64257) [102, 105] && strOk (findBy Value.isInt D3.toArray 64258) [102, 108]) = true := by
  simp only [find3]; kernel_rfl
theorem b3_find {c : Nat} (hc : SG c) (h1 : c ≠ 173) : (c < 128 ∧ findBy Value.isInt D3.toArray (c : Int) = none) ∨ (∃ t, findBy Value.isInt D3.toArray (c : Int) = some (.str (ws (fld c)) t)) := by
  have a := look3
  simp only [Bool.and_eq_true] at a
  obtain ⟨⟨⟨⟨a1, a2⟩, a3⟩, a4⟩, a5⟩ := a
  rcases hc with rfl | rfl | rfl | rfl | rfl | rfl | rfl | rfl | rfl | rfl | rfl | rfl
  · exact .inl ⟨by decide, miss3 (by decide)⟩
  · exact .inl ⟨by decide, miss3 (by decide)⟩
  · exact .inl ⟨by decide, miss3 (by decide)⟩
  · exact .inl ⟨by decide, miss3 (by decide)⟩
  · exact .inl ⟨by decide, miss3 (by decide)⟩
  · exact .inl ⟨by decide, miss3 (by decide)⟩
  · exact .inr (strOk_of a1)
  · exact .inr (strOk_of a2)
  · exact .inr (strOk_of a3)
  · exact .inr (strOk_of a4)
  · exact .inr (strOk_of a5)
  · exact absurd rfl h1
theorem low_ascii {c : Nat} (hc : SG c) (h1 : c < 128) : (ws [c]).cps.all (· < 128) = true ∧ Txt.lower (ws [c]) = ws (fld c) := by
  rcases hc with rfl | rfl | rfl | rfl | rfl | rfl | rfl | rfl | rfl | rfl | rfl | rfl <;> first | (constructor <;> decide +kernel) | (exfalso; revert h1; decide)
theorem map_b3 {A : Around} {E : Value → Shared → Prop} {s : Shared} {n : Nat} {c : Nat} {t : Tok} (G : Gd w q lo mg mb s.heap) (R : Rm (n + 1) A) (hc : SG c) (h1 : c ≠ 173) :
    wpAny (model pw w) A (call (.ref 143) [.str (ws [c]) t]) (fun v s' => (∃ t, v = .str (ws (fld c)) t) ∧ Keeps s s') E s := by
  refine enter (f := 143) (name := S "map_table_b3") (qual := S "map_table_b3") (params := fA 16) (body := fB 16) (scope := fS 16) (binds := [(S "code", .str (ws [c]) t)]) G R rfl rfl (BindsTo.of_eq rfl) (locs rfl) ?_ rfl rfl rfl (by decide)
  intro L h₁ A' F N X T R' hh
  (with_unfolding_all show wpAny _ _ (execs (_ :: _) _) _ _ _)
  refine wpAny_execs_cons (wpAny_Assign_Name (Call_method1 (by rfl) (by rfl) (by rfl) (name_K F X T (by k_is) ?_)))
  have o98 : h₁.get? 98 = some (dOo D3) := F.keep _ _ (X 98 (dOo D3) rfl)
  refine ⟨"dict", "dict.get", PySem.F.plainAttrs_dict, PySem.F.slot_dict_get, PySem.F.type_dict_get, ⟨_, o98, rfl⟩, (fun a e => by cases e; exact ⟨_, o98, rfl⟩), ?_⟩
  refine wpAny_dict_get1 (knd := intKind pw w) (by decide) ?_
  refine Call_Name1 (name_B F X T (by k_is) (by boot_fast) (by decide) (PySem.callWith_builtin1 (ld F rfl (P.ord_of_char ?_))))
  refine ⟨(c : Int), _, by exact beq_self_eq_true _, map3 (X.keeps F.keep), ?_⟩
  rcases b3_find hc h1 with ⟨hl, e⟩ | ⟨u, e⟩
  · rw [e]
    refine stN F News.nil (fun h' F _ => ?_)
    refine wpAny_execs_cons (wpAny_If (wpAny_isTrue_Compare1 (ld F rfl (wpAny_Constant_none (isNot_none (wpAny_truthy_bool ?_))))))
    rw [if_neg (by decide)]
    obtain ⟨l1, l2⟩ := low_ascii hc hl
    refine wpAny_execs_nil (wpAny_execs_cons (wpAny_Return_some (Call_method0 (by rfl) (by rfl) (ld F rfl (SB.lower ?_ ?_)))))
    · rw [l2]; rcases hc with rfl | rfl | rfl | rfl | rfl | rfl | rfl | rfl | rfl | rfl | rfl | rfl <;> decide +kernel
    · rw [l2]; exact ⟨⟨_, rfl⟩, _, _, rfl, F.keep⟩
  · rw [e]
    refine stN F News.nil (fun h' F _ => ?_)
    refine wpAny_execs_cons (wpAny_If (wpAny_isTrue_Compare1 (ld F rfl (wpAny_Constant_none (isNot_none (wpAny_truthy_bool ?_))))))
    rw [if_pos (by rfl)]
    refine wpAny_execs_cons (wpAny_Return_some (ld F rfl ?_))
    exact ⟨⟨_, rfl⟩, _, _, rfl, F.keep⟩
section
variable {A : Around} {E : Value → Shared → Prop} {s : Shared} {Q : Value → Shared → Prop} {scope : Scope} {cl : List (Str × Addr)} {C : Addr} {env : Env} {x : Str} {pos : Pos} {v : Value} {K : Frag}
theorem ldG (X : K.In s.heap) (T : TopRead q lo mg mb s.heap) (e : nsIn K mainGlobals x = some (some v)) (h : Q v s)
    (hg : env.globals = mainGlobals := by rfl) (hk : scope.kind = .function := by with_unfolding_all rfl) (hx : (compEnvC scope cl C env).kindOf x = some .globalImplicit := by with_unfolding_all rfl) (hd : (x == ("__debug__" : Str)) = false := by decide) :
    wpAny (model pw w) A (eval (.Name x pos) (compEnvC scope cl C env)) Q E s :=
  Calls.Name_function_global hk hx (Calls.loadGlobal_global (env := compEnvC scope cl C env) (show s.heap.Ns env.globals mg from hg ▸ T.g) (mg_of X T.g e) h) hd
theorem ldB (X : K.In s.heap) (T : TopRead q lo mg mb s.heap) (e : nsIn K mainGlobals x = some none) (hv : bootBuiltins x = some v) (hn : x ≠ "__name__") (h : Q v s)
    (hg : env.globals = mainGlobals := by rfl) (hb : env.builtins = builtinsNs := by rfl) (hk : scope.kind = .function := by with_unfolding_all rfl) (hx : (compEnvC scope cl C env).kindOf x = some .globalImplicit := by with_unfolding_all rfl) (hd : (x == ("__debug__" : Str)) = false := by decide) :
    wpAny (model pw w) A (eval (.Name x pos) (compEnvC scope cl C env)) Q E s :=
  Calls.Name_function_global hk hx (Calls.loadGlobal_builtin (env := compEnvC scope cl C env) (show s.heap.Ns env.globals mg from hg ▸ T.g) (mg_none_of X T.g e) (show s.heap.Ns env.builtins mb from hb ▸ T.b) ((T.builtins x hn).trans hv) h) hd
end
/-- the sign of a text of one sign -/
noncomputable def natC : Value → Nat
  | .str x _ => x.cps.getD 0 0
  | _ => 0
theorem paired_str {R : Nat → Value → Prop} (pz : Nat → Bool) : ∀ (vs : List Value) (text : List Nat), vs.length = text.length → (∀ (j : Nat) (v : Value), vs[j]? = some v → ∃ c t, text[j]? = some c ∧ v = Value.str (ws [c]) t) → ∀ ys, Paired (fun v y => R (natC v) y) (vs.filter fun v => pz (natC v)) ys → Paired R (text.filter pz) ys
  | [], [], _, _, ys, h => by cases h; exact .nil
  | [], _ :: _, e, _, _, _ => by cases e
  | _ :: _, [], e, _, _, _ => by cases e
  | v :: vs, c :: text, el, hv, ys, h => by
    obtain ⟨c', t, e1, rfl⟩ := hv 0 v rfl
    cases e1
    have e : natC (Value.str (ws [c]) t) = c := rfl
    have hv' : ∀ (j : Nat) (v : Value), vs[j]? = some v → ∃ c t, text[j]? = some c ∧ v = Value.str (ws [c]) t := fun j v hj => hv (j + 1) v hj
    rw [List.filter_cons]
    rw [List.filter_cons, e] at h
    by_cases hp : pz c = true
    · rw [if_pos hp] at h ⊢
      cases h with
      | cons ha hr => exact .cons ha (paired_str pz vs text (Nat.succ.inj el) hv' _ hr)
    · rw [if_neg hp] at h ⊢
      exact paired_str pz vs text (Nat.succ.inj el) hv' _ h
theorem comp_str {A : Around} {E : Value → Shared → Prop} {s : Shared} (hh : A.handled = none) {env : Env} {elt iter : Expr} {x : Str} {px pos : Pos} {ifs : List Expr} {scope : Scope} {cl : List (Str × Addr)} {Q : Value → Shared → Prop} (pz : Nat → Bool) (R : Nat → Value → Prop)
    (hclos : closureFor scope env = pure cl) (hcell : ∀ y ∈ scope.names, y.2 ≠ .cell) (hkind : scope.kind = .function)
    (hnames : ∀ y ∈ scope.names, y.2 = .local → scope.names.lookup y.1 = some .local) (hx : scope.names.lookup x = some .local)
    (h : wpAny (model pw w) A (eval iter env) (fun xv s₁ => ∃ (text : List Nat) (t : Tok), xv = .str (ws text) t ∧ text.length ≤ 1000 ∧
      (∀ C c tp s₃ m₃ E', c ∈ text → s₃.heap.Ns C m₃ → m₃ x = some (.str (ws [c]) tp) → Kp s₁.heap s₃.heap →
        wpAny (model pw w) A (forIn ifs true fun c r => if r = true then do let ok ← isTrue c (compEnvC scope cl C env) (eval c (compEnvC scope cl C env)); pure (ForInStep.yield ok) else pure (ForInStep.yield r)) (fun ok s₄ => ok = pz c ∧ Keeps s₃ s₄) E' s₃) ∧
      (∀ C c tp s₃ m₃ E', c ∈ text → pz c = true → s₃.heap.Ns C m₃ → m₃ x = some (.str (ws [c]) tp) → Kp s₁.heap s₃.heap → wpAny (model pw w) A (eval elt (compEnvC scope cl C env)) (fun y s₄ => R c y ∧ Keeps s₃ s₄) E' s₃) ∧
      (∀ D h' tk ys, s₁.heap.get? D = none → h'.IsList D ys → h'.PlainList D ys → Paired R (text.filter pz) ys.toList → Kp s₁.heap h' → Q (.ref D) { s₁ with heap := h', toks := tk })) E s)
    (hs : ∀ x, foldedSetIterable iter env x = pure x := by intro _; rfl) :
    wpAny (model pw w) A (eval (.ListComp elt [⟨.Name x px, iter, ifs, 0⟩] scope pos) env) Q E s := by
  refine wpAny_ListComp_free (cl := cl) (fun v => pz (natC v)) (fun v y => R (natC v) y) hclos hcell hkind hnames hx (wpAny_mono h (fun xv s₁ h₁ => ?_) fun _ _ e => e) hs
  obtain ⟨text, t, rfl, hn, ht, he, hf⟩ := h₁
  refine wpAny_pyIter_str fun o St W h0 => ?_
  have sz : (ws text).cps.size = text.length := by simp [ws]
  have hI := size_none s₁.heap
  have up : ∀ {h' : Heap}, (∀ b o', b ∉ [s₁.heap.objs.size] → (s₁.heap.push o).get? b = some o' → h'.get? b = some o') → Kp s₁.heap h' := fun hk b o' e =>
    hk b o' (fun hm => by have : b = s₁.heap.objs.size := by simpa using hm
                          rw [this, hI] at e; cases e) (Heap.get?_push_of_some _ e)
  have sa : ∀ i v, SignAt (ws text) i v → ∃ c tp, text[i]? = some c ∧ v = .str (ws [c]) tp := by
    rintro i v ⟨c, u, e, rfl⟩
    refine ⟨c, u, ?_, rfl⟩
    have : (text.toArray)[i]? = some c := e
    rwa [List.getElem?_toArray] at this
  refine ⟨s₁.heap.objs.size, _, _, (ws text).cps.size, _, _, rfl, W A hh, ?_, h0, ?_, ?_, ?_⟩
  · rw [sz]; exact Nat.le_trans hn (by decide)
  · intro b hb
    have : b = s₁.heap.objs.size := by simpa using hb
    rw [this, Heap.size_push]; exact Nat.lt_succ_self _
  · constructor
    · intro C i v s3 m3 E' hC hP hns hm hk htk
      obtain ⟨c, tp, hi, rfl⟩ := sa i v hP
      exact ht C c tp s3 m3 E' (List.mem_of_getElem? hi) hns hm (up hk)
    · intro C i v s3 m3 E' hC hP hp hns hm hk htk
      obtain ⟨c, tp, hi, rfl⟩ := sa i v hP
      exact he C c tp s3 m3 E' (List.mem_of_getElem? hi) hp hns hm (up hk)
  · intro D h' tk ys vs hD hl hpl hlen hP hpair hk
    have hD' : s₁.heap.get? D = none := by
      cases e : s₁.heap.get? D with
      | none => rfl
      | some o' => rw [Heap.get?_push_of_some _ e] at hD; cases hD
    exact hf D h' tk ys hD' hl hpl (paired_str pz vs text (by rw [hlen, sz]) (fun j v hj => sa j v (hP j v hj)) _ hpair) (up hk)
noncomputable def foldF (x : List Nat) : List Nat := ((x.filter fun c => !(c == 173)).map fld).flatten
theorem strs_fld : ∀ (l : List Nat) (ys : List Value), Paired (fun c y => ∃ t, y = Value.str (ws (fld c)) t) l ys → StrsAre ys ((l.map fld).map ws)
  | [], ys, h => by cases h; exact .nil
  | i :: l, ys, h => by
    cases h with
    | cons ha hr => obtain ⟨t, rfl⟩ := ha; exact .cons _ t (strs_fld l _ hr)
theorem fld_len (c : Nat) : (fld c).length ≤ 2 := by
  unfold fld
  cases e : fldT.find? (fun e => e.1 == c) with
  | none => exact Nat.zero_le _
  | some p =>
    have := List.mem_of_find?_eq_some e
    show p.2.length ≤ 2
    exact (by decide : ∀ p ∈ fldT, p.2.length ≤ 2) p this
theorem sum_fld : ∀ l : List Nat, (((l.map fld).map ws).map (·.length)).sum ≤ 2 * l.length
  | [] => Nat.le_refl _
  | c :: l => by
    have := sum_fld l
    have h2 := fld_len c
    show (ws (fld c)).length + List.sum _ ≤ 2 * (l.length + 1)
    rw [ws_len]
    omega
theorem folded {A : Around} {E : Value → Shared → Prop} {s : Shared} {n : Nat} {x : List Nat} {t : Tok} (G : Gd w q lo mg mb s.heap) (R : Rm (n + 2) A)
    (hA : A.handled = none) (hx : x.length ≤ 100) (hc : ∀ c ∈ x, SG c) :
    wpAny (model pw w) A (call (.ref 305) [.str (ws x) t]) (fun v s' => (∃ t, v = .str (ws (foldF x)) t) ∧ Keeps s s') E s := by
  refine enter (f := 305) (name := S "_law_folded") (qual := S "_law_folded") (params := fA 25) (body := fB 25) (scope := fS 25) (binds := [(S "text", .str (ws x) t)]) G R rfl rfl (BindsTo.of_eq rfl) (locs rfl) ?_ rfl rfl rfl (by decide)
  intro L h₁ A' F N X T R' hh
  rw [hA] at hh
  (with_unfolding_all show wpAny _ _ (execs (_ :: _) _) _ _ _)
  refine wpAny_execs_cons (wpAny_Return_some (joinC (by rfl) (by rfl) ?_))
  refine comp_str (Q := ?Q) hh (cl := []) (fun c => !(c == 173)) (fun c y => ∃ t, y = Value.str (ws (fld c)) t) ?_ ?_ ?_ ?_ ?_ ?_ ?_
  · rfl
  · decide
  · rfl
  · decide
  · decide
  · refine ld F rfl ⟨x, _, rfl, by omega, ?_, ?_, ?_⟩
    · intro C c tp s3 m3 E' hi hns hm k3
      refine wpAny_tests_one ?_
      have G3 : Gd w q lo mg mb s3.heap := Gd.keeps (Gd.keeps ⟨X, T⟩ F.keep) k3
      refine wpAny_isTrue_Not (wpAny_isTrue_value (Call_ (ldG G3.X G3.T (by k_is) (PyProof.Rows.callWith_def rfl (wpAny_items_cons (ldV hns hm (wpAny_items_nil (⟨G3.X _ _ rfl, ?_⟩))))))))
      refine wpAny_mono (in_b1 (E := E') G3 R' (hc c hi)) (fun v' s' hv => ?_) fun _ _ e => e
      obtain ⟨rfl, hk⟩ := hv
      exact wpAny_truthy_bool (⟨rfl, hk⟩)
    · intro C c tp s3 m3 E' hi hp hns hm k3
      have G3 : Gd w q lo mg mb s3.heap := Gd.keeps (Gd.keeps ⟨X, T⟩ F.keep) k3
      refine Call_ (ldG G3.X G3.T (by k_is) (PyProof.Rows.callWith_def rfl (wpAny_items_cons (ldV hns hm (wpAny_items_nil (⟨G3.X _ _ rfl, ?_⟩))))))
      exact map_b3 (E := E') G3 R' (hc c hi) (by simpa using hp)
    · intro D h' tk' ys hD hl hpl hp k3
      refine ⟨D, ys, _, rfl, hl, strs_fld _ _ hp, ?_, ?_⟩
      · have h1 := sum_fld (x.filter fun c => !(c == 173))
        have h2 := List.length_filter_le (fun c => !(c == 173)) x
        rw [List.length_map, List.length_map]
        show _ + _ * 0 ≤ _
        omega
      · intro t' k'
        refine ⟨⟨t', ?_⟩, _, _, rfl, fun b o e => k3 _ _ (F.keep _ _ e)⟩
        rw [join_ws]; rfl
  · intro _; rfl
end Mine
end

section
open PySem PySem.W PyProof.Rows PySem.Calls
set_option Elab.async false
set_option maxRecDepth 100000
set_option maxHeartbeats 2000000
namespace Mine
variable {w : World} {mg mb : Str → Option Value} {q : Program} {lo : List Str}
section
theorem pa_re : PlainAttrs "re.Pattern" :=
  ⟨⟨"object.__getattribute__", by rw [typeLookup_type, builtinLookup_eq_fast]; kernel_rfl, by decide +kernel⟩, by rw [typeLookup_type, builtinLookup_eq_fast]; kernel_rfl⟩
theorem sl_re : Slot "re.Pattern" "search" "re.Pattern.search" :=
  .of (owner := "re.Pattern") (n := "search") (by rw [typeLookup_type, builtinLookup_eq_fast]; kernel_rfl) (by decide +kernel) (by decide +kernel) (by decide +kernel)
    (by first | exact .inl (by decide +kernel) | exact .inr (by decide +kernel)) (by rw [isSubtype_type]; kernel_rfl)
theorem ty_re : typeOf (.builtin "re.Pattern.search") = pure (.type "method_descriptor") := by show builtinType _ = _; rw [builtinType_eq_fast]; kernel_rfl
theorem en_re : entryFor table "re.Pattern.search" = some Builtin.«re.Pattern.search» := entryFor_of_tree (by kernel_rfl)
theorem owner_re : Manifest.owners.lookup (String.ofList ['n', 'r', 'e', 't', 't', 'a', 'P', '.', 'e', 'r'].reverse) = some Manifest.sig_re_Pattern := by kernel_rfl
theorem args_re (a b : Value) : argsOk "re.Pattern.search" ⟨[a, b], []⟩ := by
  unfold argsOk; rw [signature?_of (id := "re.Pattern.search") (n := ['h', 'c', 'r', 'a', 'e', 's']) (o := ['n', 'r', 'e', 't', 't', 'a', 'P', '.', 'e', 'r']) (by kernel_rfl) owner_re]; kernel_rfl
end
theorem runs_no (m : Sre.M) (h1 : m.outcome = none) (h2 : m.answer = some false) (h3 : m.frames = []) : (m.runFor 4).outcome = some .failed := by
  cases m; cases h1; cases h2; cases h3; rfl
/-- no sign of the text is in the set at the head of the code -/
noncomputable def NoHit (code : Array Nat) (c : Nat) : Prop := ∀ seen : Sre.Seen, ∃ seen', Sre.inSet code c code.size 5 true seen = .ok (false, seen')
theorem admitted_no (m : Sre.M) (h : ∀ i, i < m.lim → NoHit m.code (m.text.getD i 0)) : ∀ (fuel k : Nat) (seen : Sre.Seen), ∃ seen', m.admitted fuel k seen = .ok (none, seen')
  | 0, _, seen => ⟨seen, rfl⟩
  | fuel + 1, k, seen => by
    unfold Sre.M.admitted
    by_cases e : k ≥ m.lim
    · exact ⟨seen, by rw [if_pos e]⟩
    · rw [if_neg e]
      obtain ⟨s', e'⟩ := h k (by omega) seen
      rw [e']
      exact admitted_no m h fuel (k + 1) s'
theorem attemptFrom_no (m : Sre.M) (hf : m.hasFirstSet = true) (h : ∀ i, i < m.lim → NoHit m.code (m.text.getD i 0)) (ho : m.outcome = none) (hfr : m.frames = []) (k : Nat) (b : Bool) : ((m.attemptFrom k b).runFor 4).outcome = some .failed := by
  unfold Sre.M.attemptFrom
  rw [hf]
  simp only [Bool.not_true, Bool.false_eq_true, if_false]
  obtain ⟨s', e'⟩ := admitted_no m h (m.lim + 1 - k) k m.seen
  rw [e']
  exact runs_no _ ho rfl hfr
theorem search_no (code text : Array Nat) (h0 : Sre.ops[code.getD 0 0]? = some .INFO) (h2 : code.getD 2 0 = 4) (h3 : code.getD 3 0 = 1) (h : ∀ i, i < text.size → NoHit code (text.getD i 0)) :
    ((Sre.forSearch code text 0 0 text.size false).runFor 4).outcome = some .failed := by
  unfold Sre.forSearch
  have hd : Sre.header code = (1, 1 + code.getD 1 0) := by unfold Sre.header; rw [h0, ← h3]
  rw [hd]
  dsimp only
  by_cases e : (decide (0 > text.size) || decide (text.size - 0 < 1)) = true
  · rw [if_pos e]
    exact runs_no _ rfl rfl rfl
  · rw [if_neg e]
    have hf : ∀ m : Sre.M, m.code = code → m.hasFirstSet = true := by
      intro m em
      unfold Sre.M.hasFirstSet
      rw [em, h0, h2]; rfl
    exact attemptFrom_no _ (hf _ rfl) (fun i hi => h i hi) rfl rfl _ _
section
variable {A : Around} {E : Value → Shared → Prop} {s : Shared}
theorem wpAny_rules (m : Sre.M) {Q : PUnit → Shared → Prop} : ∀ (l : List Nat), Q () s → wpAny (model pw w) A (forIn l PUnit.unit fun i _ => do
    if m.seen.has i = true then rule (Sre.names.getD i "")
    pure (ForInStep.yield PUnit.unit)) Q E s := by
  intro l
  induction l with
  | nil => intro h; exact wpAny_pure h
  | cons a r ih =>
    intro h
    rw [List.forIn_cons]
    refine wpAny_bind ?_
    dsimp only
    split
    · exact wpAny_bind (wpAny_rule (wpAny_pure (ih h)))
    · exact wpAny_pure (ih h)
theorem fieldsOf_w {a : Addr} {o : Obj} {fs : Array Value} {Q : Array Value → Shared → Prop} (ho : s.heap.get? a = some o) (hd : o.data = .fields fs) (h : Q fs s) : wpAny (model pw w) A (fieldsOf (.ref a)) Q E s := by
  unfold fieldsOf
  refine wpAny_bind (wpAny_load ho ?_)
  rw [hd]; exact wpAny_pure h
theorem reText_w {x : Str} {t : Tok} {Q : Array Nat × Nat → Shared → Prop} (h : Q (x.cps, 0) s) : wpAny (model pw w) A (Builtin.Re.reTextOf (.str x t)) Q E s := by
  unfold Builtin.Re.reTextOf
  refine wpAny_bind (wpAny_pure ?_)
  exact wpAny_pure h
theorem rawItems_w {a : Addr} {o : Obj} {xs : Array Value} {k : Nat} {Q : Array Int → Shared → Prop} (ho : s.heap.get? a = some o) (hd : o.data = .seq xs k) (h : Q (xs.map Builtin.Re.reRawOf) s) : wpAny (model pw w) A (Builtin.Re.reRawItems (.ref a)) Q E s := by
  unfold Builtin.Re.reRawItems seqItems?
  refine wpAny_bind (wpAny_bind (wpAny_load ho ?_))
  rw [hd]
  exact wpAny_pure (wpAny_pure h)
theorem runToEnd_w {m : Sre.M} {Q : Option Sre.M → Shared → Prop} (hm : (m.runFor 4).outcome = some .failed) (h : Q none s) : wpAny (model pw w) A (Builtin.Re.reRunToEnd m) Q E s := by
  unfold Builtin.Re.reRunToEnd
  refine wpAny_bind ?_
  show wpAny _ _ (Builtin.Re.reDrive (18446744073709551615 + 1) m) _ _ _
  unfold Builtin.Re.reDrive
  dsimp only
  have h4 : m.runFor Builtin.Re.reTurnSteps = m.runFor 4 := rfl
  rw [h4, hm]
  refine wpAny_pure ?_
  refine wpAny_bind (wpAny_rules _ _ ?_)
  rw [hm]
  exact wpAny_pure h
theorem search_call {a cd : Addr} {x : Str} {t : Tok} {o oc : Obj} {fs : Array Value} {code : Array Value} {k : Nat} {Q : Value → Shared → Prop} {cn : Array Nat}
    (ho : s.heap.get? a = some o) (hT : o.cls = .type "re.Pattern") (hd : o.data = .fields fs) (hk : fs.getD 6 .none = .int 0 0) (hg : fs.getD 2 .none = .int 0 0) (hc : fs.getD 5 .none = .ref cd)
    (hoc : s.heap.get? cd = some oc) (hdc : oc.data = .seq code k) (hcn : (code.map Builtin.Re.reRawOf).map (·.toNat) = cn)
    (h0 : Sre.ops[cn.getD 0 0]? = some .INFO) (h2 : cn.getD 2 0 = 4) (h3 : cn.getD 3 0 = 1)
    (h : ∀ i, i < x.cps.size → NoHit cn (x.cps.getD i 0)) (hx : x.cps.size ≤ 1000) (hQ : Q .none s) :
    wpAny (model pw w) A (call (.builtin "re.Pattern.search") [.ref a, .str x t]) Q E s := by
  refine wpAny_call_entry sl_re ⟨o, ho, hT⟩ en_re ?_ (args_re _ _)
  unfold Builtin.«re.Pattern.search» Builtin.Re.reTarget
  refine wpAny_bind ?_
  have hn : Builtin.Re.reNamed "re.Pattern.search" "search" ["string", "pos", "endpos"] 1 [.str x t] [] = pure [some (.str x t), none, none] := by kernel_rfl
  simp only [hn]
  refine wpAny_bind (wpAny_pure ?_)
  dsimp only
  refine wpAny_bind (wpAny_pure ?_)
  refine wpAny_bind (wpAny_pure ?_)
  refine wpAny_bind (fieldsOf_w ho hd ?_)
  refine wpAny_bind (reText_w ?_)
  rw [hk, hg, hc]
  refine wpAny_bind (wpAny_pure ?_)
  refine wpAny_bind (rawItems_w hoc hdc ?_)
  refine wpAny_pure ?_
  have hl : min (((2 : Int) ^ 63 - 1).toNat) x.cps.size = x.cps.size := Nat.min_eq_right (Nat.le_trans hx (by decide))
  dsimp only
  unfold Builtin.Re.reAnswer
  refine wpAny_bind (runToEnd_w ?_ ?_)
  · rw [hl, hcn]
    have := search_no _ x.cps h0 h2 h3 h
    exact this
  · exact wpAny_pure ⟨_, rfl, hQ⟩
end
/-- signs that no header refuses -/
noncomputable def SafeC (c : Nat) : Prop := c ∈ [102, 105, 108, 70, 73, 76, 45, 48, 49, 50, 51, 52, 53, 54, 55, 56, 57]
noncomputable def codeN : Array Nat := #[14, 10, 4, 1, 1, 22, 0, 31, 16, 127, 0, 13, 7, 22, 0, 31, 16, 127, 0, 1]
noncomputable def codeV : Array Nat := #[14, 14, 4, 1, 1, 9, 4294966783, 0, 0, 2147483648, 0, 0, 0, 0, 0, 13, 11, 9, 4294966783, 0, 0, 2147483648, 0, 0, 0, 0, 0, 1]
theorem noN {c : Nat} (h : SafeC c) : NoHit codeN c := by
  intro seen
  refine ⟨((seen.add 22).add 16).add 0, ?_⟩
  simp only [SafeC, List.mem_cons, List.not_mem_nil, or_false] at h
  rcases h with rfl | rfl | rfl | rfl | rfl | rfl | rfl | rfl | rfl | rfl | rfl | rfl | rfl | rfl | rfl | rfl | rfl <;> kernel_rfl
theorem noV {c : Nat} (h : SafeC c) : NoHit codeV c := by
  intro seen
  refine ⟨(seen.add 9).add 0, ?_⟩
  simp only [SafeC, List.mem_cons, List.not_mem_nil, or_false] at h
  rcases h with rfl | rfl | rfl | rfl | rfl | rfl | rfl | rfl | rfl | rfl | rfl | rfl | rfl | rfl | rfl | rfl | rfl <;> kernel_rfl
end Mine
end

section
open PySem PySem.W PyProof.Rows PySem.Calls
set_option Elab.async false
set_option maxRecDepth 100000
set_option maxHeartbeats 2000000
namespace Mine
variable {w : World} {mg mb : Str → Option Value} {q : Program} {lo : List Str}
theorem fill8 : (fun (_ : OpenLaw) (_ : Params → Frag) => True) PySem.Challenge.rw_uq0030_01 Kx := by k_fill; trivial
section
variable {A : Around} {E : Value → Shared → Prop} {s : Shared}
noncomputable def Safe (x : List Nat) : Prop := x.length ≤ 8 ∧ ∀ c ∈ x, SafeC c
theorem safe_get {x : List Nat} (h : Safe x) {i : Nat} (hi : i < (ws x).cps.size) : SafeC ((ws x).cps.getD i 0) := by
  have hi' : i < x.length := by simpa [ws] using hi
  have e : (ws x).cps.getD i 0 = x[i] := by simp [ws, Array.getD, hi']
  rw [e]; exact h.2 _ (List.getElem_mem hi')
theorem safe_sz {x : List Nat} (h : Safe x) : (ws x).cps.size ≤ 1000 := by
  have := h.1
  have e : (ws x).cps.size = x.length := by simp [ws]
  omega
theorem searchN {x : List Nat} {t : Tok} {Q : Value → Shared → Prop} (X : (Kx w.params).In s.heap) (hx : Safe x) (h : Q .none s) : wpAny (model pw w) A (call (.builtin "re.Pattern.search") [.ref 153, .str (ws x) t]) Q E s :=
  search_call (X 153 (o_153 w.params) rfl) rfl rfl rfl rfl rfl (X 152 (o_152 w.params) rfl) rfl (cn := codeN) (by kernel_rfl) (by kernel_rfl) (by decide) (by decide) (fun i hi => noN (safe_get hx hi)) (safe_sz hx) h
theorem searchV {x : List Nat} {t : Tok} {Q : Value → Shared → Prop} (X : (Kx w.params).In s.heap) (hx : Safe x) (h : Q .none s) : wpAny (model pw w) A (call (.builtin "re.Pattern.search") [.ref 158, .str (ws x) t]) Q E s :=
  search_call (X 158 (o_158 w.params) rfl) rfl rfl rfl rfl rfl (X 157 (o_157 w.params) rfl) rfl (cn := codeV) (by kernel_rfl) (by kernel_rfl) (by decide) (by decide) (fun i hi => noV (safe_get hx hi)) (safe_sz hx) h
theorem conv {n : Nat} {p : Addr} {x : List Nat} {t : Tok} {b : Bool} (G : Gd w q lo mg mb s.heap) (R : Rm (n + 1) A) (hx : Safe x) :
    wpAny (model pw w) A (call (.ref 188) [.ref p, .str (ws x) t] [(S "name", .bool b)]) (fun v s' => v = .str (ws x) t ∧ Keeps s s') E s := by
  refine enter (f := 188) (name := S "_convert_string_type") (qual := S "Headers._convert_string_type") (params := mA 22 1) (body := mB 22 1) (scope := mS 22 1) (binds := [(S "self", .ref p), (S "value", .str (ws x) t), (S "name", .bool b)]) G R rfl rfl (BindsTo.of_eq rfl) (locs rfl) ?_ rfl rfl rfl (by decide)
  intro L h₁ A' F N X T R' hh
  (with_unfolding_all show wpAny _ _ (execs (_ :: _) _) _ _ _)
  refine wpAny_execs_cons (wpAny_If (wpAny_isTrue_Compare1 (Call_Name1 (name_B F X T (by k_is) (by boot_fast) (by decide) (PySem.callWith_type1 (ld F rfl (call_type_of (Tx := "str") (typeIs_str _ _ _) (by decide) (name_B F X T (by k_is) (by boot_fast) (by decide) (wpAny_is_self rfl (wpAny_truthy_bool ?_))))))))))
  rw [if_pos rfl]
  refine wpAny_execs_cons (wpAny_Assign_Name (wpAny_IfExp (wpAny_isTrue_value (ld F rfl (wpAny_truthy_bool ?_)))))
  cases b with
  | true =>
    rw [if_pos rfl]
    refine name_K F X T (by k_is) (stN F News.nil (fun h' F _ => ?_))
    have X' := X.keeps F.keep
    refine wpAny_execs_cons (wpAny_If (wpAny_isTrue_value (Call_method1 (by rfl) (by rfl) (by rfl) (ld F rfl ?_))))
    refine mOn1 pa_re sl_re ty_re ⟨_, X' 153 (o_153 w.params) rfl, rfl⟩ (fun a e => by cases e; exact ⟨_, X' 153 (o_153 w.params) rfl, rfl⟩) ?_
    refine ld F rfl (searchN X' hx ?_)
    refine truthy_none ?_
    rw [if_neg (by decide)]
    refine wpAny_execs_nil (wpAny_execs_cons (wpAny_Return_some (ld F rfl ?_)))
    exact ⟨rfl, _, _, rfl, F.keep⟩
  | false =>
    rw [if_neg (by decide)]
    refine name_K F X T (by k_is) (stN F News.nil (fun h' F _ => ?_))
    have X' := X.keeps F.keep
    refine wpAny_execs_cons (wpAny_If (wpAny_isTrue_value (Call_method1 (by rfl) (by rfl) (by rfl) (ld F rfl ?_))))
    refine mOn1 pa_re sl_re ty_re ⟨_, X' 158 (o_158 w.params) rfl, rfl⟩ (fun a e => by cases e; exact ⟨_, X' 158 (o_158 w.params) rfl, rfl⟩) ?_
    refine ld F rfl (searchV X' hx ?_)
    refine truthy_none ?_
    rw [if_neg (by decide)]
    refine wpAny_execs_nil (wpAny_execs_cons (wpAny_Return_some (ld F rfl ?_)))
    exact ⟨rfl, _, _, rfl, F.keep⟩
end
end Mine
end

section
open PySem PySem.W PyProof.Rows PySem.Calls
set_option Elab.async false
set_option maxRecDepth 100000
set_option maxHeartbeats 2000000
namespace Mine
variable {w : World} {mg mb : Str → Option Value} {q : Program} {lo : List Str}
section
variable {A : Around} {E : Value → Shared → Prop} {s : Shared} {env : Env}
/-- a loop over a list that stays as it is -/
theorem For_list (hh : A.handled = none) {target iter : Expr} {pos : Pos} {body : List Stmt} {Q : Flow → Shared → Prop}
    (h : wpAny (model pw w) A (eval iter env) (fun xv s₁ => ∃ (ax : Addr) (items : Array Value), xv = .ref ax ∧ s₁.heap.IsList ax items ∧ ∃ Inv : Nat → Shared → Prop,
      (∀ h', Kp s₁.heap h' → Inv 0 { s₁ with heap := h' }) ∧
      (∀ k v s₀ h' tk I io oa E', items[k]? = some v → Inv k s₀ → (∀ b o, b ≠ I → s₀.heap.get? b = some o → h'.get? b = some o) → h'.get? I = some io → s₁.heap.get? I = none → h'.get? ax = some oa → h'.IsList ax items →
        wpAny (model pw w) A (assign target env v) (fun _ s₃ => wpAny (model pw w) A (execs body env) (fun f s₄ => match f with
          | .next | .cont => Inv (k + 1) s₄ ∧ s₄.heap.get? I = some io ∧ s₄.heap.get? ax = some oa
          | .brk => Q .next s₄
          | .ret v => Q (.ret v) s₄) E' s₃) E' { s₀ with heap := h', toks := tk }) ∧
      (∀ s₀ h' tk I, Inv items.size s₀ → (∀ b o, b ≠ I → s₀.heap.get? b = some o → h'.get? b = some o) → s₁.heap.get? I = none → Q .next { s₀ with heap := h', toks := tk })) E s)
    (hs : ∀ x, foldedSetIterable iter env x = pure x := by intro _; rfl) : wpAny (model pw w) A (exec (.For target iter body [] pos) env) Q E s := by
  refine wpAny_For (wpAny_mono h (fun xv s₁ h₁ => ?_) fun _ _ e => e) hs
  obtain ⟨ax, items, rfl, hl, Inv, h0, turn, fin⟩ := h₁
  have hlt : ax < s₁.heap.objs.size := by obtain ⟨o, ho, _⟩ := hl; exact Heap.lt_size ho
  have hne : ax ≠ s₁.heap.objs.size := Nat.ne_of_lt hlt
  refine wpAny_pyIter_list hl ?_
  have W := Walks.list (prog := pw) (w := w) hh s₁.heap.objs.size ax hne items
  refine codeAny_forLoop_any (fun m s => ∃ k, k + m = items.size ∧ Inv k s ∧ (s.heap.IsListIter s₁.heap.objs.size ax k ∧ s.heap.IsList ax items)) (fun m s hI => ?_) items.size ⟨0, by omega, h0 _ (fun b o e => Heap.get?_push_of_some _ e), ⟨_, Heap.get?_push_size _ rfl, rfl, rfl⟩, lst_of (fun o e => Heap.get?_push_of_some _ e) hl⟩
  obtain ⟨k, e, hi, hst⟩ := hI
  cases m with
  | zero =>
    have : k = items.size := by omega
    subst this
    refine W.done _ _ _ hst fun h' tk hf => ?_
    exact wpAny_execs_nil (fin s h' tk s₁.heap.objs.size hi (fun b o hb => hf b o (by simpa using hb)) (size_none _))
  | succ m =>
    refine W.item k _ _ _ (by omega) hst fun v h' tk hp hst' hf => ?_
    refine letGo_listiter hst'.1 ?_
    obtain ⟨io, hio, hio2⟩ := hst'.1
    obtain ⟨oa, hoa, hoa2⟩ := hst'.2
    refine wpAny_mono (turn k v s h' tk s₁.heap.objs.size io oa _ hp hi (fun b o hb => hf b o (by simpa using hb)) hio (size_none _) hoa hst'.2) (fun _ s₃ h₃ => wpAny_mono h₃ (fun f s₄ h₄ => ?_) fun _ _ e => e) fun _ _ e => e
    cases f with
    | next => exact ⟨m, by omega, k + 1, by omega, h₄.1, ⟨io, h₄.2.1, hio2⟩, ⟨oa, h₄.2.2, hoa2⟩⟩
    | cont => exact ⟨m, by omega, k + 1, by omega, h₄.1, ⟨io, h₄.2.1, hio2⟩, ⟨oa, h₄.2.2, hoa2⟩⟩
    | brk => exact h₄
    | ret v => exact h₄
/-- a pair is laid under two names -/
theorem pair_ {name : Str} {scope : Scope} {L a : Addr} {cd : Value} {h₀ : Heap} {m : Str → Option Value} {x y : Str} {px py pos : Pos} {k : Nat} {T : Addr} {v1 v2 : Value} {Q : Unit → Shared → Prop} (hh : A.handled = none) (F : Fr h₀ L s.heap m) (ht : s.heap.IsTuple T #[v1, v2])
    (h : ∀ h' tk, Fr h₀ L h' (fun z => if z = y then some v2 else if z = x then some v1 else m z) → (∀ b o, b ≠ L → s.heap.get? b = some o → h'.get? b = some o) → Q () { s with heap := h', toks := tk })
    (hk : scope.kind = .function := by rfl) (hx : (envOf name scope L a cd).kindOf x = some .local := by rfl) (hy : (envOf name scope L a cd).kindOf y = some .local := by rfl) :
    wpAny (model pw w) A (assign (.Tuple [.Name x px, .Name y py] k pos) (envOf name scope L a cd) (.ref T)) Q E s := by
  refine wpAny_assign_Tuple hh ht (by rfl) (by rfl) fun h' he => ?_
  have F1 := F.extBut he (Nat.le_refl _)
  refine wpAny_assignInOrder_more (assign_Name (stS F1 (fun h2 F2 s2 => ?_) hk hx))
  refine wpAny_assignInOrder_more (assign_Name (stS F2 (fun h3 F3 s3 => ?_) hk hy))
  refine wpAny_assignInOrder_none (h h3 _ F3 fun b o hb e => (s3.2 b hb).trans ((s2.2 b hb).trans (he b o ?_ e)))
  exact Nat.ne_of_lt (Heap.lt_size e)
theorem ldN {name : Str} {scope : Scope} {L a : Addr} {cd : Value} {m : Str → Option Value} {x : Str} {pos : Pos} {v : Value} {Q : Value → Shared → Prop} (F : s.heap.Ns L m) (hv : m x = some v) (h : Q v s)
    (hl : (envOf name scope L a cd).kindOf x = some .local := by rfl) (hd : (x == ("__debug__" : Str)) = false := by decide) (hk : scope.kind = .function := by rfl) : wpAny (model pw w) A (eval (.Name x pos) (envOf name scope L a cd)) Q E s :=
  wpAny_Name (wpAny_loadName_local hk hl F hv h) hd
end
/-- a table of headers -/
noncomputable def HdO (h : Heap) (p dx l : Addr) : Prop := h.get? p = some ⟨.ref 289, some dx, .plain, #[]⟩ ∧ ∃ hh t n, h.get? dx = some (dictOf [⟨hh, .str (S "_headers") t, .ref l⟩] n)
noncomputable def Ent (h : Heap) (e : List Nat × List Nat) (y : Value) : Prop := ∃ T t u, y = .ref T ∧ h.IsTuple T #[.str (ws e.1) t, .str (ws e.2) u]
noncomputable def HdL (h : Heap) (l : Addr) (ents : List (List Nat × List Nat)) : Prop := ∃ items, PlainL h l items ∧ Paired (Ent h) ents items.toList
theorem HdO.keeps {h h' : Heap} {p dx l : Addr} (x : HdO h p dx l) (k : Kp h h') : HdO h' p dx l := by
  obtain ⟨a, hh, t, n, b⟩ := x; exact ⟨k _ _ a, hh, t, n, k _ _ b⟩
theorem Ent.keeps {h h' : Heap} {e} {y} (x : Ent h e y) (k : Kp h h') : Ent h' e y := by
  obtain ⟨T, t, u, rfl, o, ho, r⟩ := x; exact ⟨T, t, u, rfl, o, k _ _ ho, r⟩
theorem HdL.keeps {h h' : Heap} {l : Addr} {ents} (x : HdL h l ents) (k : Kp h h') : HdL h' l ents := by
  obtain ⟨items, a, b⟩ := x; exact ⟨items, a.keeps k, b.mono fun _ _ y => y.keeps k⟩
theorem HdO.inst {h : Heap} {p dx l : Addr} (x : HdO h p dx l) : ∃ hh t n, InstAt h p ⟨.ref 289, some dx, .plain, #[]⟩ 289 (some (dictOf [⟨hh, .str (S "_headers") t, .ref l⟩] n)) := by
  obtain ⟨a, hh, t, n, b⟩ := x; exact ⟨hh, t, n, a, rfl, rfl, b⟩
theorem fill9 : (fun (_ : OpenLaw) (_ : Params → Frag) => True) PySem.Challenge.rw_uq0030_01 Kx := by k_fill; trivial
section
variable {A : Around} {E : Value → Shared → Prop} {s : Shared} {env : Env}
/-- self._headers -/
theorem get_hdrs {h₀ : Heap} {L : Addr} {m : Str → Option Value} {p dx l : Addr} {expr : Bool} {Q : Value → Shared → Prop} (F : Fr h₀ L s.heap m) (X : (Kx w.params).In h₀) (H : HdO s.heap p dx l) (h : Q (.ref l) { s with toks := s.toks + 1 }) : wpAny (model pw w) A (getAttr (.ref p) (S "_headers") expr) Q E s := by
  obtain ⟨hh, t, n, I⟩ := H.inst
  refine get_own F X I (by kernel_rfl) (by kernel_rfl) (attr := none) (by kernel_rfl) (by kernel_rfl) ?_ rfl h
  unfold getL
  rfl
end
end Mine
end

section
open PySem PySem.W PyProof.Rows PySem.Calls
set_option Elab.async false
set_option maxRecDepth 100000
set_option maxHeartbeats 2000000
namespace Mine
variable {w : World} {mg mb : Str → Option Value} {q : Program} {lo : List Str}
theorem fill10 : (fun (_ : OpenLaw) (_ : Params → Frag) => True) PySem.Challenge.rw_uq0030_01 Kx := by k_fill; trivial
theorem Rm.under {n : Nat} {A : Around} {C : Addr} (h : Rm (n + 1) A) : Rm n (A.under (.builtin "type.__call__" ⟨[.ref C], []⟩)) := by
  obtain ⟨x, y⟩ := h
  have e1 : (Code.builtin "type.__call__" ⟨[.ref C], []⟩).weight = 1 := by kernel_rfl
  have e2 : (Code.builtin "type.__call__" ⟨[.ref C], []⟩).cUnits = 1 := by kernel_rfl
  refine ⟨?_, ?_⟩
  · show A.depth + (Code.builtin "type.__call__" ⟨[.ref C], []⟩).weight + n < _; omega
  · show A.units + (Code.builtin "type.__call__" ⟨[.ref C], []⟩).cUnits + 8 * n < _; omega
theorem enterR {A : Around} {R₀ : Result → Shared → Prop} {s : Shared} {f : Addr} {args : List Value} {kw : List (Str × Value)} {binds : List (Str × Value)}
    {name qual : Str} {params : Arguments} {body : List Stmt} {scope : Scope} {dV kV doc pm cdv ct oc : Value} {an od : Option Addr} {osl : Array (Option Value)} {n : Nat}
    (G : Gd w q lo mg mb s.heap) (R : Rm (n + 1) A) (ho : (Kx w.params).lookup f = some ⟨oc, od, .func (fnOf name qual params body scope dV kV doc pm an cdv ct), osl⟩) (hcd : codeIn (Kx w.params) cdv qual = true)
    (hbind : BindsTo s (fnOf name qual params body scope dV kV doc pm an cdv ct) ⟨args, kw⟩ binds) (hloc : ∀ y ∈ binds, scope.names.lookup y.1 = some .local)
    (h : ∀ L h₁ A', Fr s.heap L h₁ (fun y => binds.reverse.lookup y) → News s.heap L h₁ [] → (Kx w.params).In s.heap → TopRead q lo mg mb s.heap → Rm n A' → A'.handled = A.handled →
      wpAny (model pw w) A' (execs body (envOf qual scope L f cdv)) (fun fl s' => R₀ (.ok (.ret (match fl with | .ret v => v | _ => .none))) s') (fun _ _ => False) { s with heap := h₁, toks := s.toks + binds.length })
    (hco : scope.isCoroutine = false) (hgen : scope.isGenerator = false) (hk : scope.kind = .function) (hcell : ∀ x ∈ scope.names, x.2 ≠ .cell) : codeAny (model pw w) A (.call (.ref f) ⟨args, kw⟩) R₀ s := by
  refine codeAny_call_def (fd := fnOf name qual params body scope dV kV doc pm an cdv ct) R.depth (G.X _ _ ho) rfl G.T.nolimit (codeRec_of G.X hcd) rfl hbind hcell hloc (fun h₁ hns hk₁ => ?_) hco hgen hk
  exact wpAny_mono (h _ h₁ _ ⟨hns, hk₁, Nat.le_refl _⟩ News.nil G.X G.T R.deeper rfl) (fun _ _ y => y) fun _ _ y => y.elim
theorem new_hdr {A : Around} {E : Value → Shared → Prop} {s : Shared} {n : Nat} {Q : Value → Shared → Prop} (G : Gd w q lo mg mb s.heap) (R : Rm (n + 2) A) (hA : A.handled = none)
    (h : ∀ x dx l h' tk, Kp s.heap h' → HdO h' x dx l → HdL h' l [] → s.heap.get? x = none → s.heap.get? dx = none → s.heap.get? l = none → x ≠ l → dx ≠ l → Q (.ref x) { s with heap := h', toks := tk }) :
    wpAny (model pw w) A (call (.ref 289) []) Q E s := by
  refine wpAny_call ?_
  obtain ⟨hh, g, d, t, os⟩ := s
  refine make_core (init := .ref 181) (makes_of G.X (by kernel_rfl)) (looks_findIn G.X (by kernel_rfl)) (fun self => bind_fn G.X self (by kernel_rfl)) (.inl rfl) ?_
  have k2 : Kp hh ((hh.push emptyDict).push (instObj 289 hh.objs.size)) := fun b o e => Heap.get?_push_of_some _ (Heap.get?_push_of_some _ e)
  refine enterR (w := w) (q := q) (lo := lo) (mg := mg) (mb := mb) (n := n) (f := 181) (name := S "__init__") (qual := S "Headers.__init__") (params := mA 22 0) (body := mB 22 0) (scope := mS 22 0) (binds := [(S "self", .ref (hh.objs.size + 1)), (S "headers", .none)]) (G.keeps k2) R.under rfl rfl ?_ (locs rfl) ?_ rfl rfl rfl (by decide)
  · exact binds_K (K := Kx w.params) (T := 174) (o := o_174 w.params) (G.X.keeps k2) rfl rfl rfl rfl rfl
  intro L h₁ A' F N X T R' hA'
  (with_unfolding_all show wpAny _ _ (execs (_ :: _) _) _ _ _)
  replace hA' : A'.handled = none := hA'.trans hA
  have F0 : Fr hh L h₁ _ := ⟨F.ns, fun b o e => F.keep b o (k2 b o e), Nat.le_trans (by show hh.objs.size ≤ ((hh.push _).push _).objs.size; rw [Heap.size_push, Heap.size_push]; exact Nat.le_succ_of_le (Nat.le_succ _)) F.above⟩
  have ox : ((hh.push emptyDict).push (instObj 289 hh.objs.size)).get? (hh.objs.size + 1) = some (instObj 289 hh.objs.size) := by
    have := Heap.get?_push_size (hh.push emptyDict) (o := instObj 289 hh.objs.size) rfl
    rwa [Heap.size_push] at this
  have od : ((hh.push emptyDict).push (instObj 289 hh.objs.size)).get? hh.objs.size = some emptyDict := Heap.get?_push_of_some _ (Heap.get?_push_size _ rfl)
  have nx : hh.get? (hh.objs.size + 1) = none := by
    cases e : hh.get? (hh.objs.size + 1) with
    | none => rfl
    | some o => exact absurd (Heap.lt_size e) (Nat.not_lt.mpr (Nat.le_succ _))
  have nd : hh.get? hh.objs.size = none := size_none _
  have hab : hh.objs.size + 1 + 1 ≤ L := by
    have hab : ((hh.push emptyDict).push (instObj 289 hh.objs.size)).objs.size ≤ L := F.above
    rw [Heap.size_push, Heap.size_push] at hab; exact hab
  have hLx : hh.objs.size + 1 ≠ L := Nat.ne_of_lt hab
  have hLd : hh.objs.size ≠ L := Nat.ne_of_lt (Nat.lt_of_succ_lt hab)
  have N0 : News hh L h₁ [(hh.objs.size + 1, instObj 289 hh.objs.size), (hh.objs.size, dictOf [] 0)] := by
    intro p hp
    simp only [List.mem_cons, List.not_mem_nil, or_false] at hp
    rcases hp with rfl | rfl
    · exact ⟨F.keep _ _ ox, hLx, nx⟩
    · exact ⟨F.keep _ _ od, hLd, nd⟩
  replace X : (Kx w.params).In hh := G.X
  replace T : TopRead q lo mg mb hh := G.T
  have ki : Kp h₁ h₁ := fun _ _ e => e
  have oxL := F.keep _ _ ox
  have odL := F.keep _ _ od
  replace F := F0
  refine wpAny_execs_cons (wpAny_Assign_Name (wpAny_IfExp (wpAny_isTrue_Compare1 (ld F rfl (wpAny_Constant_none (isNot_none (wpAny_truthy_bool ?_)))))))
  rw [if_neg (by decide)]
  refine List_ (wpAny_items_nil (wpAny_newList ?_))
  have hl0 : PlainL (h₁.push { cls := .type "list", data := .seq ([] : List Value).toArray }) h₁.objs.size #[] := ⟨_, _, Heap.get?_push_size _ rfl, rfl, rfl, rfl⟩
  have hlL : h₁.objs.size ≠ L := (Fr.neL F (size_none _)).symm
  have nl : hh.get? h₁.objs.size = none := Fr.noneBack F (size_none _)
  have hlx : h₁.objs.size ≠ hh.objs.size + 1 := (Nat.ne_of_lt (Heap.lt_size oxL)).symm
  have hld : h₁.objs.size ≠ hh.objs.size := (Nat.ne_of_lt (Heap.lt_size odL)).symm
  have NN := N0.push F { cls := .type "list", data := .seq ([] : List Value).toArray }
  replace F := F.push { cls := .type "list", data := .seq ([] : List Value).toArray }
  refine stN F NN (fun h₂ F N2 => ?_)
  refine wpAny_execs_cons (wpAny_If (wpAny_isTrue_Compare1 (Call_Name1 (name_B F X T (by k_is) (by boot_fast) (by decide) (PySem.callWith_type1 (ld F rfl (call_type_of (Tx := "list") ⟨_, (N2 _ (.head _)).1, rfl⟩ (by decide) (name_B F X T (by k_is) (by boot_fast) (by decide) (wpAny_isNot_self rfl (wpAny_truthy_bool ?_))))))))))
  rw [if_neg (by decide)]
  refine wpAny_execs_nil (wpAny_execs_cons (plainObj_wpAny_Assign_Attribute (ld F rfl (ld F rfl ?_))))
  refine set_dict (K := Kx w.params) (C := 289) (dx := hh.objs.size) (es := []) (n := 0) F X N2 (InstAt.of_news N2 (.tail _ (.head _)) (.tail _ (.tail _ (.head _)))) rfl (by kernel_rfl) (by kernel_rfl) (by kernel_rfl) (by kernel_rfl) rfl rfl (.tail hld (.tail (Nat.succ_ne_self _) (.head (fun _ h => nomatch h)))) (by show 1 ≤ 1000; decide) fun h₃ F N3 => ?_
  refine wpAny_execs_cons (wpAny_If (wpAny_isTrue_value (wpAny_Constant_bool (wpAny_truthy_bool ?_))))
  rw [if_pos rfl]
  refine wpAny_execs_cons (For_list hA' (ld F rfl ?_))
  have hl3 := (N3 _ (.head _)).1
  refine ⟨h₁.objs.size, #[], rfl, ⟨_, hl3, rfl, _, rfl⟩, (fun k s' => ∃ h tk, s' = { heap := h, gens := g, drawn := d, toks := tk, os := os } ∧ Kp h₃ h), ?_, ?_, ?_⟩
  · intro h' kp
    exact ⟨_, _, rfl, kp⟩
  · intro k v s₀ h' tk I io oa E' hk
    cases hk
  · intro s₀ h' tk I ⟨h4, tk4, e, k4⟩ kI nI
    subst e
    refine wpAny_execs_nil (wpAny_execs_nil ?_)
    have k5 : Kp h₃ h' := fun b o e => kI b o (fun hb => by subst hb; rw [e] at nI; cases nI) (k4 b o e)
    refine ⟨rfl, h _ hh.objs.size h₁.objs.size h' tk (fun b o e => k5 b o (F.keep b o e)) ⟨k5 _ _ (N3 _ (.tail _ (.head _))).1, _, _, _, k5 _ _ (N3 _ (.tail _ (.tail _ (.head _)))).1⟩ ⟨#[], ⟨_, _, k5 _ _ hl3, rfl, rfl, rfl⟩, .nil⟩ nx nd nl hlx.symm hld.symm⟩
end Mine
end

section
open PySem PySem.W PyProof.Rows PySem.Calls
set_option Elab.async false
set_option maxRecDepth 100000
set_option maxHeartbeats 2000000
namespace Mine
variable {w : World} {mg mb : Str → Option Value} {q : Program} {lo : List Str}
theorem fill11 : (fun (_ : OpenLaw) (_ : Params → Frag) => True) PySem.Challenge.rw_uq0030_01 Kx := by k_fill; trivial
noncomputable def lowL (x : List Nat) : List Nat := x.map lo1
theorem safe_lt {c : Nat} (h : SafeC c) : c < 128 := by
  simp only [SafeC, List.mem_cons, List.not_mem_nil, or_false] at h
  omega
theorem safe_low {c : Nat} (h : SafeC c) : SafeC (lo1 c) := by
  simp only [SafeC, List.mem_cons, List.not_mem_nil, or_false] at h
  rcases h with rfl | rfl | rfl | rfl | rfl | rfl | rfl | rfl | rfl | rfl | rfl | rfl | rfl | rfl | rfl | rfl | rfl <;> (show lo1 _ ∈ _; decide)
theorem lower_ws {x : List Nat} (h : Safe x) : Txt.lower (ws x) = ws (lowL x) := by
  rw [lower_ascii (x := ws x) (fun c hc => safe_lt (h.2 c (by simpa [ws] using hc)))]
  show Str.mk _ = Str.mk _
  congr 1
  show (x.toArray).map _ = _
  rw [List.map_toArray]; rfl
theorem Safe.low {x : List Nat} (h : Safe x) : Safe (lowL x) := by
  refine ⟨by unfold lowL; rw [List.length_map]; exact h.1, fun c hc => ?_⟩
  obtain ⟨d, hd, rfl⟩ := List.mem_map.mp hc
  exact safe_low (h.2 d hd)
theorem paired_get {α β : Type} {R : α → β → Prop} {l : List α} {ys : List β} (h : Paired R l ys) : ∀ {k : Nat} {y : β}, ys[k]? = some y → ∃ x, l[k]? = some x ∧ R x y := by
  induction h with
  | nil => intro k y e; cases e
  | cons a _ ih =>
    intro k y e
    cases k with
    | zero => cases e; exact ⟨_, rfl, a⟩
    | succ k => exact ih e
theorem paired_len {α β : Type} {R : α → β → Prop} {l : List α} {ys : List β} (h : Paired R l ys) : ys.length = l.length := by
  induction h with
  | nil => rfl
  | cons _ _ ih => simp [ih]
noncomputable def lookE (x : List Nat) (ents : List (List Nat × List Nat)) : Option (List Nat) := (ents.find? fun e => lowL e.1 == lowL x).map (·.2)
theorem lookE_drop {x : List Nat} {ents : List (List Nat × List Nat)} {k : Nat} {e : List Nat × List Nat} (h : ents[k]? = some e) : lookE x (ents.drop k) = if lowL e.1 = lowL x then some e.2 else lookE x (ents.drop (k + 1)) := by
  obtain ⟨hk, rfl⟩ := List.getElem?_eq_some_iff.mp h
  rw [List.drop_eq_getElem_cons hk]
  unfold lookE
  rw [List.find?_cons]
  by_cases e : lowL ents[k].1 = lowL x
  · rw [if_pos e, beq_iff_eq.mpr e]; rfl
  · rw [if_neg e, beq_eq_false_iff_ne.mpr e]
section
variable {A : Around} {E : Value → Shared → Prop} {s : Shared} {env : Env}
noncomputable def gotE (o : Option (List Nat)) (v : Value) : Prop := match o with
  | some y => ∃ t, v = .str (ws y) t
  | none => v = .none
/-- self.name(...): the method of a table -/
theorem meth_hdr {h₀ : Heap} {L : Addr} {m : Str → Option Value} {p dx l f : Addr} {name : Str} {pl : Sem Bool} {Q : Value × List Value → Shared → Prop} (F : Fr h₀ L s.heap m) (X : (Kx w.params).In h₀) (H : HdO s.heap p dx l)
    (h1 : plainGet (Kx w.params) 289 name = true) (h2 : findIn (Kx w.params) (.ref 289) name = some (some (.ref f))) (h3 : isFn (Kx w.params) (.ref f) = true) (hn : (S "_headers" == name) = false)
    (h : Q (.ref f, [.ref p]) s) : wpAny (model pw w) A (getMethod (.ref p) name pl) Q E s := by
  obtain ⟨hh, t, n, I⟩ := H.inst
  refine method_inst F X I h1 h2 h3 ?_ h
  unfold getL
  have e : (Value.str (S "_headers") t).isStr name = false := by
    show (S "_headers" == name) = false
    exact hn
  simp [List.find?, e, DictEntry.refKey]
theorem hdr_get {n : Nat} {p dx l : Addr} {ents : List (List Nat × List Nat)} {x : List Nat} {t : Tok} (G : Gd w q lo mg mb s.heap) (R : Rm (n + 2) A) (hA : A.handled = none) (HO : HdO s.heap p dx l) (HL : HdL s.heap l ents) (hx : Safe x) (hs : ∀ e ∈ ents, Safe e.1) :
    wpAny (model pw w) A (call (.ref 236) [.ref p, .str (ws x) t]) (fun v s' => gotE (lookE x ents) v ∧ Keeps s s') E s := by
  refine enter (f := 236) (name := S "get") (qual := S "Headers.get") (params := mA 22 8) (body := mB 22 8) (scope := mS 22 8) (binds := [(S "self", .ref p), (S "name", .str (ws x) t), (S "default", .none)]) G R rfl rfl
    (binds_K (K := Kx w.params) (T := 229) (o := o_229 w.params) G.X rfl rfl rfl rfl rfl) (locs rfl) ?_ rfl rfl rfl (by decide)
  intro L h₁ A' F N X T R' hh
  (with_unfolding_all show wpAny _ _ (execs (_ :: _) _) _ _ _)
  refine wpAny_execs_cons (wpAny_Assign_Name (methodCall_KW (ld F rfl (meth_hdr (f := 188) F X (HO.keeps F.keep) (by kernel_rfl) (by kernel_rfl) (by kernel_rfl) (by decide +kernel) (callWith_KW (K := Kx w.params) X (by kernel_rfl) (by rfl) (wpAny_items_cons (Call_method0 (by rfl) (by rfl) (ld F rfl (SBL.lower (by rw [ws_len]; exact Nat.le_trans hx.1 (by decide)) (fun _ => ?_))))))))))
  rw [lower_ws hx]
  refine wpAny_items_nil (kwAll_cons (wpAny_Constant_bool (kwAll_nil (⟨X.keeps F.keep, ?_⟩))))
  refine wpAny_mono (conv (E := fun _ _ => False) (Gd.keeps ⟨X, T⟩ F.keep) R' hx.low) (fun v' s' hv => ?_) fun _ _ e => e
  obtain ⟨rfl, h₂, tk₂, rfl, kp⟩ := hv
  replace F := Frk F kp
  refine stS F (fun h₃ F s3 => ?_)
  obtain ⟨items, hP, hE⟩ := HL
  have hlt : l ≠ L := by
    obtain ⟨o, n, e, _⟩ := hP
    exact Nat.ne_of_lt (Nat.lt_of_lt_of_le (Heap.lt_size e) F.above)
  refine wpAny_execs_cons (For_list (hh.trans hA) (Attribute_Name_ (ld F rfl (get_hdrs F X (HO.keeps F.keep) ?_))))
  refine ⟨l, items, rfl, (hP.keeps F.keep).isList, (fun k s' => ∃ h tk m, s' = { s with heap := h, toks := tk } ∧ Fr s.heap L h m ∧ lookE x (ents.drop k) = lookE x ents ∧ m (S "name") = some (.str (ws (lowL x)) (s.toks + 3)) ∧ m (S "default") = some .none), ?_, ?_, ?_⟩
  · intro h' kp
    exact ⟨h', _, _, rfl, Frk F kp, rfl, rfl, rfl⟩
  · intro k v s₀ h' tk I io oa E' hk ⟨h, tk', m, e, F', hlo, vn, vd⟩ kI eI nI ea _
    subst e
    have hLI : L ≠ I := Fr.neL F nI
    have n0 : s.heap.get? I = none := Fr.noneBack F nI
    replace F := Frx F' hLI n0 kI
    obtain ⟨e, he, T', t1, t2, rfl, hT⟩ := paired_get hE (by simpa using hk)
    have hse := hs e (List.mem_of_getElem? he)
    refine pair_ (hh.trans hA) F (by obtain ⟨o, ho, r⟩ := hT; exact ⟨o, F.keep _ _ ho, r⟩) (fun h2 tk2 F s2 => ?_)
    replace eI := s2 I io hLI.symm eI
    replace ea := s2 l oa hlt ea
    refine wpAny_execs_cons (wpAny_If (wpAny_isTrue_Compare1 (Call_method0 (by rfl) (by rfl) (ld F rfl (SBL.lower (by rw [ws_len]; exact Nat.le_trans hse.1 (by decide)) (fun _ => ?_))))))
    rw [lower_ws hse]
    refine ld F vn (eq_ws (wpAny_truthy_bool ?_))
    rw [lookE_drop he] at hlo
    by_cases ee : lowL e.1 = lowL x
    · rw [if_pos (by rw [ee]; exact beq_self_eq_true _)]
      rw [if_pos ee] at hlo
      refine wpAny_execs_cons (wpAny_Return_some (ld F rfl ?_))
      exact ⟨by rw [← hlo]; exact ⟨_, rfl⟩, _, _, rfl, F.keep⟩
    · rw [if_neg (by intro h; exact ee (by simpa using eq_of_beq h))]
      rw [if_neg ee] at hlo
      refine wpAny_execs_nil (wpAny_execs_nil (⟨⟨_, _, _, rfl, F, hlo, vn, vd⟩, eI, ea⟩))
  · intro s₀ h' tk I ⟨h, tk', m, e, F', hlo, vn, vd⟩ kI nI
    subst e
    replace F := Frx F' (Fr.neL F nI) (Fr.noneBack F nI) kI
    refine wpAny_execs_cons (wpAny_Return_some (ld F vd ?_))
    have hn : ents.drop items.size = [] := List.drop_eq_nil_of_le (by have := paired_len hE; simp at this; omega)
    rw [hn] at hlo
    exact ⟨by rw [← hlo]; rfl, _, _, rfl, F.keep⟩
end
end Mine
end

section
open PySem PySem.W PyProof.Rows PySem.Calls
set_option Elab.async false
set_option maxRecDepth 100000
set_option maxHeartbeats 2000000
namespace Mine
variable {w : World} {mg mb : Str → Option Value} {q : Program} {lo : List Str}
section
variable {A : Around} {E : Value → Shared → Prop} {s : Shared} {env : Env}
theorem Kp.back {h h' : Heap} (k : Kp h h') {b : Addr} (n : h'.get? b = none) : h.get? b = none := by
  cases e : h.get? b with
  | none => rfl
  | some o => rw [k b o e] at n; cases n
theorem ne_none {h : Heap} {a b : Addr} {o : Obj} (x : h.get? a = some o) (y : h.get? b = none) : a ≠ b := by
  rintro rfl; rw [x] at y; cases y
theorem Kp.push (h : Heap) (o : Obj) : Kp h (h.push o) := fun _ _ e => Heap.get?_push_of_some o e
/-- what a comprehension lays ahead of its loop: an iterator I, an empty list D and a namespace C, each of them new -/
structure Laid3 (h h₁ : Heap) (oI : Obj) (I D C : Addr) (m : Str → Option Value) : Prop where
  nI : h.get? I = none
  nD : h.get? D = none
  nC : h.get? C = none
  hID : I ≠ D
  hIC : I ≠ C
  hDC : D ≠ C
  kp : Kp h h₁
  atI : h₁.get? I = some oI
  acc : PlainL h₁ D #[]
  ns : h₁.Ns C m
theorem laid3 {scope : Scope} {gl : Addr} {cl : List (Str × Addr)} {qual : Str} {oI : Obj} {P : Value → Env → Shared → Prop} (hcell : ∀ y ∈ scope.names, y.2 ≠ .cell) (hkind : scope.kind = .function) (hf : oI.isFreed = false)
    (fin : ∀ D C h₁ m, Laid3 s.heap h₁ oI s.heap.objs.size D C m → P (.ref D) (newEnv scope C gl cl qual none .none (some env) builtinsNs) { s with heap := h₁ }) :
    wpAny (model pw w) A (newList []) (fun acc s₃ => wpAny (model pw w) A (newFunctionEnv scope gl cl [] qual none .none (some env)) (P acc) E s₃) E { s with heap := s.heap.push oI } := by
  refine wpAny_newObj_type (hd := by size_fits) (wpAny_newFunctionEnv hcell (fun _ hy => nomatch hy) (fun h₁ ns sb => ?_) hkind)
  have at1 := Heap.get?_push_size s.heap hf
  have k1 := Kp.push s.heap oI
  have k2 := Kp.push (s.heap.push oI) ⟨.type "list", none, .seq ([] : List Value).toArray, #[]⟩
  have n1 := size_none (s.heap.push oI)
  have n2 := size_none ((s.heap.push oI).push ⟨.type "list", none, .seq ([] : List Value).toArray, #[]⟩)
  have kn : Kp ((s.heap.push oI).push ⟨.type "list", none, .seq ([] : List Value).toArray, #[]⟩) h₁ := fun b o e => sb.extBut b o (ne_none e n2) (Heap.get?_push_of_some _ e)
  have atD : ((s.heap.push oI).push ⟨.type "list", none, .seq ([] : List Value).toArray, #[]⟩).get? (s.heap.push oI).objs.size = some _ := Heap.get?_push_size _ rfl
  exact fin _ _ h₁ _ ⟨size_none _, k1.back n1, k1.back (k2.back n2), ne_none at1 n1, ne_none (k2 _ _ at1) n2, ne_none atD n2, fun b o e => kn _ _ (k2 _ _ (k1 _ _ e)), kn _ _ (k2 _ _ at1), ⟨_, _, kn _ _ atD, rfl, rfl, rfl⟩, ns⟩
/-- a list comprehension's start, its first source a list -/
theorem comp_open {elt target iter : Expr} {ifs : List Expr} {rest : List Comprehension} {scope : Scope} {pos : Pos} {Q : Value → Shared → Prop}
    (hfree : ∀ y ∈ scope.names, y.2 ≠ .free) (hcell : ∀ y ∈ scope.names, y.2 ≠ .cell) (hkind : scope.kind = .function) (hnames : ∀ y ∈ scope.names, y.2 = .local → scope.names.lookup y.1 = some .local)
    (h : wpAny (model pw w) A (eval iter env) (fun xv s₁ => ∃ ax items, xv = .ref ax ∧ s₁.heap.IsList ax items ∧
      (∀ I D C h₁ m₁, s₁.heap.get? I = none → s₁.heap.get? D = none → s₁.heap.get? C = none → I ≠ D → I ≠ C → D ≠ C → Kp s₁.heap h₁ → h₁.IsListIter I ax 0 → PlainL h₁ D #[] → h₁.Ns C m₁ →
        codeAny (model pw w) A (.compLoop (.ListComp elt (⟨target, iter, ifs, 0⟩ :: rest) scope pos) 0 (.ref I) (.ref D) (compEnv scope C env))
          (fun r s' => ∃ m, s'.heap.Ns C m ∧ ∀ h', Heap.SameBut C s'.heap h' → match r with | .ok _ => Q (.ref D) { s' with heap := h' } | .error x => wpAny (model pw w) A (passOn "comprehension.variables-let-go" x (compEnv scope C env)) Q E { s' with heap := h' })
          { s₁ with heap := h₁ })) E s)
    (hs : ∀ x, foldedSetIterable iter env x = pure x := by intro _; rfl) :
    wpAny (model pw w) A (eval (.ListComp elt (⟨target, iter, ifs, 0⟩ :: rest) scope pos) env) Q E s := by
  refine wpAny_ListComp hfree hkind hnames (wpAny_mono h (fun xv s₁ h₁ => ?_) fun _ _ e => e) hs
  obtain ⟨ax, items, rfl, hl, loop⟩ := h₁
  refine wpAny_pyIter_list hl (laid3 hcell hkind rfl fun D C h₁ m Y => ?_)
  have hit : h₁.IsListIter s₁.heap.objs.size ax 0 := ⟨_, Y.atI, rfl, rfl⟩
  have lp := loop _ D C h₁ m Y.nI Y.nD Y.nC Y.hID Y.hIC Y.hDC Y.kp hit Y.acc Y.ns
  exact codeAny_compStart_list lp (wpAny_pyIter_listiter hit lp)
theorem pl_append {l : Addr} {its : Array Value} {x : Value} {Q : Value → Shared → Prop} (hl : PlainL s.heap l its) (hQ : ∀ h', PlainL h' l (its.push x) → Heap.SameBut l s.heap h' → Q .none { s with heap := h' }) (hsz : its.size ≤ 1000) :
    wpAny (model pw w) A (call (.builtin "list.append") [.ref l, x]) Q E s := list_append_plainL hl hQ (Nat.le_trans hsz (by decide))
theorem loop1 {elt target iter : Expr} {scope : Scope} {pos : Pos} {it acc : Value} {R : Result → Shared → Prop} (J : Nat → Shared → Prop)
    (turn : ∀ n s E', J n s → wpAny (model pw w) A (pyNext it) (fun r s₁ => match r with
      | none => R (.ok .next) s₁
      | some v => wpAny (model pw w) A (letOwnedTupleGo target it v) (fun _ s₀ => wpAny (model pw w) A (assign target env v) (fun _ s₂ =>
          wpAny (model pw w) A (eval elt env) (fun x s₄ =>
            wpAny (model pw w) A (call (.builtin "list.append") [acc, x]) (fun _ s₅ => ∃ m, m < n ∧ J m s₅) E' s₄) E' s₂) E' s₀) E' s₁) E' s)
    (n : Nat) (h : J n s) : codeAny (model pw w) A (.compLoop (.ListComp elt [⟨target, iter, [], 0⟩] scope pos) 0 it acc env) R s := by
  exact kcp_loop J (fun n s hI => turn n s _ hI) n h
theorem loop_list {elt target iter : Expr} {scope : Scope} {pos : Pos} {I D C ax : Addr} {items : Array Value} {hb : Heap} {m : Str → Option Value} {R₀ : Result → Shared → Prop} (hh : A.handled = none) (Rl : Nat → Value → Prop)
    (hID : I ≠ D) (hIC : I ≠ C) (hDC : D ≠ C) (nI : hb.get? I = none) (nD : hb.get? D = none) (nC : hb.get? C = none) (hl : hb.IsList ax items) (hsz : items.size ≤ 1000)
    (kp : Kp hb s.heap) (hit : s.heap.IsListIter I ax 0) (hD : PlainL s.heap D #[]) (hn : s.heap.Ns C m)
    (step : ∀ k v s₂ m₂ E', items[k]? = some v → s₂.heap.Ns C m₂ → Kp hb s₂.heap → wpAny (model pw w) A (assign target env v) (fun _ s₃ => (∃ h3 t3, s₃ = { s₂ with heap := h3, toks := t3 } ∧ (∀ b o, b ≠ C → s₂.heap.get? b = some o → h3.get? b = some o) ∧ ∃ m₃, h3.Ns C m₃) ∧
      wpAny (model pw w) A (eval elt env) (fun y s₄ => Rl k y ∧ Keeps s₃ s₄) E' s₃) E' s₂)
    (fin : ∀ h' tk ys m', h'.Ns C m' → PlainL h' D ys → ys.size = items.size → (∀ k y, ys[k]? = some y → Rl k y) → Kp hb h' → R₀ (.ok .next) { s with heap := h', toks := tk }) :
    codeAny (model pw w) A (.compLoop (.ListComp elt [⟨target, iter, [], 0⟩] scope pos) 0 (.ref I) (.ref D) env) R₀ s := by
  have hax : ∀ b, hb.get? b = none → ax ≠ b := fun b hn e => by
    subst e; obtain ⟨o, ho, _⟩ := hl; rw [hn] at ho; cases ho
  refine loop1 (fun n s' => ∃ k h tk m ys, k + n = items.size ∧ s' = { s with heap := h, toks := tk } ∧ Kp hb h ∧ h.IsListIter I ax k ∧ PlainL h D ys ∧ h.Ns C m ∧ ys.size = k ∧ (∀ j y, ys[j]? = some y → Rl j y)) ?_ items.size ⟨0, s.heap, s.toks, m, #[], by omega, rfl, kp, hit, hD, hn, rfl, by intro j y e; simp at e⟩
  rintro n s' E' ⟨k, h, tk, m', ys, hk, rfl, kp, hit, hD, hn, hy, hR⟩
  have hl' : h.IsList ax items := lst_of (kp ax) hl
  cases n with
  | zero =>
    have hv : items[k]? = none := by rw [Array.getElem?_eq_none]; omega
    refine wpAny_pyNext_list_end hh hit hl' hv fun h₁ he₁ => ?_
    exact fin h₁ tk ys m' (hn.extBut he₁ hIC.symm) (hD.extBut he₁ hID.symm) (by omega) hR fun b o e => he₁ b o (fun hb' => by subst hb'; rw [nI] at e; cases e) (kp b o e)
  | succ n =>
    have hlt : k < items.size := by omega
    refine wpAny_pyNext_list_item hit hl' (Array.getElem?_eq_getElem hlt) fun h₁ hit₁ hs₁ => ?_
    refine letGo_listiter hit₁ ?_
    have kp1 : Kp hb h₁ := fun b o e => hs₁.extBut b o (fun hb' => by subst hb'; rw [nI] at e; cases e) (kp b o e)
    refine wpAny_mono (step k _ { s with heap := h₁, toks := tk } m' E' (Array.getElem?_eq_getElem hlt) (hn.sameBut hs₁ hIC.symm) kp1) (fun _ s₃ h₃ => ?_) fun _ _ e => e
    obtain ⟨⟨h3, t3, rfl, k3, m3, hn3⟩, h₃⟩ := h₃
    refine wpAny_mono h₃ (fun y s₄ h₄ => ?_) fun _ _ e => e
    obtain ⟨hy4, h4, t4, rfl, k4⟩ := h₄
    have hD4 : PlainL h4 D ys := by
      obtain ⟨o, n, ho, r⟩ := hD
      exact ⟨o, n, k4 _ _ (k3 _ _ hDC (hs₁.extBut _ _ hID.symm ho)), r⟩
    refine pl_append hD4 (fun h5 hD5 hs5 => ?_) (by omega)
    have kp5 : Kp hb h5 := fun b o e => hs5.extBut b o (fun hb' => by subst hb'; rw [nD] at e; cases e) (k4 _ _ (k3 _ _ (fun hb' => by subst hb'; rw [nC] at e; cases e) (kp1 b o e)))
    refine ⟨n, Nat.lt_succ_self _, k + 1, h5, t4, m3, ys.push y, by omega, rfl, kp5, ?_, hD5, ?_, by rw [Array.size_push]; omega, ?_⟩
    · obtain ⟨o, ho, r⟩ := hit₁
      exact ⟨o, hs5.extBut _ _ hID (k4 _ _ (k3 _ _ hIC ho)), r⟩
    · exact (hn3.keeps k4).sameBut hs5 hDC.symm
    · intro j y' e
      rw [Array.getElem?_push] at e
      split at e
      · rename_i hj; cases e; rw [hj, hy]; exact hy4
      · exact hR j y' e
theorem paired_of {α β : Type} {R : α → β → Prop} : ∀ (l : List α) (ys : List β), ys.length = l.length → (∀ (k : Nat) (y : β), ys[k]? = some y → ∃ x, l[k]? = some x ∧ R x y) → Paired R l ys
  | [], [], _, _ => .nil
  | [], _ :: _, e, _ => by cases e
  | _ :: _, [], e, _ => by cases e
  | x :: l, y :: ys, e, h => by
    obtain ⟨x', e1, r⟩ := h 0 y rfl
    cases e1
    exact .cons r (paired_of l ys (Nat.succ.inj e) fun k y hk => h (k + 1) y hk)
/-- a comprehension over a list of pairs of words -/
theorem comp_pairs {elt iter : Expr} {a b : Str} {pa pb tp : Pos} {kk : Nat} {scope : Scope} {pos : Pos} {Q : Value → Shared → Prop} (hh : A.handled = none) (R : List Nat × List Nat → Value → Prop)
    (hfree : ∀ y ∈ scope.names, y.2 ≠ .free) (hcell : ∀ y ∈ scope.names, y.2 ≠ .cell) (hkind : scope.kind = .function) (hnames : ∀ y ∈ scope.names, y.2 = .local → scope.names.lookup y.1 = some .local)
    (ha : scope.names.lookup a = some .local) (hb : scope.names.lookup b = some .local)
    (h : wpAny (model pw w) A (eval iter env) (fun xv s₁ => ∃ ax items ents, xv = .ref ax ∧ s₁.heap.IsList ax items ∧ items.size ≤ 1000 ∧ Paired (Ent s₁.heap) ents items.toList ∧
      (∀ C m₃ s₃ E' e t u, s₃.heap.Ns C m₃ → m₃ b = some (.str (ws (e : List Nat × List Nat).2) u) → (¬ a = b → m₃ a = some (.str (ws e.1) t)) → wpAny (model pw w) A (eval elt (compEnv scope C env)) (fun y s₄ => R e y ∧ Keeps s₃ s₄) E' s₃) ∧
      (∀ D h' tk ys, s₁.heap.get? D = none → PlainL h' D ys → Paired R ents ys.toList → Kp s₁.heap h' → Q (.ref D) { s₁ with heap := h', toks := tk })) E s)
    (hs : ∀ x, foldedSetIterable iter env x = pure x := by intro _; rfl) :
    wpAny (model pw w) A (eval (.ListComp elt [⟨.Tuple [.Name a pa, .Name b pb] kk tp, iter, [], 0⟩] scope pos) env) Q E s := by
  refine comp_open hfree hcell hkind hnames (wpAny_mono h (fun xv s₁ h₁ => ?_) fun _ _ e => e) hs
  obtain ⟨ax, items, ents, rfl, hl, hsz, hE, he, hf⟩ := h₁
  refine ⟨ax, items, rfl, hl, fun I D C h₁ m₁ nI nD nC hID hIC hDC kp hit hD hn => ?_⟩
  refine loop_list hh (fun k y => ∃ e, ents[k]? = some e ∧ R e y) hID hIC hDC nI nD nC hl hsz kp hit hD hn ?_ ?_
  · intro k v s₂ m₂ E' hv hn kp
    obtain ⟨e, hk, T, t, u, rfl, hT⟩ := paired_get hE (by simpa using hv)
    refine wpAny_assign_Tuple hh (by obtain ⟨o, ho, r⟩ := hT; exact ⟨o, kp _ _ ho, r⟩) (by rfl) (by rfl) fun h' he' => ?_
    have hLs : (compEnv scope C env).locals ≠ s₂.heap.objs.size := Nat.ne_of_lt hn.lt
    have hn₁ : h'.Ns C m₂ := hn.at' fun o e => he' _ o hLs e
    have hp : ((compEnv scope C env).scope.kind == .class || ((compEnv scope C env).scope.kind == .module && (compEnv scope C env).locals != (compEnv scope C env).globals)) = false := by simp [compEnv, hkind]
    refine wpAny_assignInOrder_more (wpAny_assign_Name (wpAny_storeName_local ha hn₁ (fun h₂ hn₂ hs₂ => ?_) hp))
    refine wpAny_assignInOrder_more (wpAny_assign_Name (wpAny_storeName_local hb hn₂ (fun h₃ hn₃ hs₃ => ?_) hp))
    refine wpAny_assignInOrder_none ⟨⟨h₃, _, rfl, fun c o hc e => hs₃.extBut c o hc (hs₂.extBut c o hc (he' c o (Nat.ne_of_lt (Heap.lt_size e)) e)), _, hn₃⟩, ?_⟩
    refine wpAny_mono (he C _ _ E' e t u hn₃ (by simp) (fun hab => by simp [hab])) (fun y s₄ h₄ => ⟨⟨e, hk, h₄.1⟩, h₄.2⟩) fun _ _ e => e
  · intro h' tk ys m' hn' hD' hsz' hR kp'
    refine ⟨m', hn', fun h'' hs'' => hf D h'' tk ys nD (hD'.extBut hs''.extBut hDC) (paired_of _ _ ?_ fun k y hk => hR k y (by simpa using hk)) fun b o e => hs''.extBut b o (fun hb' => by subst hb'; rw [nC] at e; cases e) (kp' b o e)⟩
    have := paired_len hE
    simp at this ⊢
    omega
end
end Mine
end

section
open PySem PySem.W PyProof.Rows PySem.Calls
set_option Elab.async false
set_option maxRecDepth 100000
set_option maxHeartbeats 2000000
namespace Mine
variable {w : World} {mg mb : Str → Option Value} {q : Program} {lo : List Str}
theorem fill12 : (fun (_ : OpenLaw) (_ : Params → Frag) => True) PySem.Challenge.rw_uq0030_01 Kx := by k_fill; trivial
noncomputable def setE (x y : List Nat) (ents : List (List Nat × List Nat)) : List (List Nat × List Nat) := if (lookE x ents).isNone then ents ++ [(x, y)] else ents
theorem paired_snoc {α β : Type} {R : α → β → Prop} {l : List α} {ys : List β} {x : α} {y : β} (h : Paired R l ys) (e : R x y) : Paired R (l ++ [x]) (ys ++ [y]) := by
  induction h with
  | nil => exact .cons e .nil
  | cons a _ ih => exact .cons a ih
/-- one more pair on the table's list -/
theorem HdL.snoc {h h' : Heap} {l T : Addr} {ents : List (List Nat × List Nat)} {items : Array Value} {x y : List Nat} {t u : Tok} (hl : PlainL h l items) (hE : Paired (Ent h) ents items.toList) (hT : h.IsTuple T #[.str (ws x) t, .str (ws y) u])
    (hl' : PlainL h' l (items.push (.ref T))) (sb : Heap.SameBut l h h') : HdL h' l (ents ++ [(x, y)]) := by
  have k : ∀ {e v}, Ent h e v → Ent h' e v := by
    rintro e v ⟨T, t, u, rfl, o, ho, hc, r⟩
    have hne : T ≠ l := by
      rintro rfl
      obtain ⟨o', n, ho', hc', _⟩ := hl
      rw [ho] at ho'; cases ho'; rw [hc] at hc'; exact absurd hc' (by decide)
    exact ⟨T, t, u, rfl, o, sb.extBut T o hne ho, hc, r⟩
  refine ⟨_, hl', ?_⟩
  rw [Array.toList_push]
  exact paired_snoc (hE.mono fun _ _ y => k y) (k ⟨T, t, u, rfl, hT⟩)
section
variable {A : Around} {E : Value → Shared → Prop} {s : Shared}
theorem hdr_keys {n : Nat} {p dx l : Addr} {ents : List (List Nat × List Nat)} (G : Gd w q lo mg mb s.heap) (R : Rm (n + 1) A) (hA : A.handled = none) (HO : HdO s.heap p dx l) (HL : HdL s.heap l ents) (hs : ents.length ≤ 1000) :
    wpAny (model pw w) A (call (.ref 241) [.ref p]) (fun v s' => ∃ D h' tk ys, v = .ref D ∧ s' = { s with heap := h', toks := tk } ∧ s.heap.get? D = none ∧ PlainL h' D ys ∧ WL ys.toList (ents.map (·.1)) ∧ Kp s.heap h') E s := by
  refine enter (f := 241) (name := S "keys") (qual := S "Headers.keys") (params := mA 22 9) (body := mB 22 9) (scope := mS 22 9) (binds := [(S "self", .ref p)]) G R rfl rfl (BindsTo.of_eq rfl) (locs rfl) ?_ rfl rfl rfl (by decide)
  intro L h₁ A' F N X T R' hh
  (with_unfolding_all show wpAny _ _ (execs (_ :: _) _) _ _ _)
  refine wpAny_execs_cons (wpAny_Return_some ?_)
  refine comp_pairs (hh.trans hA) (fun e y => ∃ t, y = .str (ws e.1) t) (by decide) (by decide) rfl (by decide) (by decide) (by decide) ?_
  refine Attribute_Name_ (ld F rfl (get_hdrs F X (HO.keeps F.keep) ?_))
  obtain ⟨items, hP, hE⟩ := HL
  refine ⟨l, items, ents, rfl, (hP.keeps F.keep).isList, by have := paired_len hE; simp at this; omega, hE.mono fun _ _ y => y.keeps F.keep, ?_, ?_⟩
  · intro C m₃ s₃ E' e t u hn _ ha
    refine wpAny_Name (wpAny_loadName_local rfl (by rfl) hn (ha (by decide)) ?_) (by decide)
    exact ⟨⟨_, rfl⟩, _, _, rfl, fun b o e => e⟩
  · intro D h' tk ys nD hD hp kp
    refine ⟨D, h', tk, ys, rfl, rfl, Fr.noneBack F nD, hD, ?_, fun b o e => kp b o (F.keep b o e)⟩
    have aux : ∀ {l : List (List Nat × List Nat)} {vs : List Value}, Paired (fun e y => ∃ t, y = Value.str (ws e.1) t) l vs → WL vs (l.map (·.1)) := by
      intro l vs h
      induction h with
      | nil => exact Paired.nil
      | cons a _ ih => exact Paired.cons a ih
    exact aux hp
theorem slice_allL {env : Env} {value : Expr} {p pos : Pos} {Q : Value → Shared → Prop}
    (h : wpAny (model pw w) A (eval value env) (fun o s₁ => ∃ l items, o = .ref l ∧ s₁.heap.IsList l items ∧ items.size ≤ sizeLine ∧
      Q (.ref (s₁.heap.objs.size + 1)) { s₁ with heap := (s₁.heap.push { cls := .type "slice", data := .fields #[.none, .none, .none] }).push { cls := .type "list", data := .seq items } }) E s) :
    wpAny (model pw w) A (eval (.Subscript value (.Slice none none none p) pos) env) Q E s := by
  rw [eval_Subscript]
  refine wpAny_bind (wpAny_mono h (fun o s₁ h₁ => wpAny_bind (wpAny_holding (wpAny_Slice (evalPart_none_step (evalPart_none_step (evalPart_none_step (wpAny_bind (wpAny_standAt ?_)))))))) fun _ _ x => x)
  obtain ⟨l, items, rfl, hl, hsz, hQ⟩ := h₁
  have hT := (hl.push { cls := .type "slice", data := .fields #[.none, .none, .none] }).typeIs (s := { s₁ with heap := s₁.heap.push { cls := .type "slice", data := .fields #[.none, .none, .none] } })
  have fin : wpAny (model pw w) A (operate [.ref s₁.heap.objs.size, .ref l] (getItem (.ref l) (.ref s₁.heap.objs.size))) (fun r s₃ => wpAny (model pw w) A (letTemporaryGo value (.ref l) r >>= fun _ => pure r) Q E s₃) E { s₁ with heap := s₁.heap.push { cls := .type "slice", data := .fields #[.none, .none, .none] } } := by
    refine wpAny_operating (wpAny_getItem_list_slice (hl.push _) (Heap.IsSliceOf.new ..) .none .none .none (by simp) ?_ hsz)
    refine wpAny_bind (wpAny_letTemporaryGo (wpAny_pure ?_))
    rw [slicePick_all, Heap.size_push]
    exact hQ
  refine wpAny_bind ?_
  rw [getitemInPython_of_ne hT.not_modules]
  refine wpAny_bind (wpAny_specialOf hT list_getitem_lookup ?_)
  first
    | exact wpAny_pure (wpAny_bind fin)
    | exact wpAny_bind (wpAny_pure (wpAny_bind fin))
    | exact wpAny_bind fin
theorem hdr_items {n : Nat} {p dx l : Addr} {ents : List (List Nat × List Nat)} (G : Gd w q lo mg mb s.heap) (R : Rm (n + 1) A) (HO : HdO s.heap p dx l) (HL : HdL s.heap l ents) (hs : ents.length ≤ 1000) :
    wpAny (model pw w) A (call (.ref 253) [.ref p]) (fun v s' => ∃ D, v = .ref D ∧ HdL s'.heap D ents ∧ Keeps s s') E s := by
  refine enter (f := 253) (name := S "items") (qual := S "Headers.items") (params := mA 22 11) (body := mB 22 11) (scope := mS 22 11) (binds := [(S "self", .ref p)]) G R rfl rfl (BindsTo.of_eq rfl) (locs rfl) ?_ rfl rfl rfl (by decide)
  intro L h₁ A' F N X T R' hh
  (with_unfolding_all show wpAny _ _ (execs (_ :: _) _) _ _ _)
  obtain ⟨items, hP, hE⟩ := HL
  have hsz : items.size ≤ sizeLine := by
    have := paired_len hE
    simp at this
    exact Nat.le_trans (by omega) (by decide : 1000 ≤ sizeLine)
  refine wpAny_execs_cons (wpAny_Return_some (slice_allL (Attribute_Name_ (ld F rfl (get_hdrs F X (HO.keeps F.keep) (⟨l, items, rfl, (hP.keeps F.keep).isList, hsz, ?_⟩))))))
  have k2 : ∀ {a b : Obj}, Kp s.heap ((h₁.push a).push b) := fun b o e => Heap.get?_push_of_some _ (Heap.get?_push_of_some _ (F.keep b o e))
  refine ⟨_, rfl, ⟨items, ⟨{ cls := .type "list", data := .seq items }, 0, ?_, rfl, rfl, rfl⟩, hE.mono fun _ _ y => y.keeps k2⟩, _, _, rfl, k2⟩
  have := Heap.get?_push_size (h₁.push { cls := .type "slice", data := .fields #[.none, .none, .none] }) (o := { cls := .type "list", data := .seq items }) rfl
  rwa [Heap.size_push] at this
/-- what a change of the table's list leaves -/
noncomputable def But (l : Addr) (s s' : Shared) : Prop := ∃ h' tk, s' = { s with heap := h', toks := tk } ∧ ∀ b o, b ≠ l → s.heap.get? b = some o → h'.get? b = some o
theorem hdr_setdefault {n : Nat} {p dx l : Addr} {ents : List (List Nat × List Nat)} {x y : List Nat} {t u : Tok} (G : Gd w q lo mg mb s.heap) (R : Rm (n + 3) A) (hA : A.handled = none) (HO : HdO s.heap p dx l) (HL : HdL s.heap l ents) (hx : Safe x) (hy : Safe y) (hs : ∀ e ∈ ents, Safe e.1) (hn : ents.length ≤ 500) :
    wpAny (model pw w) A (call (.ref 279) [.ref p, .str (ws x) t, .str (ws y) u]) (fun _ s' => But l s s' ∧ HdL s'.heap l (setE x y ents)) E s := by
  refine enter (f := 279) (name := S "setdefault") (qual := S "Headers.setdefault") (params := mA 22 15) (body := mB 22 15) (scope := mS 22 15) (binds := [(S "self", .ref p), (S "name", .str (ws x) t), (S "value", .str (ws y) u)]) G R rfl rfl (BindsTo.of_eq rfl) (locs rfl) ?_ rfl rfl rfl (by decide)
  intro L h₁ A' F N X T R' hh
  replace hh := hh.trans hA
  (with_unfolding_all show wpAny _ _ (execs (_ :: _) _) _ _ _)
  refine wpAny_execs_cons (wpAny_Assign_Name (MethodCall_ (ld F rfl (meth_hdr (f := 236) F X (HO.keeps F.keep) (by kernel_rfl) (by kernel_rfl) (by kernel_rfl) (by decide +kernel) (callWith_K (K := Kx w.params) X (by kernel_rfl) (wpAny_items_cons (ld F rfl (wpAny_items_nil (⟨X.keeps F.keep, ?_⟩)))))))))
  refine wpAny_mono (hdr_get (E := fun _ _ => False) (Gd.keeps ⟨X, T⟩ F.keep) R' hh (HO.keeps F.keep) (HL.keeps F.keep) hx hs) (fun v' s' hv => ?_) fun _ _ e => e
  obtain ⟨hg, h₂, tk₂, rfl, kp⟩ := hv
  replace F := Frk F kp
  refine stS F (fun h₃ F s3 => ?_)
  refine wpAny_execs_cons (wpAny_If (wpAny_isTrue_Compare1 (ld F rfl (wpAny_Constant_none (is_none (wpAny_truthy_bool ?_))))))
  unfold gotE at hg
  cases hlk : lookE x ents with
  | some y' =>
    rw [hlk] at hg
    obtain ⟨t', rfl⟩ := hg
    rw [if_neg (show ¬ ((Value.str (ws y') t' == Value.none) = true) from Bool.false_ne_true)]
    refine wpAny_execs_cons (wpAny_Return_some (ld F rfl ?_))
    have e : setE x y ents = ents := by unfold setE; rw [hlk]; rfl
    rw [e]
    exact ⟨⟨_, _, rfl, fun b o _ e => F.keep b o e⟩, HL.keeps F.keep⟩
  | none =>
    rw [hlk] at hg
    subst hg
    rw [if_pos (show (Value.none == Value.none) = true from rfl)]
    obtain ⟨items, hP, hE⟩ := HL
    refine wpAny_execs_cons (wpAny_Expr_any (wpAny_Call_append (by rfl) (by rfl) (by rfl) (by rfl) (Attribute_Name_ (ld F rfl (get_hdrs F X (HO.keeps F.keep) (⟨l, items, rfl, hP.keeps F.keep, ?_⟩))))))
    refine wpAny_Tuple (wpAny_items_cons (methodCall_KW (ld F rfl (meth_hdr (f := 188) F X (HO.keeps F.keep) (by kernel_rfl) (by kernel_rfl) (by kernel_rfl) (by decide +kernel) (callWith_KW (K := Kx w.params) X (by kernel_rfl) (by rfl) (wpAny_items_cons (ld F rfl (wpAny_items_nil (kwAll_cons (wpAny_Constant_bool (kwAll_nil (⟨X.keeps F.keep, ?_⟩))))))))))))
    refine wpAny_mono (conv (E := fun _ _ => False) (Gd.keeps ⟨X, T⟩ F.keep) R' hx) (fun v' s' hv => ?_) fun _ _ e => e
    obtain ⟨rfl, h₄, tk₄, rfl, kp⟩ := hv
    replace F := Frk F kp
    refine wpAny_items_cons (methodCall_KW (ld F rfl (meth_hdr (f := 188) F X (HO.keeps F.keep) (by kernel_rfl) (by kernel_rfl) (by kernel_rfl) (by decide +kernel) (callWith_KW (K := Kx w.params) X (by kernel_rfl) (by rfl) (wpAny_items_cons (ld F rfl (wpAny_items_nil (kwAll_cons (wpAny_Constant_bool (kwAll_nil (⟨X.keeps F.keep, ?_⟩)))))))))))
    refine wpAny_mono (conv (E := fun _ _ => False) (Gd.keeps ⟨X, T⟩ F.keep) R' hy) (fun v' s' hv => ?_) fun _ _ e => e
    obtain ⟨rfl, h₅, tk₅, rfl, kp⟩ := hv
    replace F := Frk F kp
    refine wpAny_items_nil (⟨(by decide : 2 ≤ sizeLine), ?_⟩)
    replace F := F.push { cls := .type "tuple", data := .seq [Value.str (ws x) t, Value.str (ws y) u].toArray }
    have hT : Heap.IsTuple (h₅.push { cls := .type "tuple", data := .seq [Value.str (ws x) t, Value.str (ws y) u].toArray }) h₅.objs.size #[.str (ws x) t, .str (ws y) u] := ⟨_, Heap.get?_push_size _ rfl, rfl, _, rfl⟩
    refine pl_append (hP.keeps F.keep) (fun h6 hl6 sb => ?_) (by have := paired_len hE; simp at this; omega)
    have hlL : L ≠ l := by
      obtain ⟨o, n, e, _⟩ := hP
      exact (Nat.ne_of_lt (Nat.lt_of_lt_of_le (Heap.lt_size e) F.above)).symm
    have ns := F.ns.sameBut sb hlL
    refine wpAny_execs_cons (wpAny_Return_some (ldN ns rfl ?_))
    have e : setE x y ents = ents ++ [(x, y)] := by unfold setE; rw [hlk]; rfl
    rw [e]
    exact ⟨⟨_, _, rfl, fun b o hb e => sb.extBut b o hb (F.keep b o e)⟩, HdL.snoc (hP.keeps F.keep) (hE.mono fun _ _ y => y.keeps F.keep) hT hl6 sb⟩
end
end Mine
end

section
open PySem PySem.W PyProof.Rows PySem.Calls
set_option Elab.async false
set_option maxRecDepth 100000
set_option maxHeartbeats 2000000
namespace Mine
variable {w : World} {mg mb : Str → Option Value} {q : Program} {lo : List Str}
theorem fill13 : (fun (_ : OpenLaw) (_ : Params → Frag) => True) PySem.Challenge.rw_uq0030_01 Kx := by k_fill; trivial
/-- a def that takes any keywords, called with none -/
theorem enterD {A : Around} {E Q : Value → Shared → Prop} {s : Shared} {f : Addr} {args : List Value} {pre : List (Str × Value)} {kn : Str}
    {name qual : Str} {params : Arguments} {body : List Stmt} {scope : Scope} {dV kV doc pm cdv ct oc : Value} {an od : Option Addr} {osl : Array (Option Value)} {n : Nat}
    (G : Gd w q lo mg mb s.heap) (R : Rm (n + 1) A) (ho : (Kx w.params).lookup f = some ⟨oc, od, .func (fnOf name qual params body scope dV kV doc pm an cdv ct), osl⟩) (hcd : codeIn (Kx w.params) cdv qual = true)
    (hbind : bindArgs (fnOf name qual params body scope dV kV doc pm an cdv ct) ⟨args, []⟩ = (alloc emptyDict >>= fun d => pure (pre ++ [(kn, .ref d)]))) (hloc : ∀ d, ∀ y ∈ pre ++ [(kn, Value.ref d)], scope.names.lookup y.1 = some .local)
    (h : ∀ L h₁ A', Fr s.heap L h₁ (fun y => (pre ++ [(kn, Value.ref s.heap.objs.size)]).reverse.lookup y) → h₁.get? s.heap.objs.size = some emptyDict → s.heap.objs.size ≠ L → (Kx w.params).In s.heap → TopRead q lo mg mb s.heap → Rm n A' → A'.handled = A.handled →
      wpAny (model pw w) A' (execs body (envOf qual scope L f cdv)) (fun fl s' => Q (match fl with | .ret v => v | _ => .none) s') (fun _ _ => False) { s with heap := h₁, toks := s.toks + (pre.length + 1) })
    (hco : scope.isCoroutine = false) (hgen : scope.isGenerator = false) (hk : scope.kind = .function) (hcell : ∀ x ∈ scope.names, x.2 ≠ .cell) : wpAny (model pw w) A (call (.ref f) args) Q E s := by
  refine wpAny_call ?_
  refine codeAny_call_function (fd := fnOf name qual params body scope dV kV doc pm an cdv ct) R.depth (G.X _ _ ho) rfl hco hgen rfl (codeRec_of G.X hcd) ?_
  rw [hbind]
  refine wpAny_bind (wpAny_alloc (wpAny_pure ?_))
  refine wpAny_newFunctionEnv hcell (hloc _) (fun h₀ hns₀ hsb₀ => ?_) hk
  have k1 : Kp s.heap (s.heap.push emptyDict) := fun b o e => Heap.get?_push_of_some _ e
  have k0 : Kp (s.heap.push emptyDict) h₀ := fun b o e => hsb₀.extBut b o (Nat.ne_of_lt (Heap.lt_size e)) (Heap.get?_push_of_some _ e)
  refine ⟨(G.T.keeps k1).nolimit.fresh _ hsb₀, codeAny_func ?_⟩
  have e0 : (s.heap.push emptyDict).get? s.heap.objs.size = some emptyDict := Heap.get?_push_size _ rfl
  have r := h (s.heap.push emptyDict).objs.size h₀ (A.deeper (callEnv (fnOf name qual params body scope dV kV doc pm an cdv ct) (s.heap.push emptyDict).objs.size f)) ⟨hns₀, fun b o e => k0 b o (k1 b o e), by rw [Heap.size_push]; exact Nat.le_succ _⟩ (k0 _ _ e0) (Nat.ne_of_lt (Heap.lt_size e0)) G.X G.T R.deeper rfl
  have el : (pre ++ [(kn, Value.ref s.heap.objs.size)]).length = pre.length + 1 := by simp
  rw [← el] at r
  exact wpAny_mono r (fun _ _ y => y) fun _ _ y => y.elim
section
variable {A : Around} {E : Value → Shared → Prop} {s : Shared}
theorem hdr_add {n : Nat} {p dx l : Addr} {ents : List (List Nat × List Nat)} {x y : List Nat} {t u : Tok} (G : Gd w q lo mg mb s.heap) (R : Rm (n + 2) A) (hA : A.handled = none) (HO : HdO s.heap p dx l) (HL : HdL s.heap l ents) (hx : Safe x) (hy : Safe y) (hn : ents.length ≤ 500) :
    wpAny (model pw w) A (call (.ref 286) [.ref p, .str (ws x) t, .str (ws y) u]) (fun _ s' => But l s s' ∧ HdL s'.heap l (ents ++ [(x, y)])) E s := by
  refine enterD (f := 286) (name := S "add_header") (qual := S "Headers.add_header") (params := mA 22 16) (body := mB 22 16) (scope := mS 22 16) (pre := [(S "self", .ref p), (S "_name", .str (ws x) t), (S "_value", .str (ws y) u)]) (kn := S "_params") G R rfl rfl (by kernel_rfl) ?_ ?_ rfl rfl rfl (by decide)
  · intro d
    exact locs rfl
  intro L h₁ A' F hd hdL X T R' hh
  replace hh := hh.trans hA
  (with_unfolding_all show wpAny _ _ (execs (_ :: _) _) _ _ _)
  refine wpAny_execs_cons (wpAny_Assign_Name (List_ (wpAny_items_nil (wpAny_newList ?_))))
  have hP0 : PlainL (h₁.push { cls := .type "list", data := .seq ([] : List Value).toArray }) h₁.objs.size #[] := ⟨_, _, Heap.get?_push_size _ rfl, rfl, rfl, rfl⟩
  have hDL : h₁.objs.size ≠ L := (Fr.neL F (size_none _)).symm
  have hD0 : s.heap.get? h₁.objs.size = none := Fr.noneBack F (size_none _)
  have hdD : s.heap.objs.size ≠ h₁.objs.size := Nat.ne_of_lt (Heap.lt_size hd)
  replace F := F.push { cls := .type "list", data := .seq ([] : List Value).toArray }
  replace hd := Heap.get?_push_of_some { cls := .type "list", data := .seq ([] : List Value).toArray } hd
  refine stS F (fun h₂ F s2 => ?_)
  replace hP0 := hP0.extBut s2.extBut hDL
  replace hd := s2.extBut _ _ hdL hd
  refine wpAny_execs_cons (wpAny_If (wpAny_isTrue_Compare1 (ld F rfl (wpAny_Constant_none (isNot_none (wpAny_truthy_bool ?_))))))
  rw [if_pos (show (!(Value.str (ws y) u == Value.none)) = true from rfl)]
  refine wpAny_execs_cons (wpAny_Assign_Name (methodCall_KW (ld F rfl (meth_hdr (f := 188) F X (HO.keeps F.keep) (by kernel_rfl) (by kernel_rfl) (by kernel_rfl) (by decide +kernel) (callWith_KW (K := Kx w.params) X (by kernel_rfl) (by rfl) (wpAny_items_cons (ld F rfl (wpAny_items_nil (kwAll_cons (wpAny_Constant_bool (kwAll_nil (⟨X.keeps F.keep, ?_⟩))))))))))))
  refine wpAny_mono (conv (E := fun _ _ => False) (Gd.keeps ⟨X, T⟩ F.keep) R' hy) (fun v' s' hv => ?_) fun _ _ e => e
  obtain ⟨rfl, h₄, tk₄, rfl, kp⟩ := hv
  replace F := Frk F kp
  replace hP0 := hP0.keeps kp
  replace hd := kp _ _ hd
  refine stS F (fun h₅ F s5 => ?_)
  replace hP0 := hP0.extBut s5.extBut hDL
  replace hd := s5.extBut _ _ hdL hd
  refine wpAny_execs_cons (wpAny_Expr_any (wpAny_Call_append (by rfl) (by rfl) (by rfl) (by rfl) (ld F rfl (⟨_, #[], rfl, hP0, ?_⟩))))
  refine ld F rfl (pl_append hP0 (fun h6 hP6 s6 => ?_) (by decide))
  replace F := Frx F (Ne.symm hDL) hD0 (fun b o hb e => s6.extBut b o hb e)
  replace hd := s6.extBut _ _ hdD hd
  refine wpAny_execs_nil ?_
  have hdat : h6.DictAt (strKind pw w) s.heap.objs.size [] 0 := ⟨_, #[], hd, ⟨rfl, rfl, rfl⟩, rfl, (fun e he => by simp at he), .nil, List.nodup_nil⟩
  refine wpAny_execs_cons ?_
  refine wpAny_For_items_locals (knd := strKind pw w) (d := s.heap.objs.size) (kvs := []) (ep := 0) hh rfl rfl rfl hdL ?_ hdat F.ns (by rfl) (by rfl) (fun Q' hq => ld F rfl hq) (fun _ m' => m' = _) rfl ?_ ?_ (hE := PassesOwn.never)
  · exact beq_eq_false_iff_ne.mpr (fun e => absurd (Heap.lt_size (X 289 (o_289 w.params) rfl)) (by rw [e]; decide))
  · intro i k v key m₁ s₁ hi
    cases hi
  · intro h7 tk7 m' hn' hJ hk
    subst hJ
    replace F : Fr s.heap L h7 _ := ⟨hn', fun b o e => hk b o (fun hb => by subst hb; exact absurd (Heap.lt_size e) (Nat.not_lt.mpr F.above)) (F.keep b o e), F.above⟩
    obtain ⟨oP, nP, eP, rP⟩ := hP6
    have hP7 : PlainL h7 h₁.objs.size #[Value.str (ws y) u] := ⟨oP, nP, hk _ _ hDL eP, rP⟩
    obtain ⟨items, hP, hE⟩ := HL
    refine wpAny_execs_cons (wpAny_Expr_any (wpAny_Call_append (by rfl) (by rfl) (by rfl) (by rfl) (Attribute_Name_ (ld F rfl (get_hdrs F X (HO.keeps F.keep) (⟨l, items, rfl, hP.keeps F.keep, ?_⟩))))))
    refine wpAny_Tuple (wpAny_items_cons (methodCall_KW (ld F rfl (meth_hdr (f := 188) F X (HO.keeps F.keep) (by kernel_rfl) (by kernel_rfl) (by kernel_rfl) (by decide +kernel) (callWith_KW (K := Kx w.params) X (by kernel_rfl) (by rfl) (wpAny_items_cons (ld F rfl (wpAny_items_nil (kwAll_cons (wpAny_Constant_bool (kwAll_nil (⟨X.keeps F.keep, ?_⟩))))))))))))
    refine wpAny_mono (conv (E := fun _ _ => False) (Gd.keeps ⟨X, T⟩ F.keep) R' hx) (fun v' s' hv => ?_) fun _ _ e => e
    obtain ⟨rfl, h₈, tk₈, rfl, kp⟩ := hv
    replace F := Frk F kp
    replace hP7 := hP7.keeps kp
    refine wpAny_items_cons (joinC (by rfl) (by rfl) (ld F rfl (⟨_, _, [ws y], rfl, hP7.isList, .cons _ _ .nil, ?_, fun t' k' => ?_⟩)))
    · have := hy.1
      show (ws y).length + 0 + 1 * _ ≤ _
      rw [ws_len]
      show y.length + 0 + 1 * 2 ≤ 16777216
      omega
    refine wpAny_items_nil (⟨(by decide : 2 ≤ sizeLine), ?_⟩)
    replace F := F.push { cls := .type "tuple", data := .seq [Value.str (ws x) t, Value.str (Txt.join (Str.ofString "; ") [ws y]) t'].toArray }
    have hT : Heap.IsTuple (h₈.push { cls := .type "tuple", data := .seq [Value.str (ws x) t, Value.str (Txt.join (Str.ofString "; ") [ws y]) t'].toArray }) h₈.objs.size #[.str (ws x) t, .str (ws y) t'] := ⟨_, Heap.get?_push_size _ rfl, rfl, _, rfl⟩
    refine pl_append (hP.keeps F.keep) (fun h9 hl9 sb => ?_) (by have := paired_len hE; simp at this; omega)
    refine wpAny_execs_nil ?_
    exact ⟨⟨_, _, rfl, fun b o hb e => sb.extBut b o hb (F.keep b o e)⟩, HdL.snoc (hP.keeps F.keep) (hE.mono fun _ _ y => y.keeps F.keep) hT hl9 sb⟩
end
end Mine
end

section
open PySem PySem.W PyProof.Rows PySem.Calls
set_option Elab.async false
set_option maxRecDepth 100000
set_option maxHeartbeats 2000000
namespace Mine
variable {w : World} {mg mb : Str → Option Value} {q : Program} {lo : List Str}
theorem fill14 : (fun (_ : OpenLaw) (_ : Params → Frag) => True) PySem.Challenge.rw_uq0030_01 Kx := by k_fill; trivial
noncomputable def lamP (p1 : Pos) : Arguments := { posonlyargs := [], args := [{ arg := "one", annotation := none, pos := p1 }], vararg := none, kwonlyargs := [], kw_defaults := [], kwarg := none, defaults := [] }
noncomputable def lamB (p2 p3 p4 : Pos) : Expr := .Call (.Name "len" p2) [.Name "one" p3] [] p4
noncomputable def lamS : Scope := { kind := .function, names := [(Str.ofString "one", .local), (Str.ofString "len", .globalImplicit)], isGenerator := false, isCoroutine := false, more := [] }
noncomputable def LamAt (h : Heap) (f : Addr) : Prop := ∃ qual p1 p2 p3 p4 pm c' ctv, h.get? f = some (kla_obj (S "<lambda>") qual (lamP p1) (lamB p2 p3 p4) lamS [] pm c' ctv) ∧ h.CodeRec (.ref c') qual
theorem LamAt.keeps {h h' : Heap} {f : Addr} (x : LamAt h f) (k : Kp h h') : LamAt h' f := by
  obtain ⟨qual, p1, p2, p3, p4, pm, c', ctv, e, c, oc, vs, t, h1, h2, h3, h4⟩ := x
  exact ⟨qual, p1, p2, p3, p4, pm, c', ctv, k _ _ e, c, oc, vs, t, h1, k _ _ h2, h3, h4⟩
noncomputable def PL (h : Heap) (r : Addr) (items : Array Value) : Prop := ∃ n, h.get? r = some { cls := .type "list", data := .seq items n }
theorem PL.keeps {h h' : Heap} {r : Addr} {items : Array Value} (x : PL h r items) (k : Kp h h') : PL h' r items := by obtain ⟨n, e⟩ := x; exact ⟨n, k _ _ e⟩
theorem PL.isList {h : Heap} {r : Addr} {items : Array Value} (x : PL h r items) : h.IsList r items := by obtain ⟨n, e⟩ := x; exact ⟨_, e, rfl, n, rfl⟩
/-- a row of words -/
noncomputable def WR (W : List (List Nat)) : Prop := W.length ≤ 100 ∧ ∀ x ∈ W, x.length ≤ 100
section
variable {A : Around} {E : Value → Shared → Prop} {s : Shared}
theorem lam_call {n : Nat} {f : Addr} {x : List Nat} {t : Tok} (hL : LamAt s.heap f) (G : Gd w q lo mg mb s.heap) (R : Rm (n + 1) A) (hx : x.length ≤ 1000) :
    wpAny (model pw w) A (call (.ref f) [.str (ws x) t]) (fun v s' => (∃ t, v = .int x.length t) ∧ Keeps s s') E s := by
  obtain ⟨qual, p1, p2, p3, p4, pm, c', ctv, ho, hcd⟩ := hL
  refine wpAny_call (kla_callFunE R.depth ho rfl rfl rfl rfl hcd ?_)
  have hb : bindArgs (kla_fn (S "<lambda>") qual (lamP p1) (lamB p2 p3 p4) lamS [] pm (.ref c') ctv) ⟨[.str (ws x) t], []⟩ = pure [(S "one", .str (ws x) t)] := by kernel_rfl
  rw [hb]
  refine wpAny_pure (wpAny_newFunctionEnv (show ∀ y ∈ lamS.names, y.2 ≠ .cell from by decide) (locs rfl) (fun h₁ hns hsb => ⟨G.T.nolimit.fresh _ hsb, kla_codeExpr ?_⟩) rfl)
  show wpAny _ _ (eval (.Call (.Name "len" p2) [.Name "one" p3] [] p4) (envOf qual lamS s.heap.objs.size f (.ref c'))) _ _ _
  have F : Fr s.heap s.heap.objs.size h₁ (fun y => [(S "one", Value.str (ws x) t)].reverse.lookup y) := ⟨hns, fun b o e => hsb.extBut b o (Nat.ne_of_lt (Heap.lt_size e)) (Heap.get?_push_of_some _ e), Nat.le_refl _⟩
  have X := G.X
  have T := G.T
  refine Call_Name1 (name_B F X T (by k_is) (by boot_fast) (by decide) (PySem.callWith_builtin1 (ld F rfl (len_ws (by omega) ?_))))
  exact ⟨⟨_, rfl⟩, _, _, rfl, F.keep⟩
noncomputable def bisRF (ls : List Nat) (x : Int) : Nat → Nat → Nat → Nat
  | 0, lo, _ => lo
  | n + 1, lo, hi => if lo < hi then (if x < (ls.getD ((lo + hi) / 2) 0 : Nat) then bisRF ls x n lo ((lo + hi) / 2) else bisRF ls x n ((lo + hi) / 2 + 1) hi) else lo
noncomputable def bisLF (ls : List Nat) (x : Int) : Nat → Nat → Nat → Nat
  | 0, lo, _ => lo
  | n + 1, lo, hi => if lo < hi then (if ((ls.getD ((lo + hi) / 2) 0 : Nat) : Int) < x then bisLF ls x n ((lo + hi) / 2 + 1) hi else bisLF ls x n lo ((lo + hi) / 2)) else lo
noncomputable def lensOf (W : List (List Nat)) : List Nat := W.map (·.length)
theorem len_at {W : List (List Nat)} {k : Nat} {x : List Nat} (h : W[k]? = some x) : (lensOf W).getD k 0 = x.length := by
  unfold lensOf
  rw [List.getD_eq_getElem?_getD, List.getElem?_map, h]; rfl
theorem bisR_succ (ls : List Nat) (x : Int) (n l i : Nat) : bisRF ls x (n + 1) l i = if l < i then (if x < (ls.getD ((l + i) / 2) 0 : Nat) then bisRF ls x n l ((l + i) / 2) else bisRF ls x n ((l + i) / 2 + 1) i) else l := rfl
theorem bisL_succ (ls : List Nat) (x : Int) (n l i : Nat) : bisLF ls x (n + 1) l i = if l < i then (if ((ls.getD ((l + i) / 2) 0 : Nat) : Int) < x then bisLF ls x n ((l + i) / 2 + 1) i else bisLF ls x n l ((l + i) / 2)) else l := rfl
theorem bisR_done {ls : List Nat} {x : Int} {n l h : Nat} (e : ¬ l < h) : bisRF ls x n l h = l := by
  cases n with
  | zero => rfl
  | succ n => unfold bisRF; rw [if_neg e]
theorem bisL_done {ls : List Nat} {x : Int} {n l h : Nat} (e : ¬ l < h) : bisLF ls x n l h = l := by
  cases n with
  | zero => rfl
  | succ n => unfold bisLF; rw [if_neg e]
theorem bis_right {n : Nat} {r f : Addr} {items : Array Value} {W : List (List Nat)} {x : Int} {t u : Tok} (G : Gd w q lo mg mb s.heap) (R : Rm (n + 2) A) (hP : s.heap.IsList r items) (hW : WL items.toList W) (hr : WR W) (hL : LamAt s.heap f) :
    wpAny (model pw w) A (call (.ref 70) [.ref r, .int x t, .int 0 u, .none] [(S "key", .ref f)]) (fun v s' => (∃ t, v = .int (bisRF (lensOf W) x W.length 0 W.length : Nat) t) ∧ Keeps s s') E s := by
  refine enter (f := 70) (name := S "bisect_right") (qual := S "bisect_right") (params := fA 10) (body := fB 10) (scope := fS 10) (binds := [(S "a", .ref r), (S "x", .int x t), (S "lo", .int 0 u), (S "hi", .none), (S "key", .ref f)]) G R rfl rfl
    (binds_K (K := Kx w.params) (T := 62) (o := o_62 w.params) G.X rfl rfl rfl rfl rfl) (locs rfl) ?_ rfl rfl rfl (by decide)
  intro L h₁ A' F N X T R' hh
  have hsz : items.size = W.length := by have := hW.len; simpa using this
  (with_unfolding_all show wpAny _ _ (execs (_ :: _) _) _ _ _)
  refine wpAny_execs_cons (wpAny_If (wpAny_isTrue_Compare1 (ld F rfl (wpAny_Constant_int (P.lt_int (wpAny_truthy_bool ?_))))))
  rw [if_neg (by decide)]
  refine wpAny_execs_nil (wpAny_execs_cons (wpAny_If (wpAny_isTrue_Compare1 (ld F rfl (wpAny_Constant_none (is_none (wpAny_truthy_bool ?_)))))))
  rw [if_pos (show (Value.none == Value.none) = true from rfl)]
  refine wpAny_execs_cons (wpAny_Assign_Name (Call_Name1 (name_B F X T (by k_is) (by boot_fast) (by decide) (PySem.callWith_builtin1 (ld F rfl (call_len_list (lst_of (F.keep r) hP) (by have := hr.1; omega) ?_))))))
  refine stS F (fun h₂ F s2 => ?_)
  refine wpAny_execs_nil (wpAny_execs_cons (wpAny_If (wpAny_isTrue_Compare1 (ld F rfl (wpAny_Constant_none (is_none (wpAny_truthy_bool ?_)))))))
  rw [if_neg (show ¬ ((Value.ref f == Value.none) = true) from Bool.false_ne_true)]
  refine wpAny_execs_cons (wpAny_mono (While_ (Q := fun fl s' => fl = .next ∧ ∃ h tk m t', s' = { s with heap := h, toks := tk } ∧ Fr s.heap L h m ∧ m (S "lo") = some (.int (bisRF (lensOf W) x W.length 0 W.length : Nat) t')) (I := fun k s' => ∃ h tk m l i tl ti, s' = { s with heap := h, toks := tk } ∧ Fr s.heap L h m ∧ i ≤ W.length ∧ i ≤ l + k ∧ bisRF (lensOf W) x k l i = bisRF (lensOf W) x W.length 0 W.length ∧ m (S "a") = some (.ref r) ∧ m (S "x") = some (.int x t) ∧ m (S "key") = some (.ref f) ∧ m (S "lo") = some (.int (l : Nat) tl) ∧ m (S "hi") = some (.int (i : Nat) ti)) ?_ W.length ?_) ?rest fun _ _ e => e)
  case rest =>
    intro fl s' ⟨hf, h, tk, m, t', e, F, vl⟩
    subst hf e
    refine wpAny_execs_nil (wpAny_execs_cons (wpAny_Return_some (ld F vl ?_)))
    exact ⟨⟨_, rfl⟩, _, _, rfl, F.keep⟩
  · intro k s' E' ⟨h, tk, m, l, i, tl, ti, e, F, hi, hik, hb, va, vx, vk, vl, vi⟩
    subst e
    refine wpAny_isTrue_Compare1 (ld F vl (ld F vi (P.lt_int (wpAny_truthy_bool ?_))))
    by_cases hlt : l < i
    · rw [if_pos (by simp; omega)]
      obtain ⟨k, rfl⟩ : ∃ k', k = k' + 1 := ⟨k - 1, by omega⟩
      have hmid : (l + i) / 2 < W.length := by omega
      obtain ⟨y, hy⟩ : ∃ y, W[(l + i) / 2]? = some y := ⟨_, List.getElem?_eq_getElem hmid⟩
      obtain ⟨ty, hty⟩ := hW.get hy
      refine wpAny_execs_cons (wpAny_Assign_Name (wpAny_BinOp (wpAny_BinOp (ld F vl (ld F vi (P.add_int (wpAny_Constant_int (floordiv_int (by decide) ?_ (Or.inl (PyProof.noPylong_small (by decide)))))))))))
      have em : ((l : Int) + (i : Int)).fdiv 2 = (((l + i) / 2 : Nat) : Int) := by
        rw [Int.fdiv_eq_ediv_of_nonneg _ (by decide)]; omega
      rw [em]
      refine stS F (fun h₃ F s3 => ?_)
      refine wpAny_execs_cons (wpAny_If (wpAny_isTrue_Compare1 (ld F vx (Call_ (ld F vk ?_)))))
      have hLf := hL.keeps F.keep
      obtain ⟨qual, p1, p2, p3, p4, pm, c', ctv, hfo, hfc⟩ := hL
      refine PyProof.Rows.callWith_def (o := kla_obj (S "<lambda>") qual (lamP p1) (lamB p2 p3 p4) lamS [] pm c' ctv) rfl (wpAny_items_cons (Subscript_ (ld F va (ld F rfl (item_L (lst_of (F.keep r) hP) (by simpa using hty) (by have := hr.1; omega) (wpAny_items_nil (⟨F.keep _ _ hfo, ?_⟩)))))))
      refine wpAny_mono (lam_call (E := E') hLf (Gd.keeps ⟨X, T⟩ F.keep) R' (by have := hr.2 y (List.mem_of_getElem? hy); omega)) (fun v' s' hv => ?_) fun _ _ e => e
      obtain ⟨⟨tv, rfl⟩, h₄, tk₄, rfl, kp⟩ := hv
      replace F := Frk F kp
      refine P.lt_int (wpAny_truthy_bool ?_)
      rw [bisR_succ, if_pos hlt, len_at hy] at hb
      by_cases hx : x < (y.length : Int)
      · rw [if_pos (decide_eq_true hx)]
        rw [if_pos hx] at hb
        refine wpAny_execs_cons (wpAny_Assign_Name (ld F rfl (stS F (fun h₅ F s5 => ?_))))
        refine wpAny_execs_nil (wpAny_execs_nil ?_)
        exact ⟨k, Nat.lt_succ_self _, _, _, _, l, (l + i) / 2, _, _, rfl, F, by omega, by omega, hb, va, vx, vk, vl, rfl⟩
      · rw [if_neg (by simpa using hx)]
        rw [if_neg hx] at hb
        refine wpAny_execs_cons (wpAny_Assign_Name (wpAny_BinOp (ld F rfl (wpAny_Constant_int (P.add_int (stS F (fun h₅ F s5 => ?_)))))))
        refine wpAny_execs_nil (wpAny_execs_nil ?_)
        exact ⟨k, Nat.lt_succ_self _, _, _, _, (l + i) / 2 + 1, i, _, _, rfl, F, by omega, by omega, hb, va, vx, vk, rfl, vi⟩
    · rw [if_neg (by simp; omega)]
      rw [bisR_done hlt] at hb
      exact ⟨rfl, _, _, m, _, rfl, F, by rw [← hb]; exact vl⟩
  · exact ⟨_, _, _, 0, W.length, _, _, rfl, F, Nat.le_refl _, by omega, rfl, rfl, rfl, rfl, rfl, by rw [← hsz]; rfl⟩
theorem bis_left {n : Nat} {r f : Addr} {items : Array Value} {W : List (List Nat)} {x : Int} {t : Tok} (G : Gd w q lo mg mb s.heap) (R : Rm (n + 2) A) (hP : s.heap.IsList r items) (hW : WL items.toList W) (hr : WR W) (hL : LamAt s.heap f) :
    wpAny (model pw w) A (call (.ref 79) [.ref r, .int x t] [(S "key", .ref f)]) (fun v s' => (∃ t, v = .int (bisLF (lensOf W) x W.length 0 W.length : Nat) t) ∧ Keeps s s') E s := by
  refine enter (f := 79) (name := S "bisect_left") (qual := S "bisect_left") (params := fA 11) (body := fB 11) (scope := fS 11) (binds := [(S "a", .ref r), (S "x", .int x t), (S "lo", .int 0 354), (S "hi", .none), (S "key", .ref f)]) G R rfl rfl
    (binds_K (K := Kx w.params) (T := 71) (o := o_71 w.params) G.X rfl rfl rfl rfl rfl) (locs rfl) ?_ rfl rfl rfl (by decide)
  intro L h₁ A' F N X T R' hh
  have hsz : items.size = W.length := by have := hW.len; simpa using this
  (with_unfolding_all show wpAny _ _ (execs (_ :: _) _) _ _ _)
  refine wpAny_execs_cons (wpAny_If (wpAny_isTrue_Compare1 (ld F rfl (wpAny_Constant_int (P.lt_int (wpAny_truthy_bool ?_))))))
  rw [if_neg (by decide)]
  refine wpAny_execs_nil (wpAny_execs_cons (wpAny_If (wpAny_isTrue_Compare1 (ld F rfl (wpAny_Constant_none (is_none (wpAny_truthy_bool ?_)))))))
  rw [if_pos (show (Value.none == Value.none) = true from rfl)]
  refine wpAny_execs_cons (wpAny_Assign_Name (Call_Name1 (name_B F X T (by k_is) (by boot_fast) (by decide) (PySem.callWith_builtin1 (ld F rfl (call_len_list (lst_of (F.keep r) hP) (by have := hr.1; omega) ?_))))))
  refine stS F (fun h₂ F s2 => ?_)
  refine wpAny_execs_nil (wpAny_execs_cons (wpAny_If (wpAny_isTrue_Compare1 (ld F rfl (wpAny_Constant_none (is_none (wpAny_truthy_bool ?_)))))))
  rw [if_neg (show ¬ ((Value.ref f == Value.none) = true) from Bool.false_ne_true)]
  refine wpAny_execs_cons (wpAny_mono (While_ (Q := fun fl s' => fl = .next ∧ ∃ h tk m t', s' = { s with heap := h, toks := tk } ∧ Fr s.heap L h m ∧ m (S "lo") = some (.int (bisLF (lensOf W) x W.length 0 W.length : Nat) t')) (I := fun k s' => ∃ h tk m l i tl ti, s' = { s with heap := h, toks := tk } ∧ Fr s.heap L h m ∧ i ≤ W.length ∧ i ≤ l + k ∧ bisLF (lensOf W) x k l i = bisLF (lensOf W) x W.length 0 W.length ∧ m (S "a") = some (.ref r) ∧ m (S "x") = some (.int x t) ∧ m (S "key") = some (.ref f) ∧ m (S "lo") = some (.int (l : Nat) tl) ∧ m (S "hi") = some (.int (i : Nat) ti)) ?_ W.length ?_) ?rest fun _ _ e => e)
  case rest =>
    intro fl s' ⟨hf, h, tk, m, t', e, F, vl⟩
    subst hf e
    refine wpAny_execs_nil (wpAny_execs_cons (wpAny_Return_some (ld F vl ?_)))
    exact ⟨⟨_, rfl⟩, _, _, rfl, F.keep⟩
  · intro k s' E' ⟨h, tk, m, l, i, tl, ti, e, F, hi, hik, hb, va, vx, vk, vl, vi⟩
    subst e
    refine wpAny_isTrue_Compare1 (ld F vl (ld F vi (P.lt_int (wpAny_truthy_bool ?_))))
    by_cases hlt : l < i
    · rw [if_pos (by simp; omega)]
      obtain ⟨k, rfl⟩ : ∃ k', k = k' + 1 := ⟨k - 1, by omega⟩
      have hmid : (l + i) / 2 < W.length := by omega
      obtain ⟨y, hy⟩ : ∃ y, W[(l + i) / 2]? = some y := ⟨_, List.getElem?_eq_getElem hmid⟩
      obtain ⟨ty, hty⟩ := hW.get hy
      refine wpAny_execs_cons (wpAny_Assign_Name (wpAny_BinOp (wpAny_BinOp (ld F vl (ld F vi (P.add_int (wpAny_Constant_int (floordiv_int (by decide) ?_ (Or.inl (PyProof.noPylong_small (by decide)))))))))))
      have em : ((l : Int) + (i : Int)).fdiv 2 = (((l + i) / 2 : Nat) : Int) := by
        rw [Int.fdiv_eq_ediv_of_nonneg _ (by decide)]; omega
      rw [em]
      refine stS F (fun h₃ F s3 => ?_)
      refine wpAny_execs_cons (wpAny_If (wpAny_isTrue_Compare1 (Call_ (ld F vk ?_))))
      have hLf := hL.keeps F.keep
      obtain ⟨qual, p1, p2, p3, p4, pm, c', ctv, hfo, hfc⟩ := hL
      refine PyProof.Rows.callWith_def (o := kla_obj (S "<lambda>") qual (lamP p1) (lamB p2 p3 p4) lamS [] pm c' ctv) rfl (wpAny_items_cons (Subscript_ (ld F va (ld F rfl (item_L (lst_of (F.keep r) hP) (by simpa using hty) (by have := hr.1; omega) (wpAny_items_nil (⟨F.keep _ _ hfo, ?_⟩)))))))
      refine wpAny_mono (lam_call (E := E') hLf (Gd.keeps ⟨X, T⟩ F.keep) R' (by have := hr.2 y (List.mem_of_getElem? hy); omega)) (fun v' s' hv => ?_) fun _ _ e => e
      obtain ⟨⟨tv, rfl⟩, h₄, tk₄, rfl, kp⟩ := hv
      replace F := Frk F kp
      refine ld F vx (P.lt_int (wpAny_truthy_bool ?_))
      rw [bisL_succ, if_pos hlt, len_at hy] at hb
      by_cases hx : (y.length : Int) < x
      · rw [if_pos (decide_eq_true hx)]
        rw [if_pos hx] at hb
        refine wpAny_execs_cons (wpAny_Assign_Name (wpAny_BinOp (ld F rfl (wpAny_Constant_int (P.add_int (stS F (fun h₅ F s5 => ?_)))))))
        refine wpAny_execs_nil (wpAny_execs_nil ?_)
        exact ⟨k, Nat.lt_succ_self _, _, _, _, (l + i) / 2 + 1, i, _, _, rfl, F, by omega, by omega, hb, va, vx, vk, rfl, vi⟩
      · rw [if_neg (by simpa using hx)]
        rw [if_neg hx] at hb
        refine wpAny_execs_cons (wpAny_Assign_Name (ld F rfl (stS F (fun h₅ F s5 => ?_))))
        refine wpAny_execs_nil (wpAny_execs_nil ?_)
        exact ⟨k, Nat.lt_succ_self _, _, _, _, l, (l + i) / 2, _, _, rfl, F, by omega, by omega, hb, va, vx, vk, vl, rfl⟩
    · rw [if_neg (by simp; omega)]
      rw [bisL_done hlt] at hb
      exact ⟨rfl, _, _, m, _, rfl, F, by rw [← hb]; exact vl⟩
  · exact ⟨_, _, _, 0, W.length, _, _, rfl, F, Nat.le_refl _, by omega, rfl, rfl, rfl, rfl, rfl, by rw [← hsz]; rfl⟩
theorem bisR_le (ls : List Nat) (x : Int) : ∀ (n l i : Nat), l ≤ i → bisRF ls x n l i ≤ i
  | 0, l, i, h => h
  | n + 1, l, i, h => by
    rw [bisR_succ]
    by_cases e : l < i
    · rw [if_pos e]
      by_cases e2 : x < (ls.getD ((l + i) / 2) 0 : Nat)
      · rw [if_pos e2]; exact Nat.le_trans (bisR_le ls x n l ((l + i) / 2) (by omega)) (by omega)
      · rw [if_neg e2]; exact bisR_le ls x n ((l + i) / 2 + 1) i (by omega)
    · rw [if_neg e]; exact h
noncomputable def insW (W : List (List Nat)) (k : Nat) (y : List Nat) : List (List Nat) := W.take k ++ y :: W.drop k
noncomputable def insortF (W : List (List Nat)) (y : List Nat) : List (List Nat) := insW W (bisRF (lensOf W) y.length W.length 0 W.length) y
theorem WL.ins {vs : List Value} {W : List (List Nat)} (h : WL vs W) (k : Nat) (y : List Nat) (t : Tok) : WL (vs.take k ++ Value.str (ws y) t :: vs.drop k) (insW W k y) := by
  unfold insW
  induction h generalizing k with
  | nil => simp only [List.take_nil, List.drop_nil, List.nil_append]; exact WL.cons y t WL.nil
  | cons a hr ih =>
    cases k with
    | zero => exact WL.cons y t (Paired.cons a hr)
    | succ k => exact Paired.cons a (ih k)
theorem ins_arr (l : List Value) (k : Nat) (y : Value) : (l.toArray.extract 0 k).push y ++ l.toArray.extract k = (l.take k ++ y :: l.drop k).toArray := by
  apply Array.toList_inj.mp
  simp
  exact List.take_of_length_le (by simp)
theorem pl_insert {r : Addr} {items : Array Value} {k : Nat} {u : Tok} {y : Value} {Q : Value → Shared → Prop} (hP : PL s.heap r items) (hk : k ≤ items.size) (hz : items.size ≤ 1000)
    (h : ∀ h', Heap.SameBut r s.heap h' → PL h' r (items.toList.take k ++ y :: items.toList.drop k).toArray → Q .none { s with heap := h' }) : wpAny (model pw w) A (call (.builtin "list.insert") [.ref r, .int k u, y]) Q E s := by
  obtain ⟨n, ho⟩ := hP
  obtain ⟨x, hx⟩ : ∃ x : Int, x = (k : Int) := ⟨_, rfl⟩
  rw [← hx]
  have hfi : ¬(!Builtin.List.listFitsIndex x) = true := by
    rw [fitsIndex_of (by omega) (by omega)]; decide
  have M := PySem.AutoSeq1.list_insert_list_int_val_1 r items n x u y hfi (Nat.le_trans hz (by decide))
  refine call_meets PySem.F.slot_list_insert ⟨_, ho, rfl⟩ PySem.F.entry_list_insert (PySem.F.args_list_insert_3 _ _ _) M ⟨ho, h _ (Heap.SameBut.update ..) ?_⟩
  have h0 : ¬ (x < 0) := by omega
  have hk' : x.toNat = k := by omega
  have e : (fun xs : Array Value => have j := if x < 0 then (x + (xs.size : Int)).toNat else min x.toNat xs.size; (xs.extract 0 j).push y ++ xs.extract j) items = (items.toList.take k ++ y :: items.toList.drop k).toArray := by
    show (items.extract 0 (if x < 0 then (x + (items.size : Int)).toNat else min x.toNat items.size)).push y ++ items.extract (if x < 0 then (x + (items.size : Int)).toNat else min x.toNat items.size) = _
    rw [if_neg h0, hk', Nat.min_eq_left hk, ← ins_arr]
  rw [← e]
  exact ⟨_, Heap.get?_update_self _ ho rfl⟩
theorem insort {n : Nat} {r f : Addr} {items : Array Value} {W : List (List Nat)} {y : List Nat} {t : Tok} (G : Gd w q lo mg mb s.heap) (R : Rm (n + 3) A) (hP : PL s.heap r items) (hW : WL items.toList W) (hr : WR W) (hy : y.length ≤ 100) (hL : LamAt s.heap f) :
    wpAny (model pw w) A (call (.ref 61) [.ref r, .str (ws y) t] [(S "key", .ref f)]) (fun _ s' => But r s s' ∧ ∃ items', PL s'.heap r items' ∧ WL items'.toList (insortF W y)) E s := by
  refine enter (f := 61) (name := S "insort_right") (qual := S "insort_right") (params := fA 9) (body := fB 9) (scope := fS 9) (binds := [(S "a", .ref r), (S "x", .str (ws y) t), (S "lo", .int 0 327), (S "hi", .none), (S "key", .ref f)]) G R rfl rfl
    (binds_K (K := Kx w.params) (T := 53) (o := o_53 w.params) G.X rfl rfl rfl rfl rfl) (locs rfl) ?_ rfl rfl rfl (by decide)
  intro L h₁ A' F N X T R' hh
  have hsz : items.size = W.length := by have := hW.len; simpa using this
  (with_unfolding_all show wpAny _ _ (execs (_ :: _) _) _ _ _)
  refine wpAny_execs_cons (wpAny_If (wpAny_isTrue_Compare1 (ld F rfl (wpAny_Constant_none (is_none (wpAny_truthy_bool ?_))))))
  rw [if_neg (show ¬ ((Value.ref f == Value.none) = true) from Bool.false_ne_true)]
  refine wpAny_execs_cons (wpAny_Assign_Name (wpAny_Call_Name_kw (name_K F X T (by k_is) (callWith_KW (K := Kx w.params) X (by kernel_rfl) (by rfl) (wpAny_items_cons (ld F rfl (wpAny_items_cons (Call_ (ld F rfl ?_)))))))))
  have hLf := hL.keeps F.keep
  obtain ⟨qual, p1, p2, p3, p4, pm, c', ctv, hfo, hfc⟩ := hL
  refine PyProof.Rows.callWith_def (o := kla_obj (S "<lambda>") qual (lamP p1) (lamB p2 p3 p4) lamS [] pm c' ctv) rfl (wpAny_items_cons (ld F rfl (wpAny_items_nil (⟨F.keep _ _ hfo, ?_⟩))))
  refine wpAny_mono (lam_call (E := fun _ _ => False) hLf (Gd.keeps ⟨X, T⟩ F.keep) R' (by omega)) (fun v' s' hv => ?_) fun _ _ e => e
  obtain ⟨⟨tv, rfl⟩, h₂, tk₂, rfl, kp⟩ := hv
  replace F := Frk F kp
  refine wpAny_items_cons (ld F rfl (wpAny_items_cons (ld F rfl (wpAny_items_nil (kwAll_cons (ld F rfl (kwAll_nil (⟨X.keeps F.keep, ?_⟩))))))))
  refine wpAny_mono (bis_right (E := fun _ _ => False) (Gd.keeps ⟨X, T⟩ F.keep) R' (hP.keeps F.keep).isList hW hr (hLf.keeps kp)) (fun v' s' hv => ?_) fun _ _ e => e
  obtain ⟨⟨tl, rfl⟩, h₃, tk₃, rfl, kp⟩ := hv
  replace F := Frk F kp
  refine stS F (fun h₄ F s4 => ?_)
  have hP4 := hP.keeps F.keep
  have o4 := hP4
  obtain ⟨nl, o4⟩ := o4
  refine wpAny_execs_nil (wpAny_execs_cons (wpAny_Expr_any (Call_method2 (by rfl) (by rfl) (by rfl) (ld F rfl ?_))))
  refine ⟨"list", "list.insert", PySem.F.plainAttrs_list, PySem.F.slot_list_insert, PySem.F.type_list_insert, ⟨_, o4, rfl⟩, (fun a e => by cases e; exact ⟨_, o4, rfl⟩), ?_⟩
  refine Calls.callWith_builtin rfl (Calls.evalArgs_plain (Calls.spliced_cons ?_))
  refine ld F rfl (Calls.spliced_cons (ld F rfl (Calls.spliced_nil ?_)))
  refine pl_insert hP4 (by rw [hsz]; exact bisR_le _ _ _ _ _ (Nat.zero_le _)) (by have := hr.1; omega) (fun h5 sb hP5 => ?_)
  refine wpAny_execs_nil ?_
  refine ⟨⟨_, _, rfl, fun b o hb e => sb.extBut b o hb (F.keep b o e)⟩, _, hP5, ?_⟩
  rw [List.toList_toArray]
  exact hW.ins _ y t
end
end Mine
end

section
open PySem PySem.W PyProof.Rows PySem.Calls
set_option Elab.async false
set_option maxRecDepth 100000
set_option maxHeartbeats 2000000
namespace Mine
variable {w : World} {mg mb : Str → Option Value} {q : Program} {lo : List Str}
theorem fill15 : (fun (_ : OpenLaw) (_ : Params → Frag) => True) PySem.Challenge.rw_uq0030_01 Kx := by k_fill; trivial
/-- the module of the built-in names -/
noncomputable def BMain (mg : Str → Option Value) (h : Heap) : Prop := PyProof.Rows.BMain h mg
theorem BMain.keeps {h h' : Heap} (x : BMain mg h) (k : Kp h h') : BMain mg h' := by
  obtain ⟨bm, ob, a, b, c, r⟩ := x; exact ⟨bm, ob, a, b, k _ _ c, r⟩
/-- the heap without the two tables of codes that grow -/
noncomputable def hid (h : Heap) : Heap := hideAll h [319, 326]
theorem hid_of {h : Heap} : Kp (hid h) h := fun _ _ e => of_hideAll _ e
theorem hid_at {h : Heap} {b : Addr} {o : Obj} (e : h.get? b = some o) (h1 : b ≠ 319) (h2 : b ≠ 326) : (hid h).get? b = some o := hideAll_get _ e (by simp [h1, h2])
theorem hid_none {h : Heap} {b : Addr} (e : b = 319 ∨ b = 326) : (hid h).get? b = none := hideAll_none _ (by rcases e with rfl | rfl <;> simp)
theorem hid_size (h : Heap) : (hid h).objs.size = h.objs.size := hideAll_size _ _
theorem hid_ns {h : Heap} {a : Addr} {m : Str → Option Value} (x : h.Ns a m) (h1 : a ≠ 319) (h2 : a ≠ 326) : (hid h).Ns a m := x.at fun _ e => hid_at e h1 h2
theorem Gd.hid {h : Heap} (G : Gd w q lo mg mb h) : Gd w q lo mg mb (hid h) := by
  refine ⟨fun a o e => hid_at (G.X a o e) (fun x => ?_) (fun x => ?_), hid_ns G.T.g (by decide) (by decide), hid_ns G.T.b (by decide) (by decide), ?_, G.T.builtins, G.T.free⟩
  · subst x; exact absurd e (by show ¬ (none = some o); intro h; cases h)
  · subst x; exact absurd e (by show ¬ (none = some o); intro h; cases h)
  · obtain ⟨mc, a, b⟩ := G.T.nolimit
    exact ⟨mc, hid_ns a (by decide) (by decide), b⟩
theorem BMain.hid {h : Heap} (x : BMain mg h) (h1 : ∀ o, h.get? 319 = some o → o.cls = .none) (h2 : ∀ o, h.get? 326 = some o → o.cls = .none) : BMain mg (hid h) := by
  obtain ⟨bm, ob, a, b, c, d, r⟩ := x
  refine ⟨bm, ob, a, b, hid_at c ?_ ?_, d, r⟩
  · rintro rfl; have := h1 _ c; rw [this] at d; cases d
  · rintro rfl; have := h2 _ c; rw [this] at d; cases d
/-- a table of codes that has the code for one place, or not yet -/
noncomputable def TabOk (N : Nat) (h : Heap) (P : Addr) (pos : Pos) (qual : Str) : Prop := ∃ ps, h.get? P = some (tabObj ps) ∧ TriplesOk ps.toList ∧ (codeAmong pos ps.toList = none ∨ ∃ c', N ≤ c' ∧ codeAmong pos ps.toList = some (.ref c') ∧ h.CodeRec (.ref c') qual)
theorem TabOk.but {N : Nat} {h h' : Heap} {P r : Addr} {pos : Pos} {qual : Str} (x : TabOk N h P pos qual) (hP : P ≠ r) (hr : r < N) (k : ∀ b o, b ≠ r → h.get? b = some o → h'.get? b = some o) : TabOk N h' P pos qual := by
  obtain ⟨ps, a, b, c⟩ := x
  refine ⟨ps, k _ _ hP a, b, ?_⟩
  rcases c with c | ⟨c', c0, c1, c2, oc, vs, t, c3, c4, c5, c6⟩
  · exact .inl c
  · refine .inr ⟨c', c0, c1, c2, oc, vs, t, c3, k _ _ ?_ c4, c5, c6⟩
    cases c3
    exact (Nat.ne_of_lt (Nat.lt_of_lt_of_le hr c0)).symm
theorem TabOk.keeps {N : Nat} {h h' : Heap} {P : Addr} {pos : Pos} {qual : Str} (x : TabOk N h P pos qual) (k : Kp h h') : TabOk N h' P pos qual := by
  obtain ⟨ps, a, b, c⟩ := x
  refine ⟨ps, k _ _ a, b, ?_⟩
  rcases c with c | ⟨c', c0, c1, c2⟩
  · exact .inl c
  · exact .inr ⟨c', c0, c1, c2.keeps k⟩
section
variable {A : Around} {E : Value → Shared → Prop} {s : Shared} {env : Env}
theorem lam_eval {N : Nat} {g : Heap} {L a c P : Addr} {m : Str → Option Value} {cn : Str} {cs : Scope} {p1 p2 p3 p4 pos : Pos} {Q : Value → Shared → Prop} (F : Fr g L s.heap m) (T : TopRead q lo mg mb g) (B : BMain mg g) (C : CodeHd g c P) (nP : g.get? P = none) (hPL : P ≠ L)
    (hN : N ≤ s.heap.objs.size) (ht : TabOk N s.heap P pos ((envOf cn cs L a (.ref c)).qual ++ "<lambda>"))
    (h : ∀ f h' tk, Fr g L h' m → (∀ b o, b ≠ P → s.heap.get? b = some o → h'.get? b = some o) → LamAt h' f → TabOk N h' P pos ((envOf cn cs L a (.ref c)).qual ++ "<lambda>") → N ≤ f → Q (.ref f) { s with heap := h', toks := tk }) :
    wpAny (model pw w) A (eval (.Lambda (lamP p1) (lamB p2 p3 p4) lamS pos) (envOf cn cs L a (.ref c))) Q E s := by
  obtain ⟨ps, hP, htr, hc⟩ := ht
  have hgs := T.g.keeps F.keep
  have hgP : mainGlobals ≠ P := fun e => by
    obtain ⟨o, es, ep, e1, hd, _⟩ := hgs
    rw [e, hP] at e1; cases e1; cases hd
  have hb : s.heap.BuiltinsAt mg P := by
    obtain ⟨bm, ob, b1, b2, b3, b4, b5, b6⟩ := B
    refine ⟨bm, ob, b1, b2, ?_, ?_, F.keep _ _ b3, b4, b5, b6⟩
    · rintro rfl
      obtain ⟨o, es, ep, e, hd, _⟩ := T.g
      rw [e] at b3; cases b3; rw [hd] at b6; cases b6
    · rintro rfl
      rw [nP] at b3; cases b3
  refine kla_eval (by rfl) ?_
  have hcl : closureFor lamS (envOf cn cs L a (.ref c)) = pure [] := by kernel_rfl
  rcases hc with hn | ⟨c', hc0, hc1, hc2⟩
  · refine kla_makeFunction (mg := mg) hcl rfl hgs rfl (C.keeps F.keep) hP htr hn hgP hb fun c' ctv h' tk hx hge hlt hrec htb => ?_
    have k1 : ∀ b o, b ≠ P → s.heap.get? b = some o → (h'.push (kla_obj (S "<lambda>") ((envOf cn cs L a (.ref c)).qual ++ "<lambda>") (lamP p1) (lamB p2 p3 p4) lamS [] ((mg "__name__").getD .none) c' ctv)).get? b = some o := fun b o hb e => Heap.get?_push_of_some _ (hx b o hb e)
    refine h h'.objs.size _ tk ⟨(F.ns.extBut hx hPL.symm).push _, fun b o e => k1 b o (fun e' => by subst e'; rw [nP] at e; cases e) (F.keep b o e), F.above⟩ k1 ⟨_, p1, p2, p3, p4, _, c', ctv, Heap.get?_push_size _ rfl, hrec.push _⟩ ⟨_, Heap.get?_push_of_some _ htb, ?_, .inr ⟨c', Nat.le_trans hN hge, ?_, hrec.push _⟩⟩ (Nat.le_trans hN (Nat.le_of_lt (Nat.lt_of_le_of_lt hge hlt)))
    · rw [Array.toList_append]
      exact TriplesOk_snoc _ _ _ _ htr
    · rw [Array.toList_append]
      exact codeAmong_snoc _ htr hn
  · refine kla_makeFunctionHit (mg := mg) hcl rfl hgs rfl (C.keeps F.keep) hP htr hc1 hb fun ctv h' tk hk hsz => ?_
    have k1 : Kp s.heap (h'.push { cls := .type "function", data := .func (kla_fn (S "<lambda>") ((envOf cn cs L a (.ref c)).qual ++ "<lambda>") (lamP p1) (lamB p2 p3 p4) lamS [] ((mg "__name__").getD .none) (.ref c') ctv) }) := fun b o e => Heap.get?_push_of_some _ (hk b o e)
    exact h h'.objs.size _ tk ⟨(F.ns.keeps hk).push _, fun b o e => k1 b o (F.keep b o e), F.above⟩ (fun b o _ e => k1 b o e) ⟨_, p1, p2, p3, p4, _, c', ctv, Heap.get?_push_size _ rfl, hc2.keeps k1⟩ ⟨ps, k1 _ _ hP, htr, .inr ⟨c', hc0, hc1, hc2.keeps k1⟩⟩ (Nat.le_trans hN hsz)
/-- a loop over a list that stays as it is; its iterator's place told -/
theorem For_listN (hh : A.handled = none) {target iter : Expr} {pos : Pos} {body : List Stmt} {Q : Flow → Shared → Prop}
    (h : wpAny (model pw w) A (eval iter env) (fun xv s₁ => ∃ (ax : Addr) (items : Array Value), xv = .ref ax ∧ s₁.heap.IsList ax items ∧ ∃ Inv : Nat → Shared → Prop,
      (∀ o, Inv 0 { s₁ with heap := s₁.heap.push o }) ∧
      (∀ k v s₀ h' tk io oa E', items[k]? = some v → Inv k s₀ → (∃ o, s₀.heap.get? s₁.heap.objs.size = some o ∧ o.cls = .type "list_iterator") → (∀ b o, b ≠ s₁.heap.objs.size → s₀.heap.get? b = some o → h'.get? b = some o) → h'.get? s₁.heap.objs.size = some io → h'.get? ax = some oa → h'.IsList ax items →
        wpAny (model pw w) A (assign target env v) (fun _ s₃ => wpAny (model pw w) A (execs body env) (fun f s₄ => match f with
          | .next | .cont => Inv (k + 1) s₄ ∧ s₄.heap.get? s₁.heap.objs.size = some io ∧ s₄.heap.get? ax = some oa
          | .brk => Q .next s₄
          | .ret v => Q (.ret v) s₄) E' s₃) E' { s₀ with heap := h', toks := tk }) ∧
      (∀ s₀ h' tk, Inv items.size s₀ → (∃ o, s₀.heap.get? s₁.heap.objs.size = some o ∧ o.cls = .type "list_iterator") → (∀ b o, b ≠ s₁.heap.objs.size → s₀.heap.get? b = some o → h'.get? b = some o) → Q .next { s₀ with heap := h', toks := tk })) E s)
    (hs : ∀ x, foldedSetIterable iter env x = pure x := by intro _; rfl) : wpAny (model pw w) A (exec (.For target iter body [] pos) env) Q E s := by
  refine wpAny_For (wpAny_mono h (fun xv s₁ h₁ => ?_) fun _ _ e => e) hs
  obtain ⟨ax, items, rfl, hl, Inv, h0, turn, fin⟩ := h₁
  have hlt : ax < s₁.heap.objs.size := by obtain ⟨o, ho, _⟩ := hl; exact Heap.lt_size ho
  have hne : ax ≠ s₁.heap.objs.size := Nat.ne_of_lt hlt
  refine wpAny_pyIter_list hl ?_
  have W := Walks.list (prog := pw) (w := w) hh s₁.heap.objs.size ax hne items
  refine codeAny_forLoop_any (fun m s => ∃ k, k + m = items.size ∧ Inv k s ∧ (s.heap.IsListIter s₁.heap.objs.size ax k ∧ s.heap.IsList ax items)) (fun m s hI => ?_) items.size ⟨0, by omega, h0 _, ⟨_, Heap.get?_push_size _ rfl, rfl, rfl⟩, lst_of (fun o e => Heap.get?_push_of_some _ e) hl⟩
  obtain ⟨k, e, hi, hst⟩ := hI
  cases m with
  | zero =>
    have : k = items.size := by omega
    subst this
    refine W.done _ _ _ hst fun h' tk hf => ?_
    exact wpAny_execs_nil (fin s h' tk hi (by obtain ⟨o, a, b, _⟩ := hst.1; exact ⟨o, a, b⟩) (fun b o hb => hf b o (by simpa using hb)))
  | succ m =>
    refine W.item k _ _ _ (by omega) hst fun v h' tk hp hst' hf => ?_
    refine letGo_listiter hst'.1 ?_
    obtain ⟨io, hio, hio2⟩ := hst'.1
    obtain ⟨oa, hoa, hoa2⟩ := hst'.2
    refine wpAny_mono (turn k v s h' tk io oa _ hp hi (by obtain ⟨o, a, b, _⟩ := hst.1; exact ⟨o, a, b⟩) (fun b o hb => hf b o (by simpa using hb)) hio hoa hst'.2) (fun _ s₃ h₃ => wpAny_mono h₃ (fun f s₄ h₄ => ?_) fun _ _ e => e) fun _ _ e => e
    cases f with
    | next => exact ⟨m, by omega, k + 1, by omega, h₄.1, ⟨io, h₄.2.1, hio2⟩, ⟨oa, h₄.2.2, hoa2⟩⟩
    | cont => exact ⟨m, by omega, k + 1, by omega, h₄.1, ⟨io, h₄.2.1, hio2⟩, ⟨oa, h₄.2.2, hoa2⟩⟩
    | brk => exact h₄
    | ret v => exact h₄
end
section
variable {A : Around} {E : Value → Shared → Prop} {s : Shared} {env : Env}
/-- a loop over a range from nought; its iterator's place told -/
theorem For_rangeN (hh : A.handled = none) {x : Str} {px pos : Pos} {iter : Expr} {body : List Stmt} {Q : Flow → Shared → Prop}
    (h : wpAny (model pw w) A (eval iter env) (fun xv s₁ => ∃ (r : Addr) (n : Nat) (t1 u1 v1 : Tok), xv = .ref r ∧ IsRange s₁.heap r 0 (n : Nat) 1 t1 u1 v1 ∧ n ≤ 1000 ∧ ∃ Inv : Nat → Shared → Prop,
      (∀ o, Inv 0 { s₁ with heap := s₁.heap.push o }) ∧
      (∀ k tv s₀ h' tk io E', k < n → Inv k s₀ → (∃ o, s₀.heap.get? s₁.heap.objs.size = some o ∧ o.cls = .type "range_iterator") → (∀ b o, b ≠ s₁.heap.objs.size → s₀.heap.get? b = some o → h'.get? b = some o) → h'.get? s₁.heap.objs.size = some io →
        wpAny (model pw w) A (storeName env x (.int (k : Nat) tv)) (fun _ s₃ => wpAny (model pw w) A (execs body env) (fun f s₄ => match f with
          | .next | .cont => Inv (k + 1) s₄ ∧ s₄.heap.get? s₁.heap.objs.size = some io
          | .brk => Q .next s₄
          | .ret v => Q (.ret v) s₄) E' s₃) E' { s₀ with heap := h', toks := tk }) ∧
      (∀ s₀ h' tk, Inv n s₀ → (∃ o, s₀.heap.get? s₁.heap.objs.size = some o ∧ o.cls = .type "range_iterator") → (∀ b o, b ≠ s₁.heap.objs.size → s₀.heap.get? b = some o → h'.get? b = some o) → Q .next { s₀ with heap := h', toks := tk })) E s)
    (hs : ∀ x, foldedSetIterable iter env x = pure x := by intro _; rfl) : wpAny (model pw w) A (exec (.For (.Name x px) iter body [] pos) env) Q E s := by
  refine wpAny_For (wpAny_mono h (fun xv s₁ h₁ => ?_) fun _ _ e => e) hs
  obtain ⟨r, n, t1, u1, v1, rfl, hR, hn, Inv, h0, turn, fin⟩ := h₁
  refine wpAny_pyIter_range hR (small_one (by omega) (by omega) (by omega) (by omega)) ?_
  have W := Walks.range (prog := pw) (w := w) hh s₁.heap.objs.size 0 1 n
  refine codeAny_forLoop_any (fun m s => ∃ k, k + m = n ∧ Inv k s ∧ IsRangeIter s.heap s₁.heap.objs.size (0 + (k : Nat) * 1) ((n : Int) - (k : Nat)) 1) (fun m s hI => ?_) n ⟨0, by omega, h0 _, ?_⟩
  · obtain ⟨k, e, hi, hst⟩ := hI
    cases m with
    | zero =>
      have : k = n := by omega
      subst this
      refine W.done _ _ _ hst fun h' tk hf => ?_
      exact wpAny_execs_nil (fin s h' tk hi ⟨_, hst, rfl⟩ (fun b o hb => hf b o (by simpa using hb)))
    | succ m =>
      refine W.item k _ _ _ (by omega) hst fun v h' tk hp hst' hf => ?_
      obtain ⟨tv, rfl⟩ := hp
      refine wpAny_pure (assign_Name ?_)
      have e1 : (0 + (k : Nat) * 1 : Int) = (k : Nat) := by omega
      rw [e1]
      refine wpAny_mono (turn k tv s h' tk _ _ (by omega) hi ⟨_, hst, rfl⟩ (fun b o hb => hf b o (by simpa using hb)) hst') (fun _ s₃ h₃ => wpAny_mono h₃ (fun f s₄ h₄ => ?_) fun _ _ e => e) fun _ _ e => e
      cases f with
      | next => exact ⟨m, by omega, k + 1, by omega, h₄.1, h₄.2⟩
      | cont => exact ⟨m, by omega, k + 1, by omega, h₄.1, h₄.2⟩
      | brk => exact h₄
      | ret v => exact h₄
  · show IsRangeIter (s₁.heap.push _) s₁.heap.objs.size _ _ _
    have e : (if (0 : Int) < (n : Int) then (n : Int) - 0 else 0) = (n : Int) - ((0 : Nat) : Int) := by split <;> omega
    show (s₁.heap.push _).get? s₁.heap.objs.size = some _
    rw [Heap.get?_push_size _ rfl, rangeSize_one, e]
    rfl
end
theorem HdO.but {h h' : Heap} {p dx l r : Addr} (x : HdO h p dx l) (h1 : p ≠ r) (h2 : dx ≠ r) (k : ∀ b o, b ≠ r → h.get? b = some o → h'.get? b = some o) : HdO h' p dx l := by
  obtain ⟨a, hh, t, n, b⟩ := x; exact ⟨k _ _ h1 a, hh, t, n, k _ _ h2 b⟩
theorem HdL.but {h h' : Heap} {l r : Addr} {ents} (x : HdL h l ents) (h1 : l ≠ r) (h2 : ∀ T its, h.IsTuple T its → T ≠ r) (k : ∀ b o, b ≠ r → h.get? b = some o → h'.get? b = some o) : HdL h' l ents := by
  obtain ⟨items, ⟨o, n, a, r1⟩, b⟩ := x
  refine ⟨items, ⟨o, n, k _ _ h1 a, r1⟩, b.mono fun _ _ y => ?_⟩
  obtain ⟨T, t, u, rfl, hT⟩ := y
  refine ⟨T, t, u, rfl, ?_⟩
  have := h2 T _ hT
  obtain ⟨o, ho, r2⟩ := hT
  exact ⟨o, k _ _ this ho, r2⟩
theorem ns_not_tuple {h : Heap} {L : Addr} {m : Str → Option Value} (x : h.Ns L m) : ∀ T its, h.IsTuple T its → T ≠ L := by
  rintro T its ⟨o, ho, _, n, hd⟩ rfl
  obtain ⟨o', es, ep, ho', hd', _⟩ := x
  rw [ho] at ho'; cases ho'; rw [hd] at hd'; cases hd'
theorem cls_not_tuple {h : Heap} {r : Addr} {c : String} (x : ∃ o, h.get? r = some o ∧ o.cls = .type c) (hc : (c == "tuple") = false) : ∀ T its, h.IsTuple T its → T ≠ r := by
  rintro T its ⟨o, ho, hcl, _⟩ rfl
  obtain ⟨o', ho', hc'⟩ := x
  rw [ho] at ho'; cases ho'; rw [hcl] at hc'
  injection hc' with hc'
  rw [← hc'] at hc
  exact absurd hc (by decide)
theorem pl_not_tuple {h : Heap} {r : Addr} {items : Array Value} (x : h.IsList r items) : ∀ T its, h.IsTuple T its → T ≠ r := by
  obtain ⟨o, ho, hc, _⟩ := x
  exact cls_not_tuple ⟨o, ho, hc⟩ (by decide)
/-- the letters f, i, l as great letters -/
noncomputable def upL (x : List Nat) : List Nat := x.map up1
noncomputable def SafeL (x : List Nat) : Prop := x.length ≤ 4 ∧ FIL x
theorem SafeL.safe {x : List Nat} (h : SafeL x) : Safe x := ⟨by have := h.1; omega, fun c hc => by
  rcases h.2 c hc with rfl | rfl | rfl <;> (show _ ∈ _; decide)⟩
theorem SafeL.up {x : List Nat} (h : SafeL x) : Safe (upL x) := ⟨by unfold upL; rw [List.length_map]; have := h.1; omega, fun c hc => by
  obtain ⟨d, hd, rfl⟩ := List.mem_map.mp hc
  rcases h.2 d hd with rfl | rfl | rfl <;> (show up1 _ ∈ _; decide)⟩
theorem upper_ws {x : List Nat} (h : SafeL x) : Txt.upper (ws x) = ws (upL x) := by
  rw [upper_ascii (x := ws x) (fun c hc => safe_lt (h.safe.2 c (by simpa [ws] using hc)))]
  show Str.mk _ = Str.mk _
  congr 1
  show (x.toArray).map _ = _
  rw [List.map_toArray]; rfl
theorem chF_safe {x : List Nat} (h : SafeL x) (k : Int) : SafeL (chF x k) := by
  unfold chF
  refine ⟨?_, fun c hc => ?_⟩
  · rw [List.length_map]
    have := List.length_filter_le (bitOn k) (List.range x.length)
    rw [List.length_range] at this
    have := h.1; omega
  · obtain ⟨i, hi, rfl⟩ := List.mem_map.mp hc
    have hi' : i < x.length := List.mem_range.mp (List.mem_filter.mp hi).1
    rw [List.getD_eq_getElem?_getD, List.getElem?_eq_getElem hi']
    exact h.2 _ (List.getElem_mem hi')
noncomputable def pieceF (x : List Nat) (k : Nat) : List Nat := if k % 2 = 1 then upL (chF x k) else chF x k
noncomputable def piecesF (x : List Nat) (n : Nat) : List (List Nat × List Nat) := (List.range n).foldl (fun ents (k : Nat) => setE (pieceF x k) [] ents) []
theorem piecesF_succ (x : List Nat) (n : Nat) : piecesF x (n + 1) = setE (pieceF x n) [] (piecesF x n) := by
  unfold piecesF; rw [List.range_succ, List.foldl_append]; rfl
theorem piece_safe {x : List Nat} (h : SafeL x) (k : Nat) : Safe (pieceF x k) := by
  unfold pieceF
  split
  · exact (chF_safe h k).up
  · exact (chF_safe h k).safe
theorem piece_sg {x : List Nat} (h : SafeL x) (k : Nat) : (pieceF x k).length ≤ 4 ∧ ∀ c ∈ pieceF x k, SG c := by
  unfold pieceF
  split
  · refine ⟨by unfold upL; rw [List.length_map]; exact (chF_safe h k).1, fun c hc => ?_⟩
    obtain ⟨d, hd, rfl⟩ := List.mem_map.mp hc
    rcases (chF_safe h k).2 d hd with rfl | rfl | rfl <;> (unfold SG; decide)
  · refine ⟨(chF_safe h k).1, fun c hc => ?_⟩
    rcases (chF_safe h k).2 c hc with rfl | rfl | rfl <;> (unfold SG; decide)
theorem setE_mem {x y : List Nat} {ents : List (List Nat × List Nat)} {e : List Nat × List Nat} (h : e ∈ setE x y ents) : e ∈ ents ∨ e = (x, y) := by
  unfold setE at h
  split at h
  · rcases List.mem_append.mp h with h | h
    · exact .inl h
    · exact .inr (by simpa using h)
  · exact .inl h
theorem setE_len (x y : List Nat) (ents : List (List Nat × List Nat)) : (setE x y ents).length ≤ ents.length + 1 := by
  unfold setE; split
  · simp
  · exact Nat.le_succ _
theorem pieces_mem {x : List Nat} : ∀ (n : Nat) {e : List Nat × List Nat}, e ∈ piecesF x n → ∃ k, e = (pieceF x k, [])
  | 0, e, h => by cases h
  | n + 1, e, h => by
    rw [piecesF_succ] at h
    rcases setE_mem h with h | h
    · exact pieces_mem n h
    · exact ⟨n, h⟩
theorem pieces_len (x : List Nat) : ∀ n, (piecesF x n).length ≤ n
  | 0 => Nat.le_refl _
  | n + 1 => by rw [piecesF_succ]; have := setE_len (pieceF x n) [] (piecesF x n); have := pieces_len x n; omega
noncomputable def rowStep (y : List Nat) (W : List (List Nat)) (p : List Nat) : List (List Nat) := if hidF y (foldF p) then insortF W (foldF p) else W
noncomputable def rowFold (y : List Nat) (ps : List (List Nat)) : List (List Nat) := ps.foldl (rowStep y) []
noncomputable def rowF (x y : List Nat) : List (List Nat) := rowFold y ((piecesF x (2 ^ x.length)).map (·.1))
theorem fold_fil : ∀ (z : List Nat), FIL z → foldF z = z
  | [], _ => rfl
  | c :: z, h => by
    have ih := fold_fil z (fun x hx => h x (.tail _ hx))
    have hc := h c (.head _)
    unfold foldF at ih ⊢
    rcases hc with rfl | rfl | rfl <;> exact congrArg (List.cons _) ih
theorem fold_up : ∀ (z : List Nat), FIL z → foldF (upL z) = z
  | [], _ => rfl
  | c :: z, h => by
    have ih := fold_up z (fun x hx => h x (.tail _ hx))
    have hc := h c (.head _)
    unfold foldF upL at ih ⊢
    rcases hc with rfl | rfl | rfl <;> exact congrArg (List.cons _) ih
theorem fold_piece {x : List Nat} (h : SafeL x) (k : Nat) : foldF (pieceF x k) = chF x k := by
  unfold pieceF
  split
  · exact fold_up _ (chF_safe h k).2
  · exact fold_fil _ (chF_safe h k).2
end Mine
end

section
open PySem PySem.W PyProof.Rows PySem.Calls
set_option Elab.async false
set_option maxRecDepth 100000
set_option maxHeartbeats 2000000
namespace Mine
variable {w : World} {mg mb : Str → Option Value} {q : Program} {lo : List Str}
theorem fill16 : (fun (_ : OpenLaw) (_ : Params → Frag) => True) PySem.Challenge.rw_uq0030_01 Kx := by k_fill; trivial
theorem WL.get' {vs : List Value} {l : List (List Nat)} (h : WL vs l) {k : Nat} {v : Value} (e : vs[k]? = some v) : ∃ x t, l[k]? = some x ∧ v = .str (ws x) t := by
  obtain ⟨x, e1, t, rfl⟩ := paired_get h e
  exact ⟨x, t, e1, rfl⟩
theorem insort_len (W : List (List Nat)) (y : List Nat) : (insortF W y).length = W.length + 1 := by
  unfold insortF insW
  rw [List.length_append, List.length_cons, List.length_take, List.length_drop]; omega
theorem insort_mem {W : List (List Nat)} {y z : List Nat} (h : z ∈ insortF W y) : z ∈ W ∨ z = y := by
  unfold insortF insW at h
  rcases List.mem_append.mp h with h | h
  · exact .inl (List.mem_of_mem_take h)
  · rcases List.mem_cons.mp h with h | h
    · exact .inr h
    · exact .inl (List.mem_of_mem_drop h)
/-- a row of the words that the letters f, i, l make -/
noncomputable def RowOk (W : List (List Nat)) (n : Nat) : Prop := W.length ≤ n ∧ ∀ x ∈ W, SafeL x
theorem RowOk.wr {W : List (List Nat)} {n : Nat} (h : RowOk W n) (hn : n ≤ 100) : WR W := ⟨Nat.le_trans h.1 hn, fun x hx => Nat.le_trans (h.2 x hx).1 (by decide)⟩
theorem rowStep_ok {x y : List Nat} (hx : SafeL x) {W : List (List Nat)} {n k : Nat} (h : RowOk W n) : RowOk (rowStep y W (pieceF x k)) (n + 1) := by
  unfold rowStep
  rw [fold_piece hx]
  split
  · refine ⟨by rw [insort_len]; have := h.1; omega, fun z hz => ?_⟩
    rcases insort_mem hz with hz | rfl
    · exact h.2 z hz
    · exact chF_safe hx k
  · exact ⟨Nat.le_succ_of_le h.1, h.2⟩
section
variable {A : Around} {E : Value → Shared → Prop} {s : Shared}
noncomputable def But2 (s s' : Shared) : Prop := ∃ h' tk, s' = { s with heap := h', toks := tk } ∧ (∀ b o, b ≠ 319 → s.heap.get? b = some o → h'.get? b = some o) ∧ ∃ ps, h'.get? 319 = some (tabObj ps)
theorem codeHd_row {h : Heap} (X : (Kx w.params).In h) : CodeHd h 323 319 := ⟨_, _, _, _, _, _, _, _, _, X 323 (o_323 w.params) rfl, rfl, rfl, rfl, rfl, rfl, rfl, rfl, rfl, by decide⟩
noncomputable def posR : Pos := ⟨230, 40, 230, 60⟩
theorem rowFold_succ {y : List Nat} {names : List (List Nat)} {k : Nat} {p : List Nat} (h : names[k]? = some p) : rowFold y (names.take (k + 1)) = rowStep y (rowFold y (names.take k)) p := by
  unfold rowFold
  rw [List.take_succ, h, List.foldl_append]; rfl
theorem row_tail {n : Nat} {g : Heap} {L p dx l : Addr} {m : Str → Option Value} {x y : List Nat} {s₀ : Shared} {ty : Tok} (F : Fr g L s.heap m) (X : (Kx w.params).In g) (T : TopRead q lo mg mb g) (B : BMain mg g) (n319 : g.get? 319 = none) (h319 : s.heap.get? 319 = some (tabObj #[])) (hLn : (319 : Nat) ≠ L)
    (R : Rm (n + 5) A) (hA : A.handled = none) (hx : SafeL x) (hy : SafeL y) (HO : HdO s.heap p dx l) (HL : HdL s.heap l (piecesF x (2 ^ x.length))) (hpL : p ≠ L) (hdL : dx ≠ L) (hlL : l ≠ L)
    (vp : m (S "pieces") = some (.ref p)) (vl : m (S "low") = some (.str (ws y) ty)) (hs : ∃ h tk, s = { s₀ with heap := h, toks := tk }) (hg : ∀ b o, b ≠ 319 → s₀.heap.get? b = some o → s.heap.get? b = some o ∧ b ≠ L) :
    wpAny (model pw w) A (execs ((fB 28).drop 2) (envOf (S "_law_row") (fS 28) L 324 (.ref 323))) (fun fl s' => (∃ r items, retV fl = .ref r ∧ PL s'.heap r items ∧ WL items.toList (rowF x y) ∧ s₀.heap.get? r = none) ∧ But2 s₀ s') E s := by
  obtain ⟨h, tk, rfl⟩ := hs
  have hn16 : 2 ^ x.length ≤ 16 := Nat.pow_le_pow_right (n := 2) (by decide) hx.1
  (with_unfolding_all show wpAny _ _ (execs (_ :: _) _) _ _ _)
  refine wpAny_execs_cons (wpAny_Assign_Name (List_ (wpAny_items_nil (wpAny_newList ?_))))
  have kP : Kp h (h.push { cls := .type "list", data := .seq ([] : List Value).toArray }) := fun b o e => Heap.get?_push_of_some _ e
  have hP : PL (h.push { cls := .type "list", data := .seq ([] : List Value).toArray }) h.objs.size #[] := ⟨_, Heap.get?_push_size _ rfl⟩
  have gr : g.get? h.objs.size = none := Fr.noneBack F (size_none _)
  have hLr : L ≠ h.objs.size := Fr.neL F (size_none _)
  have hr9 : (319 : Nat) ≠ h.objs.size := Nat.ne_of_lt (Heap.lt_size h319)
  have sr : s₀.heap.get? h.objs.size = none := by
    cases e : s₀.heap.get? h.objs.size with
    | none => rfl
    | some o => have := (hg _ _ hr9.symm e).1; rw [size_none] at this; cases this
  generalize hr : h.objs.size = r at *
  have nt := ns_not_tuple (Frk F kP).ns
  refine stS (Frk F kP) (fun h1 F s1 => ?_)
  have HO := (HO.keeps kP).but hpL hdL s1.extBut
  have HL := (HL.keeps kP).but hlL nt s1.extBut
  replace hP : PL h1 r #[] := by obtain ⟨n, e⟩ := hP; exact ⟨n, s1.extBut _ _ hLr.symm e⟩
  have h9 := s1.extBut _ _ hLn (kP _ _ h319)
  have KB : ∀ b o, b ≠ 319 → s₀.heap.get? b = some o → h1.get? b = some o := fun b o hb e => s1.extBut _ _ (hg b o hb e).2 (kP _ _ (hg b o hb e).1)
  refine wpAny_execs_cons (For_listN hA (MethodCall_ (ld F vp (meth_hdr (f := 241) F X HO (by kernel_rfl) (by kernel_rfl) (by kernel_rfl) (by decide +kernel) (callWith_K0 (K := Kx w.params) (X.keeps F.keep) (by kernel_rfl) ?_)))))
  refine wpAny_mono (hdr_keys (Gd.keeps ⟨X, T⟩ F.keep) (R.le (by omega : n + 1 ≤ n + 5)) hA HO HL (by have := pieces_len x (2 ^ x.length); omega)) (fun v' s' hv => ?_) fun _ _ e => e
  obtain ⟨D, h2, tk2, ys, rfl, rfl, nD, hD, hys, k2⟩ := hv
  have gD : g.get? D = none := Fr.noneBack F nD
  have hDL : L ≠ D := Fr.neL F nD
  have hDr : D ≠ r := by
    rintro rfl
    obtain ⟨n, e⟩ := hP
    rw [e] at nD; cases nD
  have hD9 : D ≠ 319 := by
    rintro rfl
    rw [h9] at nD; cases nD
  replace F := Frk F k2
  replace hP := hP.keeps k2
  replace h9 := k2 _ _ h9
  replace KB : ∀ b o, b ≠ 319 → s₀.heap.get? b = some o → h2.get? b = some o := fun b o hb e => k2 _ _ (KB b o hb e)
  have hLI : L ≠ h2.objs.size := Fr.neL F (size_none _)
  have gI : g.get? h2.objs.size = none := Fr.noneBack F (size_none _)
  have hrI : r ≠ h2.objs.size := by obtain ⟨n, e⟩ := hP; exact Nat.ne_of_lt (Heap.lt_size e)
  have hDI : D ≠ h2.objs.size := by obtain ⟨o, n, e, _⟩ := hD; exact Nat.ne_of_lt (Heap.lt_size e)
  have h9I : (319 : Nat) ≠ h2.objs.size := Nat.ne_of_lt (Heap.lt_size h9)
  have rN : r < h2.objs.size + 1 := by obtain ⟨n, e⟩ := hP; exact Nat.lt_succ_of_lt (Heap.lt_size e)
  have LN : L < h2.objs.size + 1 := Nat.lt_succ_of_lt F.ns.lt
  have sI : ∀ b o, b ≠ 319 → s₀.heap.get? b = some o → b ≠ h2.objs.size := fun b o hb e => Nat.ne_of_lt (Heap.lt_size (KB b o hb e))
  have sL : ∀ b o, b ≠ 319 → s₀.heap.get? b = some o → b ≠ L := fun b o hb e => (hg b o hb e).2
  have sr' : ∀ b o, s₀.heap.get? b = some o → b ≠ r := fun b o e => by rintro rfl; rw [sr] at e; cases e
  refine ⟨D, ys, rfl, hD.isList, (fun k s' => ∃ h tk m items, s' = { s₀ with heap := h, toks := tk } ∧ Fr g L h m ∧ (∀ b o, b ≠ 319 → s₀.heap.get? b = some o → h.get? b = some o) ∧ PL h r items ∧ WL items.toList (rowFold y (((piecesF x (2 ^ x.length)).map (·.1)).take k)) ∧ RowOk (rowFold y (((piecesF x (2 ^ x.length)).map (·.1)).take k)) k ∧
    TabOk (h2.objs.size + 1) h 319 posR ((envOf (S "_law_row") (fS 28) L 324 (.ref 323)).qual ++ "<lambda>") ∧ h2.objs.size + 1 ≤ h.objs.size ∧ m (S "low") = some (.str (ws y) ty) ∧ m (S "row") = some (.ref r)), ?_, ?_, ?_⟩
  · intro o
    have k3 : Kp h2 (h2.push o) := fun b o e => Heap.get?_push_of_some _ e
    exact ⟨_, _, _, #[], rfl, Frk F k3, fun b o hb e => k3 _ _ (KB b o hb e), hP.keeps k3, .nil, ⟨Nat.le_refl _, by intro z hz; cases hz⟩, ⟨#[], k3 _ _ h9, trivial, .inl rfl⟩, by rw [Heap.size_push]; exact Nat.le_refl _, vl, rfl⟩
  · intro k v s' h' tk io oa E' hk ⟨h3, tk3, m3, items, e, F', KB', hP', hW, hRow, hT, hsz, vl, vr⟩ hio kI eI ea hDl
    subst e
    obtain ⟨pc, tp, hpc, rfl⟩ := hys.get' (by simpa using hk)
    obtain ⟨j, hj⟩ : ∃ j, pc = pieceF x j := by
      rw [List.getElem?_map] at hpc
      obtain ⟨e, he, rfl⟩ := Option.map_eq_some_iff.mp hpc
      obtain ⟨j, rfl⟩ := pieces_mem _ (List.mem_of_getElem? he)
      exact ⟨j, rfl⟩
    have hstep := rowFold_succ (y := y) hpc
    have hrowS : RowOk (rowStep y (rowFold y (((piecesF x (2 ^ x.length)).map (·.1)).take k)) pc) (k + 1) := by rw [hj]; exact rowStep_ok hx hRow
    have hfold : foldF pc = chF x j := by rw [hj]; exact fold_piece hx j
    have hkn : k < 16 := by
      have := (List.getElem?_eq_some_iff.mp hpc).1
      rw [List.length_map] at this
      have := pieces_len x (2 ^ x.length); omega
    have F := Frx F' hLI gI kI
    have KB : ∀ b o, b ≠ 319 → s₀.heap.get? b = some o → h'.get? b = some o := fun b o hb e => kI b o (sI b o hb e) (KB' b o hb e)
    have hP : PL h' r items := by obtain ⟨n, e⟩ := hP'; exact ⟨n, kI _ _ hrI e⟩
    replace hT := hT.but h9I (Nat.lt_succ_self _) kI
    have hsz' : h2.objs.size + 1 ≤ h'.objs.size := Heap.lt_size eI
    refine assign_Name (stS F (fun h4 F s4 => ?_))
    replace KB : ∀ b o, b ≠ 319 → s₀.heap.get? b = some o → h4.get? b = some o := fun b o hb e => s4.extBut _ _ (sL b o hb e) (KB b o hb e)
    replace hP : PL h4 r items := by obtain ⟨n, e⟩ := hP; exact ⟨n, s4.extBut _ _ hLr.symm e⟩
    replace hT := hT.but hLn LN s4.extBut
    replace eI := s4.extBut _ _ hLI.symm eI
    replace ea := s4.extBut _ _ hDL.symm ea
    refine wpAny_execs_cons (wpAny_Assign_Name (Call_ (name_K F X T (by k_is) (PyProof.Rows.callWith_def rfl (wpAny_items_cons (ld F rfl (wpAny_items_nil (⟨F.keep _ _ (X _ _ rfl), ?_⟩))))))))
    refine wpAny_mono (folded (E := E') (Gd.keeps ⟨X, T⟩ F.keep) (R.le (by omega : n + 2 ≤ n + 5)) hA (by rw [hj]; have := (piece_sg hx j).1; omega) (by rw [hj]; exact (piece_sg hx j).2)) (fun v' s' hv => ?_) fun _ _ e => e
    obtain ⟨⟨tw, rfl⟩, h5, tk5, rfl, kp⟩ := hv
    replace F := Frk F kp
    replace KB : ∀ b o, b ≠ 319 → s₀.heap.get? b = some o → h5.get? b = some o := fun b o hb e => kp _ _ (KB b o hb e)
    replace hP := hP.keeps kp
    replace hT := hT.keeps kp
    replace eI := kp _ _ eI
    replace ea := kp _ _ ea
    refine stS F (fun h6 F s6 => ?_)
    replace KB : ∀ b o, b ≠ 319 → s₀.heap.get? b = some o → h6.get? b = some o := fun b o hb e => s6.extBut _ _ (sL b o hb e) (KB b o hb e)
    replace hP : PL h6 r items := by obtain ⟨n, e⟩ := hP; exact ⟨n, s6.extBut _ _ hLr.symm e⟩
    replace hT := hT.but hLn LN s6.extBut
    replace eI := s6.extBut _ _ hLI.symm eI
    replace ea := s6.extBut _ _ hDL.symm ea
    have hch := chF_safe hx (j : Int)
    refine wpAny_execs_cons (wpAny_If (wpAny_isTrue_value (Call_ (name_K F X T (by k_is) (PyProof.Rows.callWith_def rfl (wpAny_items_cons (ld F vl (wpAny_items_cons (ld F rfl (wpAny_items_nil (⟨F.keep _ _ (X _ _ rfl), ?_⟩)))))))))))
    refine wpAny_mono (hidden (E := E') (Gd.keeps ⟨X, T⟩ F.keep) (R.le (by omega : n + 4 ≤ n + 5)) hy.1 (by rw [hfold]; exact hch.1) hy.2 (by rw [hfold]; exact hch.2) hA) (fun v' s' hv => ?_) fun _ _ e => e
    obtain ⟨rfl, h7, tk7, rfl, kp⟩ := hv
    replace F := Frk F kp
    replace KB : ∀ b o, b ≠ 319 → s₀.heap.get? b = some o → h7.get? b = some o := fun b o hb e => kp _ _ (KB b o hb e)
    replace hP := hP.keeps kp
    replace hT := hT.keeps kp
    replace eI := kp _ _ eI
    replace ea := kp _ _ ea
    refine wpAny_truthy_bool ?_
    unfold rowStep at hstep hrowS
    cases hh : hidF y (foldF pc) with
    | false =>
      rw [hh] at hstep hrowS
      rw [if_neg (by decide)] at hstep hrowS ⊢
      refine wpAny_execs_nil (wpAny_execs_nil ?_)
      refine ⟨⟨_, _, _, items, rfl, F, KB, hP, by rw [hstep]; exact hW, by rw [hstep]; exact hrowS, hT, Heap.lt_size eI, vl, vr⟩, eI, ea⟩
    | true =>
      rw [hh] at hstep hrowS
      rw [if_pos rfl] at hstep hrowS ⊢
      refine wpAny_execs_cons (wpAny_Expr_any (wpAny_Call_Name_kw (name_K F X T (by k_is) (callWith_KW (K := Kx w.params) X (by kernel_rfl) (by rfl) (wpAny_items_cons (ld F vr (wpAny_items_cons (ld F rfl (wpAny_items_nil ?_)))))))))
      refine kwAll_cons (lam_eval (N := h2.objs.size + 1) (c := 323) (P := 319) F T B (codeHd_row X) n319 hLn (Heap.lt_size eI) hT fun f h8 tk8 F k8 hLam hT hfN => ?_)
      replace KB : ∀ b o, b ≠ 319 → s₀.heap.get? b = some o → h8.get? b = some o := fun b o hb e => k8 _ _ hb (KB b o hb e)
      replace hP : PL h8 r items := by obtain ⟨n, e⟩ := hP; exact ⟨n, k8 _ _ hr9.symm e⟩
      replace eI := k8 _ _ h9I.symm eI
      replace ea := k8 _ _ hD9 ea
      refine kwAll_nil (⟨X.keeps F.keep, ?_⟩)
      refine wpAny_mono (insort (E := E') (Gd.keeps ⟨X, T⟩ F.keep) (R.le (by omega : n + 3 ≤ n + 5)) hP hW (hRow.wr (by omega)) (by rw [hfold]; have := hch.1; omega) hLam) (fun v' s' hv => ?_) fun _ _ e => e
      obtain ⟨⟨h10, tk10, rfl, k10⟩, items', hP, hW⟩ := hv
      replace F := Frx F hLr gr k10
      replace KB : ∀ b o, b ≠ 319 → s₀.heap.get? b = some o → h10.get? b = some o := fun b o hb e => k10 _ _ (sr' b o e) (KB b o hb e)
      replace hT := hT.but hr9 rN k10
      replace eI := k10 _ _ hrI.symm eI
      replace ea := k10 _ _ hDr ea
      refine wpAny_execs_nil (wpAny_execs_nil ?_)
      refine ⟨⟨_, _, _, items', rfl, F, KB, hP, by rw [hstep]; exact hW, by rw [hstep]; exact hrowS, hT, Heap.lt_size eI, vl, vr⟩, eI, ea⟩
  · intro s' h' tk ⟨h3, tk3, m3, items, e, F', KB', hP', hW, hRow, hT, hsz, vl, vr⟩ hio kI
    subst e
    have F := Frx F' hLI gI kI
    have hP : PL h' r items := by obtain ⟨n, e⟩ := hP'; exact ⟨n, kI _ _ hrI e⟩
    refine wpAny_execs_cons (wpAny_Return_some (ld F vr ?_))
    have hall : ((piecesF x (2 ^ x.length)).map (·.1)).take ys.size = (piecesF x (2 ^ x.length)).map (·.1) := List.take_of_length_le (by have := hys.len; simp at this ⊢; omega)
    rw [hall] at hW
    obtain ⟨ps, hps, _⟩ := hT.but h9I (Nat.lt_succ_self _) kI
    exact ⟨⟨r, items, rfl, hP, hW, sr⟩, _, _, rfl, (fun b o hb e => kI _ _ (sI b o hb e) (KB' b o hb e)), ps, hps⟩
theorem law_row {n : Nat} {x y : List Nat} {t u : Tok} (G : Gd w q lo mg mb s.heap) (B : BMain mg s.heap) (h319 : s.heap.get? 319 = some (tabObj #[])) (h326 : s.heap.get? 326 = some (tabObj #[])) (R : Rm (n + 6) A) (hA : A.handled = none) (hx : SafeL x) (hy : SafeL y) :
    wpAny (model pw w) A (call (.ref 324) [.str (ws x) t, .str (ws y) u]) (fun v s' => (∃ r items, v = .ref r ∧ PL s'.heap r items ∧ WL items.toList (rowF x y) ∧ s.heap.get? r = none) ∧ But2 s s') E s := by
  refine enter (f := 324) (name := S "_law_row") (qual := S "_law_row") (params := fA 28) (body := fB 28) (scope := fS 28) (binds := [(S "name", .str (ws x) t), (S "low", .str (ws y) u)]) G R rfl rfl (BindsTo.of_eq rfl) (locs rfl) ?_ rfl rfl rfl (by decide)
  intro L h₁ A' F N X T R' hh
  replace hh := hh.trans hA
  have Kk := F.keep
  have hLs : ∀ b o, s.heap.get? b = some o → b ≠ L := fun b o e => Nat.ne_of_lt (Nat.lt_of_lt_of_le (Heap.lt_size e) F.above)
  have h9 := F.keep _ _ h319
  have hL9 := hLs _ _ h319
  have G' := G.hid
  replace B := B.hid (fun o e => by rw [h319] at e; cases e; rfl) (fun o e => by rw [h326] at e; cases e; rfl)
  replace X := G'.X
  replace T := G'.T
  replace F : Fr (hid s.heap) L h₁ _ := ⟨F.ns, fun b o e => F.keep b o (hid_of b o e), by rw [hid_size]; exact F.above⟩
  (with_unfolding_all show wpAny _ _ (execs (_ :: _) _) _ _ _)
  refine wpAny_execs_cons (wpAny_Assign_Name (Call_ (name_K F X T (by k_is) (callWith_K0 (K := Kx w.params) (X.keeps F.keep) (by kernel_rfl) ?_))))
  refine new_hdr (Gd.keeps ⟨X, T⟩ F.keep) R' hh fun p dx l h₂ tk₂ kp HO HL np nd nl hpl hdl => ?_
  have hpL : L ≠ p := Fr.neL F np
  have hdL : L ≠ dx := Fr.neL F nd
  have hlL : L ≠ l := Fr.neL F nl
  have g0 : (hid s.heap).get? l = none := Fr.noneBack F nl
  have hsl : ∀ b o, s.heap.get? b = some o → b ≠ l := fun b o e => by rintro rfl; have := Kk _ _ e; rw [this] at nl; cases nl
  have hl9 : (319 : Nat) ≠ l := by
    rintro e
    rw [← e, h9] at nl; cases nl
  replace h9 := kp _ _ h9
  replace F := Frk F kp
  replace Kk : Kp s.heap h₂ := fun b o e => kp b o (Kk b o e)
  have nt := ns_not_tuple F.ns
  refine stS F (fun h₃ F s3 => ?_)
  replace HO := HO.but hpL.symm hdL.symm s3.extBut
  replace HL := HL.but hlL.symm nt s3.extBut
  replace Kk : Kp s.heap h₃ := fun b o e => s3.extBut b o (hLs b o e) (Kk b o e)
  refine wpAny_execs_cons (For_rangeN hh (Call_Name1 (name_B F X T (by k_is) (by boot_fast) (by decide) (PySem.callWith_type1 (wpAny_BinOp (wpAny_Constant_int (Call_Name1 (name_B F X T (by k_is) (by boot_fast) (by decide) (PySem.callWith_builtin1 (ld F rfl (len_ws (by have := hx.1; omega) (pow_int_small (by omega) (by have := hx.1; omega) (by decide) ?_))))))))))))
  have e2 : (2 : Int) ^ ((x.length : Int).toNat) = ((2 ^ x.length : Nat) : Int) := by rw [Int.toNat_natCast]; exact (Int.natCast_pow 2 _).symm
  rw [e2]
  have hn16 : 2 ^ x.length ≤ 16 := Nat.pow_le_pow_right (n := 2) (by decide) hx.1
  refine call_range_1 ?_
  refine ⟨_, 2 ^ x.length, _, _, _, rfl, IsRange.new _ _ _ _ _ _ _, by omega, (fun k s' => ∃ h tk m, s' = { s with heap := h, toks := tk } ∧ Fr (hid s.heap) L h m ∧ Kp s.heap h ∧ HdO h p dx l ∧ HdL h l (piecesF x k) ∧ m (S "name") = some (.str (ws x) t) ∧ m (S "low") = some (.str (ws y) u) ∧ m (S "pieces") = some (.ref p)), ?_, ?_, ?_⟩
  · intro o
    have k2 : ∀ {a b : Obj}, Kp h₃ ((h₃.push a).push b) := fun b o e => Heap.get?_push_of_some _ (Heap.get?_push_of_some _ e)
    exact ⟨_, _, _, rfl, Frk F k2, fun b o e => k2 b o (Kk b o e), HO.keeps k2, HL.keeps k2, rfl, rfl, rfl⟩
  · generalize hs1 : h₃.push _ = hR
    have kR : Kp h₃ hR := fun b o e => by rw [← hs1]; exact Heap.get?_push_of_some _ e
    have FR := Frk F kR
    have hLI : L ≠ hR.objs.size := Fr.neL FR (size_none _)
    have gI : (hid s.heap).get? hR.objs.size = none := Fr.noneBack FR (size_none _)
    have hpI : p ≠ hR.objs.size := by obtain ⟨a, _⟩ := HO; exact Nat.ne_of_lt (Heap.lt_size (kR _ _ a))
    have hdI : dx ≠ hR.objs.size := by obtain ⟨_, _, _, _, a⟩ := HO; exact Nat.ne_of_lt (Heap.lt_size (kR _ _ a))
    have hlI : l ≠ hR.objs.size := by obtain ⟨items, ⟨o, n, a, _⟩, _⟩ := HL; exact Nat.ne_of_lt (Heap.lt_size (kR _ _ a))
    have hsI : ∀ b o, s.heap.get? b = some o → b ≠ hR.objs.size := fun b o e => Nat.ne_of_lt (Heap.lt_size (kR _ _ (Kk _ _ e)))
    intro k tv s' h' tk io E' hk ⟨h, tk', m, e, F', Kk', HO', HL', vn, vl, vp⟩ hio kI eI
    subst e
    have F := Frx F' hLI gI kI
    replace HO := HO'.but hpI hdI kI
    replace HL := HL'.but hlI (cls_not_tuple hio (by decide)) kI
    replace Kk : Kp s.heap h' := fun b o e => kI b o (hsI b o e) (Kk' b o e)
    have nt := ns_not_tuple F.ns
    refine stS F (fun h4 F s4 => ?_)
    replace HO := HO.but hpL.symm hdL.symm s4.extBut
    replace HL := HL.but hlL.symm nt s4.extBut
    replace Kk : Kp s.heap h4 := fun b o e => s4.extBut b o (hLs b o e) (Kk b o e)
    replace eI := s4.extBut _ _ hLI.symm eI
    refine wpAny_execs_cons (wpAny_Assign_Name (Call_ (name_K F X T (by k_is) (PyProof.Rows.callWith_def rfl (wpAny_items_cons (ld F vn (wpAny_items_cons (ld F rfl (wpAny_items_nil (⟨F.keep _ _ (X _ _ rfl), ?_⟩))))))))))
    refine wpAny_mono (choice (E := E') (Gd.keeps ⟨X, T⟩ F.keep) R' hh hx.1 (by omega) (by omega)) (fun v' s' hv => ?_) fun _ _ e => e
    obtain ⟨⟨tw, rfl⟩, h5, tk5, rfl, kp⟩ := hv
    replace F := Frk F kp
    replace HO := HO.keeps kp
    replace HL := HL.keeps kp
    replace Kk : Kp s.heap h5 := fun b o e => kp b o (Kk b o e)
    replace eI := kp _ _ eI
    have nt := ns_not_tuple F.ns
    refine stS F (fun h6 F s6 => ?_)
    replace HO := HO.but hpL.symm hdL.symm s6.extBut
    replace HL := HL.but hlL.symm nt s6.extBut
    replace Kk : Kp s.heap h6 := fun b o e => s6.extBut b o (hLs b o e) (Kk b o e)
    replace eI := s6.extBut _ _ hLI.symm eI
    refine wpAny_execs_cons (wpAny_Expr_any (MethodCall_ (ld F vp (meth_hdr (f := 279) F X HO (by kernel_rfl) (by kernel_rfl) (by kernel_rfl) (by decide +kernel) (callWith_K (K := Kx w.params) X (by kernel_rfl) ?_)))))
    refine wpAny_items_cons (wpAny_mono (Q := fun v s' => (∃ t, v = .str (ws (pieceF x k)) t) ∧ ∃ tk, s' = { s with heap := h6, toks := tk }) (E := E') ?_ (fun v s' hv => ?_) fun _ _ e => e)
    · refine wpAny_IfExp (wpAny_isTrue_Compare1 (wpAny_BinOp (ld F rfl (wpAny_Constant_int (mod_int' (by decide) (wpAny_Constant_int (P.eq_int (wpAny_truthy_bool ?_))))))))
      have ef : (k : Int).fmod 2 = ((k % 2 : Nat) : Int) := by rw [Int.fmod_eq_emod_of_nonneg _ (by decide)]; omega
      rw [ef]
      by_cases ek : k % 2 = 1
      · rw [if_pos (by rw [ek]; rfl)]
        refine Call_method0 (by rfl) (by rfl) (ld F rfl (SBL.upper (by rw [ws_len]; have := (chF_safe hx (k : Int)).1; omega) (fun _ => ?_)))
        rw [upper_ws (chF_safe hx _)]
        exact ⟨⟨_, by unfold pieceF; rw [if_pos ek]⟩, _, rfl⟩
      · rw [if_neg (by simp; omega)]
        refine ld F rfl ?_
        exact ⟨⟨_, by unfold pieceF; rw [if_neg ek]⟩, _, rfl⟩
    obtain ⟨⟨t1, rfl⟩, tk6, rfl⟩ := hv
    refine wpAny_items_cons (wpAny_Constant_str (wpAny_items_nil (⟨X.keeps F.keep, ?_⟩)))
    refine wpAny_mono (hdr_setdefault (E := E') (n := n + 2) (x := pieceF x k) (y := []) (Gd.keeps ⟨X, T⟩ F.keep) R' hh HO HL (piece_safe hx k) ⟨by decide, by intro c hc; cases hc⟩ (fun e he => by obtain ⟨j, rfl⟩ := pieces_mem _ he; exact piece_safe hx j) (by have := pieces_len x k; omega)) (fun v' s' hv => ?_) fun _ _ e => e
    obtain ⟨⟨h7, tk7, rfl, k7⟩, HL⟩ := hv
    replace F := Frx F hlL g0 k7
    replace HO := HO.but hpl hdl k7
    replace Kk : Kp s.heap h7 := fun b o e => k7 b o (hsl b o e) (Kk b o e)
    replace eI := k7 _ _ hlI.symm eI
    rw [← piecesF_succ] at HL
    refine wpAny_execs_nil ?_
    exact ⟨⟨_, _, _, rfl, F, Kk, HO, HL, vn, vl, vp⟩, eI⟩
  · generalize hs1 : h₃.push _ = hR
    have kR : Kp h₃ hR := fun b o e => by rw [← hs1]; exact Heap.get?_push_of_some _ e
    have FR := Frk F kR
    have hLI : L ≠ hR.objs.size := Fr.neL FR (size_none _)
    have gI : (hid s.heap).get? hR.objs.size = none := Fr.noneBack FR (size_none _)
    have hpI : p ≠ hR.objs.size := by obtain ⟨a, _⟩ := HO; exact Nat.ne_of_lt (Heap.lt_size (kR _ _ a))
    have hdI : dx ≠ hR.objs.size := by obtain ⟨_, _, _, _, a⟩ := HO; exact Nat.ne_of_lt (Heap.lt_size (kR _ _ a))
    have hsI : ∀ b o, s.heap.get? b = some o → b ≠ hR.objs.size := fun b o e => Nat.ne_of_lt (Heap.lt_size (kR _ _ (Kk _ _ e)))
    have hlI : l ≠ hR.objs.size := by obtain ⟨items, ⟨o, n, a, _⟩, _⟩ := HL; exact Nat.ne_of_lt (Heap.lt_size (kR _ _ a))
    intro s' h' tk ⟨h, tk', m, e, F', Kk', HO', HL', vn, vl, vp⟩ hio kI
    subst e
    have F := Frx F' hLI gI kI
    replace HO := HO'.but hpI hdI kI
    replace HL := HL'.but hlI (cls_not_tuple hio (by decide)) kI
    replace Kk : Kp s.heap h' := fun b o e => kI b o (hsI b o e) (Kk' b o e)
    refine wpAny_mono (row_tail (E := fun _ _ => False) (s₀ := s) F X T B (hid_none (.inl rfl)) (Kk _ _ h319) hL9 R' hh hx hy HO HL hpL.symm hdL.symm hlL.symm vp vl ⟨_, _, rfl⟩ (fun b o _ e => ⟨Kk b o e, hLs b o e⟩)) (fun fl s' h' => ?_) fun _ _ e => e
    cases fl <;> exact h'
end
end Mine
end

section
open PySem PySem.W PyProof.Rows PySem.Calls
set_option Elab.async false
set_option maxRecDepth 100000
set_option maxHeartbeats 2000000
namespace Mine
variable {w : World} {mg mb : Str → Option Value} {q : Program} {lo : List Str}
theorem fill17 : (fun (_ : OpenLaw) (_ : Params → Frag) => True) PySem.Challenge.rw_uq0030_01 Kx := by k_fill; trivial
/-- the text of a small number -/
noncomputable def decL (n : Int) : List Nat := if n < 0 then [45, 48 + n.natAbs] else [48 + n.natAbs]
noncomputable def smallI : List Int := [-9, -8, -7, -6, -5, -4, -3, -2, -1, 0, 1, 2, 3, 4, 5, 6, 7, 8, 9]
theorem small_mem {n : Int} (h : n.natAbs ≤ 9) : n ∈ smallI := by
  have : n = -9 ∨ n = -8 ∨ n = -7 ∨ n = -6 ∨ n = -5 ∨ n = -4 ∨ n = -3 ∨ n = -2 ∨ n = -1 ∨ n = 0 ∨ n = 1 ∨ n = 2 ∨ n = 3 ∨ n = 4 ∨ n = 5 ∨ n = 6 ∨ n = 7 ∨ n = 8 ∨ n = 9 := by omega
  simpa [smallI] using this
theorem dec_str {n : Int} (h : n.natAbs ≤ 9) : (Str.ofString (toString n)) = ws (decL n) := by
  have : ∀ n ∈ smallI, (Str.ofString (toString n)) = ws (decL n) := by decide +kernel
  exact this n (small_mem h)
theorem dec_int {n : Int} (h : n.natAbs ≤ 9) : PySem.intText? (ws (decL n)) = some n := by
  have : ∀ n ∈ smallI, PySem.intText? (ws (decL n)) = some n := by decide +kernel
  exact this n (small_mem h)
theorem dec_safe {n : Int} (h : n.natAbs ≤ 9) : Safe (decL n) := by
  have : ∀ n ∈ smallI, (decL n).length ≤ 8 ∧ ∀ c ∈ decL n, c ∈ [102, 105, 108, 70, 73, 76, 45, 48, 49, 50, 51, 52, 53, 54, 55, 56, 57] := by decide +kernel
  exact this n (small_mem h)
noncomputable def entsD (e : List (List Nat × Int)) : List (List Nat × List Nat) := e.map fun e => (e.1, decL e.2)
noncomputable def lookI (x : List Nat) (e : List (List Nat × Int)) : Option Int := (e.find? fun e => lowL e.1 == lowL x).map (·.2)
theorem lookE_D (x : List Nat) : ∀ e : List (List Nat × Int), lookE x (entsD e) = (lookI x e).map decL
  | [] => rfl
  | e :: r => by
    have ih := lookE_D x r
    unfold lookE lookI entsD at ih ⊢
    rw [List.map_cons, List.find?_cons, List.find?_cons]
    dsimp only
    cases h : lowL e.1 == lowL x with
    | true => rfl
    | false => exact ih
theorem entsD_snoc (e : List (List Nat × Int)) (x : List Nat) (n : Int) : entsD (e ++ [(x, n)]) = entsD e ++ [(x, decL n)] := by
  unfold entsD; rw [List.map_append]; rfl
noncomputable def belStep (ents : List (List Nat × Int)) (word : List Nat) (acc : Option Int) (o : List Nat) : Option Int := acc.bind fun b => if hidF o word then (lookI (upL o) ents).map (b + ·) else some b
noncomputable def belF (ents : List (List Nat × Int)) (word : List Nat) (others : List (List Nat)) : Option Int := others.foldl (belStep ents word) (some 0)
noncomputable def cutN (W : List (List Nat)) (word : List Nat) : Nat := bisLF (lensOf W) word.length W.length 0 W.length
noncomputable def numStep (W : List (List Nat)) (st : Option (List (List Nat × Int))) (word : List Nat) : Option (List (List Nat × Int)) :=
  st.bind fun ents => (belF ents word (W.take (cutN W word))).bind fun b => if (if word = W.headD [] then 1 else -b).natAbs ≤ 9 then some (ents ++ [(word, if word = W.headD [] then 1 else -b)]) else none
noncomputable def numF (W : List (List Nat)) : Option (List (List Nat × Int)) := W.foldl (numStep W) (some [])
theorem fold_none {α β : Type} {f : Option β → α → Option β} (hf : ∀ a, f none a = none) : ∀ l : List α, l.foldl f none = none
  | [] => rfl
  | a :: l => by rw [List.foldl_cons, hf]; exact fold_none hf l
theorem fold_pre {α β : Type} {f : Option β → α → Option β} (hf : ∀ a, f none a = none) {l : List α} {i : Option β} {r : β} (h : l.foldl f i = some r) (k : Nat) : ∃ r', (l.take k).foldl f i = some r' := by
  cases e : (l.take k).foldl f i with
  | some r' => exact ⟨r', rfl⟩
  | none =>
    rw [← List.take_append_drop k l, List.foldl_append, e, fold_none hf] at h
    cases h
theorem fold_step {α β : Type} {f : Option β → α → Option β} {l : List α} {i : Option β} {k : Nat} {a : α} (h : l[k]? = some a) : (l.take (k + 1)).foldl f i = f ((l.take k).foldl f i) a := by
  rw [List.take_succ, h, List.foldl_append]; rfl
end Mine
end

section
open PySem PySem.W PyProof.Rows PySem.Calls
set_option Elab.async false
set_option maxRecDepth 100000
set_option maxHeartbeats 4000000
namespace Mine
variable {w : World} {mg mb : Str → Option Value} {q : Program} {lo : List Str}
theorem fill18 : (fun (_ : OpenLaw) (_ : Params → Frag) => True) PySem.Challenge.rw_uq0030_01 Kx := by k_fill; trivial
section
variable {A : Around} {E : Value → Shared → Prop} {s : Shared}
noncomputable def But3 (s s' : Shared) : Prop := ∃ h' tk, s' = { s with heap := h', toks := tk } ∧ (∀ b o, b ≠ 326 → s.heap.get? b = some o → h'.get? b = some o) ∧ ∃ ps, h'.get? 326 = some (tabObj ps)
theorem codeHd_num {h : Heap} (X : (Kx w.params).In h) : CodeHd h 330 326 := ⟨_, _, _, _, _, _, _, _, _, X 330 (o_330 w.params) rfl, rfl, rfl, rfl, rfl, rfl, rfl, rfl, rfl, by decide⟩
noncomputable def posN : Pos := ⟨236, 58, 236, 78⟩
noncomputable def KB6 (s₀ : Shared) (h : Heap) : Prop := ∀ b o, b ≠ 326 → s₀.heap.get? b = some o → h.get? b = some o
noncomputable def numQ (L : Addr) : Str := (envOf (S "_law_numbers") (fS 29) L 331 (.ref 330)).qual ++ "<lambda>"
/-- a table of codes; what is known of the code's place -/
noncomputable def TabP (Pc : Addr → Prop) (h : Heap) (P : Addr) (pos : Pos) (qual : Str) : Prop := ∃ ps, h.get? P = some (tabObj ps) ∧ TriplesOk ps.toList ∧ (codeAmong pos ps.toList = none ∨ ∃ c', Pc c' ∧ codeAmong pos ps.toList = some (.ref c') ∧ h.CodeRec (.ref c') qual)
theorem TabP.but {Pc : Addr → Prop} {h h' : Heap} {P r : Addr} {pos : Pos} {qual : Str} (x : TabP Pc h P pos qual) (hP : P ≠ r) (hr : ∀ c, Pc c → c ≠ r) (k : ∀ b o, b ≠ r → h.get? b = some o → h'.get? b = some o) : TabP Pc h' P pos qual := by
  obtain ⟨ps, a, b, c⟩ := x
  refine ⟨ps, k _ _ hP a, b, ?_⟩
  rcases c with c | ⟨c', c0, c1, c2, oc, vs, t, c3, c4, c5, c6⟩
  · exact .inl c
  · refine .inr ⟨c', c0, c1, c2, oc, vs, t, c3, k _ _ ?_ c4, c5, c6⟩
    cases c3
    exact hr _ c0
theorem TabP.keeps {Pc : Addr → Prop} {h h' : Heap} {P : Addr} {pos : Pos} {qual : Str} (x : TabP Pc h P pos qual) (k : Kp h h') : TabP Pc h' P pos qual := by
  obtain ⟨ps, a, b, c⟩ := x
  refine ⟨ps, k _ _ a, b, ?_⟩
  rcases c with c | ⟨c', c0, c1, c2⟩
  · exact .inl c
  · exact .inr ⟨c', c0, c1, c2.keeps k⟩
theorem TabP.mono {Pc Pd : Addr → Prop} {h : Heap} {P : Addr} {pos : Pos} {qual : Str} (x : TabP Pc h P pos qual) (k : ∀ c, Pc c → c < h.objs.size → Pd c) : TabP Pd h P pos qual := by
  obtain ⟨ps, a, b, c⟩ := x
  refine ⟨ps, a, b, ?_⟩
  rcases c with c | ⟨c', c0, c1, c2, oc, vs, t, c3, c4, c5, c6⟩
  · exact .inl c
  · refine .inr ⟨c', k _ c0 ?_, c1, c2, oc, vs, t, c3, c4, c5, c6⟩
    cases c3; exact Heap.lt_size c4
theorem TabP.ok {N : Nat} {h : Heap} {P : Addr} {pos : Pos} {qual : Str} : TabP (fun c => N ≤ c) h P pos qual ↔ TabOk N h P pos qual := Iff.rfl
/-- what stands at the start of each turn of the row's loop -/
structure NumI (s₀ : Shared) (g : Heap) (L p dx l r : Addr) (ents : List (List Nat × Int)) (Pc : Addr → Prop) (m : Str → Option Value) (h : Heap) : Prop where
  F : Fr g L h m
  KB : KB6 s₀ h
  HO : HdO h p dx l
  HL : HdL h l (entsD ents)
  T : TabP Pc h 326 posN (numQ L)
  vr : m (S "row") = some (.ref r)
  vn : m (S "numbers") = some (.ref p)
theorem NumI.keeps {s₀ : Shared} {g h h' : Heap} {L p dx l r : Addr} {ents} {Pc : Addr → Prop} {m} (x : NumI s₀ g L p dx l r ents Pc m h) (k : Kp h h') : NumI s₀ g L p dx l r ents Pc m h' :=
  ⟨Frk x.F k, fun b o hb e => k _ _ (x.KB b o hb e), x.HO.keeps k, x.HL.keeps k, x.T.keeps k, x.vr, x.vn⟩
/-- the fixed facts of the call -/
structure NumC (s₀ : Shared) (g : Heap) (L p dx l : Addr) : Prop where
  n326 : g.get? 326 = none
  L9 : (326 : Nat) ≠ L
  pL : p ≠ L
  dL : dx ≠ L
  lL : l ≠ L
  gl : g.get? l = none
  pl : p ≠ l
  dl : dx ≠ l
  sL : ∀ b o, s₀.heap.get? b = some o → b ≠ L
  sl : ∀ b o, s₀.heap.get? b = some o → b ≠ l
  l9 : (326 : Nat) ≠ l
theorem NumI.sto {s₀ : Shared} {g h h' : Heap} {L p dx l r : Addr} {ents} {Pc : Addr → Prop} {m m' : Str → Option Value} (C : NumC s₀ g L p dx l) (x : NumI s₀ g L p dx l r ents Pc m h) (hL : ∀ c, Pc c → c ≠ L) (F : Fr g L h' m') (sb : Heap.SameBut L h h') (vr : m' (S "row") = some (.ref r)) (vn : m' (S "numbers") = some (.ref p)) : NumI s₀ g L p dx l r ents Pc m' h' :=
  ⟨F, fun b o hb e => sb.extBut _ _ (C.sL b o e) (x.KB b o hb e), x.HO.but C.pL C.dL sb.extBut, x.HL.but C.lL (ns_not_tuple x.F.ns) sb.extBut, x.T.but C.L9 hL sb.extBut, vr, vn⟩
/-- an iterator steps -/
theorem NumI.itr {s₀ : Shared} {g h h' : Heap} {L p dx l r I : Addr} {ents} {Pc : Addr → Prop} {m : Str → Option Value} (x : NumI s₀ g L p dx l r ents Pc m h) (hLI : L ≠ I) (gI : g.get? I = none) (sI : ∀ b o, b ≠ 326 → s₀.heap.get? b = some o → b ≠ I) (pI : p ≠ I) (dI : dx ≠ I) (lI : l ≠ I) (nI : (326 : Nat) ≠ I) (IN : ∀ c, Pc c → c ≠ I)
    (hio : ∃ o, h.get? I = some o ∧ o.cls = .type "list_iterator") (k : ∀ b o, b ≠ I → h.get? b = some o → h'.get? b = some o) : NumI s₀ g L p dx l r ents Pc m h' :=
  ⟨Frx x.F hLI gI k, fun b o hb e => k _ _ (sI b o hb e) (x.KB b o hb e), x.HO.but pI dI k, x.HL.but lI (cls_not_tuple hio (by decide)) k, x.T.but nI IN k, x.vr, x.vn⟩
/-- a place just past the heap's end -/
structure Past (s₀ : Shared) (g : Heap) (L p dx l I : Addr) : Prop where
  hLI : L ≠ I
  gI : g.get? I = none
  sI : ∀ b o, b ≠ 326 → s₀.heap.get? b = some o → b ≠ I
  pI : p ≠ I
  dI : dx ≠ I
  lI : l ≠ I
  nI : (326 : Nat) ≠ I
theorem NumI.past {s₀ : Shared} {g h : Heap} {L p dx l r : Addr} {ents} {Pc : Addr → Prop} {m : Str → Option Value} (x : NumI s₀ g L p dx l r ents Pc m h) : Past s₀ g L p dx l h.objs.size := by
  have lt : ∀ {b o}, h.get? b = some o → b ≠ h.objs.size := fun e => Nat.ne_of_lt (Heap.lt_size e)
  refine ⟨Fr.neL x.F (size_none _), Fr.noneBack x.F (size_none _), fun b o hb e => lt (x.KB b o hb e), ?_, ?_, ?_, ?_⟩
  · obtain ⟨a, _⟩ := x.HO; exact lt a
  · obtain ⟨_, _, _, _, a⟩ := x.HO; exact lt a
  · obtain ⟨items, ⟨o, n, a, _⟩, _⟩ := x.HL; exact lt a
  · obtain ⟨ps, a, _⟩ := x.T; exact lt a
theorem NumI.ne6 {s₀ : Shared} {g h : Heap} {L p dx l r : Addr} {ents} {Pc : Addr → Prop} {m : Str → Option Value} (x : NumI s₀ g L p dx l r ents Pc m h) : p ≠ 326 ∧ dx ≠ 326 ∧ l ≠ 326 ∧ ∀ T its, h.IsTuple T its → T ≠ 326 := by
  obtain ⟨ps, a, _⟩ := x.T
  refine ⟨?_, ?_, ?_, ?_⟩
  · rintro rfl; obtain ⟨b, _⟩ := x.HO; rw [a] at b; cases b
  · rintro rfl; obtain ⟨_, _, _, _, b⟩ := x.HO; rw [a] at b; cases b
  · rintro rfl; obtain ⟨items, ⟨o, n, b, c, _⟩, _⟩ := x.HL; rw [a] at b; cases b; cases c
  · rintro T its ⟨o, b, c, _⟩ rfl; rw [a] at b; cases b; cases c
theorem look_mem {x : List Nat} {ents : List (List Nat × Int)} {n : Int} (h : lookI x ents = some n) : ∃ e ∈ ents, e.2 = n := by
  unfold lookI at h
  obtain ⟨e, he, rfl⟩ := Option.map_eq_some_iff.mp h
  exact ⟨e, List.mem_of_find?_eq_some he, rfl⟩
theorem WL.take {vs : List Value} {W : List (List Nat)} (h : WL vs W) (k : Nat) : WL (vs.take k) (W.take k) := by
  induction h generalizing k with
  | nil => simp only [List.take_nil]; exact WL.nil
  | cons a hr ih =>
    cases k with
    | zero => exact WL.nil
    | succ k => exact Paired.cons a (ih k)
theorem slice_upL {env : Env} {value e : Expr} {p pos : Pos} {Q : Value → Shared → Prop}
    (h : wpAny (model pw w) A (eval value env) (fun o s₁ => wpAny (model pw w) A (eval e env) (fun vu s₂ => ∃ (l : Addr) (items : Array Value) (k : Nat) (t : Tok), o = .ref l ∧ vu = .int (k : Nat) t ∧ s₂.heap.IsList l items ∧ items.size ≤ 1000 ∧
      ∀ h' D, Kp s₂.heap h' → h'.IsList D (items.toList.take k).toArray → Q (.ref D) { s₂ with heap := h' }) E s₁) E s)
    (ht : ∀ o r, letTemporaryGo value o r = pure () := by intro _ _; rfl) : wpAny (model pw w) A (eval (.Subscript value (.Slice none (some e) none p) pos) env) Q E s := by
  refine wpAny_Subscript_list_slice (wpAny_mono h (fun o s₁ h₁ => evalPart_none_step (evalPart_some_step (wpAny_mono h₁ (fun vu s₂ h₂ => ?_) fun _ _ e => e))) fun _ _ e => e) ht
  obtain ⟨l, items, k, t, rfl, rfl, hl, hz, hq⟩ := h₂
  refine ⟨l, items, none, some (k : Nat), rfl, hl, Nat.le_trans hz (by decide), .none, .int _ _, ?_⟩
  rw [slicePick_upto']
  refine hq _ _ (fun b o e => Heap.get?_push_of_some _ (Heap.get?_push_of_some _ e)) ?_
  have := Heap.get?_push_size (s₂.heap.push { cls := .type "slice", data := .fields #[.none, .int (k : Nat) t, .none] }) (o := { cls := .type "list", data := .seq (items.toList.take k).toArray }) rfl
  rw [Heap.size_push] at this
  exact ⟨_, this, rfl, _, rfl⟩
/-- the body of the row's loop -/
noncomputable def numB : List Stmt := match ((fB 29)[1]? : Option Stmt) with | some (Stmt.For _ _ b _ _) => b | _ => []
theorem num_body {n k : Nat} {s₀ : Shared} {g h : Heap} {tk : Nat} {L p dx l r I : Addr} {io : Obj} {ents ents' : List (List Nat × Int)} {N : Nat} {m : Str → Option Value} {items : Array Value} {W : List (List Nat)} {wd : List Nat} {tw : Tok} (C : NumC s₀ g L p dx l) (X : (Kx w.params).In g) (T : TopRead q lo mg mb g) (B : BMain mg g)
    (R : Rm (n + 5) A) (hA : A.handled = none) (x : NumI s₀ g L p dx l r ents (fun c => N ≤ c) m h) (hw : m (S "word") = some (.str (ws wd) tw)) (hr : s₀.heap.IsList r items) (hr6 : r ≠ 326) (hW : WL items.toList W) (hWo : RowOk W 16) (hNI : N = I + 1) (hwd : W[k]? = some wd) (hst : numStep W (some ents) wd = some ents')
    (hok : ∀ e ∈ ents, SafeL e.1 ∧ e.2.natAbs ≤ 9) (hln : ents.length ≤ 100) (hI : h.get? I = some io) (hIL : I ≠ L) (hIl : I ≠ l) (hI6 : I ≠ 326) (LN : L < N) (lN : l < N) :
    wpAny (model pw w) A (execs numB (envOf (S "_law_numbers") (fS 29) L 331 (.ref 330))) (fun f s' => f = .next ∧ ∃ h' tk m', s' = { s₀ with heap := h', toks := tk } ∧ NumI s₀ g L p dx l r ents' (fun c => N ≤ c) m' h' ∧ h'.get? I = some io) E { s₀ with heap := h, toks := tk } := by
  have hN : N ≤ h.objs.size := by rw [hNI]; exact Heap.lt_size hI
  have PL : ∀ c, N ≤ c → c ≠ L := fun c hc => (Nat.ne_of_lt (Nat.lt_of_lt_of_le LN hc)).symm
  have Pl : ∀ c, N ≤ c → c ≠ l := fun c hc => (Nat.ne_of_lt (Nat.lt_of_lt_of_le lN hc)).symm
  have hwo := hWo.2 wd (List.mem_of_getElem? hwd)
  have hWr := hWo.wr (by decide)
  have hsz : items.size = W.length := by have := hW.len; simpa using this
  (with_unfolding_all show wpAny _ _ (execs (_ :: _) _) _ _ _)
  have F := x.F
  refine wpAny_execs_cons (wpAny_Assign_Name (wpAny_Constant_int (stS F (fun h1 F s1 => ?_))))
  replace x := x.sto C PL F s1 x.vr x.vn
  replace hI := s1.extBut _ _ hIL hI
  -- the shorter words
  refine wpAny_execs_cons (For_listN hA (slice_upL (ld F x.vr (wpAny_Call_Name_kw (name_K F X T (by k_is) (callWith_KW (K := Kx w.params) X (by kernel_rfl) (by rfl) (wpAny_items_cons (ld F x.vr (wpAny_items_cons (Call_Name1 (name_B F X T (by k_is) (by boot_fast) (by decide) (PySem.callWith_builtin1 (ld F hw (len_ws (by have := hwo.1; omega) (wpAny_items_nil ?_)))))))))))))))
  have hN1 : N ≤ h1.objs.size := by have e : h1.objs.size = h.objs.size := s1.1; omega
  refine kwAll_cons (lam_eval (N := N) (c := 330) (P := 326) F T B (codeHd_num X) C.n326 C.L9 hN1 x.T fun f h2 tk2 F2 k2 hLam hT hfN => ?_)
  obtain ⟨p6, d6, l6, t6⟩ := x.ne6
  replace x : NumI s₀ g L p dx l r ents (fun c => N ≤ c) _ h2 := ⟨F2, fun b o hb e => k2 _ _ hb (x.KB b o hb e), x.HO.but p6 d6 k2, x.HL.but l6 t6 k2, hT, x.vr, x.vn⟩
  replace hI := k2 _ _ hI6 hI
  replace F := F2
  have hrL := lst_of (x.KB r · hr6) hr
  refine kwAll_nil (⟨X.keeps F.keep, ?_⟩)
  refine wpAny_mono (bis_left (E := E) (Gd.keeps ⟨X, T⟩ F.keep) (R.le (by omega : n + 2 ≤ n + 5)) hrL hW hWr hLam) (fun v' s' hv => ?_) fun _ _ e => e
  obtain ⟨⟨tv, rfl⟩, h3, tk3, rfl, kp⟩ := hv
  replace x := x.keeps kp
  replace hI := kp _ _ hI
  replace hrL := lst_of (kp r) hrL
  refine ⟨r, items, cutN W wd, tv, rfl, rfl, hrL, by rw [hsz]; have := hWo.1; omega, fun h4 D k34 hD => ?_⟩
  have hN4 : N ≤ h4.objs.size := by
    obtain ⟨_, _, _, _, _, _, _, _, hfo, _⟩ := hLam
    exact Nat.le_trans hfN (Nat.le_of_lt (Heap.lt_size (k34 _ _ (kp _ _ hfo))))
  refine ⟨D, _, rfl, hD, ?_⟩
  replace x := x.keeps k34
  replace hI := k34 _ _ hI
  have P2 := x.past
  have hDL : D ≠ L := by
    rintro rfl
    obtain ⟨o, ho, _, n, hd⟩ := hD
    obtain ⟨o', es, ep, ho', hd', _⟩ := x.F.ns
    rw [ho] at ho'; cases ho'; rw [hd] at hd'; cases hd'
  have I2 : I ≠ h4.objs.size := Nat.ne_of_lt (Heap.lt_size hI)
  obtain ⟨b', hb', hst'⟩ : ∃ b', belF ents wd (W.take (cutN W wd)) = some b' ∧ (if (if wd = W.headD [] then (1 : Int) else -b').natAbs ≤ 9 then some (ents ++ [(wd, if wd = W.headD [] then 1 else -b')]) else none) = some ents' := by
    unfold numStep at hst
    obtain ⟨b', e1, e2⟩ := Option.bind_eq_some_iff.mp (Option.bind_some _ _ |> fun e => e ▸ hst)
    exact ⟨b', e1, e2⟩
  refine ⟨(fun j s' => ∃ h tk m b tb, s' = { s₀ with heap := h, toks := tk } ∧ NumI s₀ g L p dx l r ents (fun c => N ≤ c ∧ c < h4.objs.size) m h ∧ m (S "word") = some (.str (ws wd) tw) ∧ m (S "below") = some (.int b tb) ∧ ((W.take (cutN W wd)).take j).foldl (belStep ents wd) (some 0) = some b ∧ h.get? I = some io ∧ h4.objs.size ≤ h.objs.size), ?_, ?_, ?_⟩
  · intro o
    have ko : Kp h4 (h4.push o) := fun b o e => Heap.get?_push_of_some _ e
    exact ⟨_, _, _, 0, _, rfl, ⟨Frk x.F ko, fun b o hb e => ko _ _ (x.KB b o hb e), x.HO.keeps ko, x.HL.keeps ko, (x.T.mono fun c c0 c1 => ⟨c0, c1⟩).keeps ko, x.vr, x.vn⟩, hw, rfl, rfl, ko _ _ hI, by rw [Heap.size_push]; exact Nat.le_succ _⟩
  · intro k2 v s' h' tk' io2 oa2 E' hk2 ⟨h5, tk5, m5, b, tb, e, x5, hw, hbl, hfo, hI, hsz5⟩ hio kI eI ea hDl
    subst e
    have PL5 : ∀ c, (N ≤ c ∧ c < h4.objs.size) → c ≠ L := fun c hc => PL c hc.1
    have Pl5 : ∀ c, (N ≤ c ∧ c < h4.objs.size) → c ≠ l := fun c hc => Pl c hc.1
    have x := x5.itr P2.hLI P2.gI P2.sI P2.pI P2.dI P2.lI P2.nI (fun c hc => Nat.ne_of_lt hc.2) hio kI
    replace hI := kI _ _ I2 hI
    have F := x.F
    refine assign_Name (stS F (fun h6 F s6 => ?_))
    replace x := x.sto C PL5 F s6 x.vr x.vn
    replace hI := s6.extBut _ _ hIL hI
    replace eI := s6.extBut _ _ P2.hLI.symm eI
    replace ea := s6.extBut _ _ hDL ea
    obtain ⟨ot, to, hot, rfl⟩ := (hW.take (cutN W wd)).get' (by simpa using hk2)
    have hoS := hWo.2 ot (List.mem_of_mem_take (List.mem_of_getElem? hot))
    have hstep := fold_step (f := belStep ents wd) (i := some 0) hot
    rw [hfo] at hstep
    refine wpAny_execs_cons (wpAny_If (wpAny_isTrue_value (Call_ (name_K F X T (by k_is) (PyProof.Rows.callWith_def rfl (wpAny_items_cons (ld F rfl (wpAny_items_cons (ld F hw (wpAny_items_nil (⟨F.keep _ _ (X _ _ rfl), ?_⟩)))))))))))
    refine wpAny_mono (hidden (E := E') (Gd.keeps ⟨X, T⟩ F.keep) (R.le (by omega : n + 4 ≤ n + 5)) hoS.1 hwo.1 hoS.2 hwo.2 hA) (fun v' s' hv => ?_) fun _ _ e => e
    obtain ⟨rfl, h7, tk7, rfl, kp⟩ := hv
    replace x := x.keeps kp
    replace hI := kp _ _ hI
    replace eI := kp _ _ eI
    replace ea := kp _ _ ea
    replace F := Frk F kp
    refine wpAny_truthy_bool ?_
    unfold belStep at hstep
    rw [Option.bind_some] at hstep
    cases hh : hidF ot wd with
    | false =>
      rw [hh] at hstep
      rw [if_neg (by decide)] at hstep ⊢
      refine wpAny_execs_nil (wpAny_execs_nil ?_)
      exact ⟨⟨_, _, _, b, tb, rfl, x, hw, hbl, hstep, hI, Nat.le_of_lt (Heap.lt_size eI)⟩, eI, ea⟩
    | true =>
      rw [hh] at hstep
      rw [if_pos rfl] at hstep ⊢
      obtain ⟨b2, hb2⟩ : ∃ b2, (lookI (upL ot) ents).map (b + ·) = some b2 := by
        obtain ⟨r2, hr2⟩ := fold_pre (f := belStep ents wd) (fun _ => rfl) hb' (k2 + 1)
        exact ⟨r2, hstep.symm.trans hr2⟩
      obtain ⟨nv, hnv, rfl⟩ := Option.map_eq_some_iff.mp hb2
      have hn9 : nv.natAbs ≤ 9 := by obtain ⟨e, he, rfl⟩ := look_mem hnv; exact (hok e he).2
      refine wpAny_execs_cons (wpAny_Assign_Name (wpAny_BinOp (ld F hbl (Call_Name1 (name_B F X T (by k_is) (by boot_fast) (by decide) (PySem.callWith_type1 (MethodCall_ (ld F x.vn (meth_hdr (f := 236) F X x.HO (by kernel_rfl) (by kernel_rfl) (by kernel_rfl) (by decide +kernel) (callWith_K (K := Kx w.params) X (by kernel_rfl) (wpAny_items_cons (Call_method0 (by rfl) (by rfl) (ld F rfl (SBL.upper (by rw [ws_len]; have := hoS.1; omega) (fun _ => ?_)))))))))))))))
      rw [upper_ws hoS]
      refine wpAny_items_nil (⟨X.keeps F.keep, ?_⟩)
      refine wpAny_mono (hdr_get (E := E') (Gd.keeps ⟨X, T⟩ F.keep) (R.le (by omega : n + 2 ≤ n + 5)) hA x.HO x.HL hoS.up (fun e he => by
        obtain ⟨e0, he0, rfl⟩ := List.mem_map.mp he
        exact (hok e0 he0).1.safe)) (fun v' s' hv => ?_) fun _ _ e => e
      obtain ⟨hg, h8, tk8, rfl, kp⟩ := hv
      rw [lookE_D, hnv] at hg
      obtain ⟨tg, rfl⟩ := hg
      replace x := x.keeps kp
      replace hI := kp _ _ hI
      replace eI := kp _ _ eI
      replace ea := kp _ _ ea
      replace F := Frk F kp
      refine KIN.call_text (dec_int hn9) (by rw [ws_len]; have := (dec_safe hn9).1; omega) (P.add_int (stS F (fun h9 F s9 => ?_)))
      replace x := x.sto C PL5 F s9 x.vr x.vn
      replace hI := s9.extBut _ _ hIL hI
      replace eI := s9.extBut _ _ P2.hLI.symm eI
      replace ea := s9.extBut _ _ hDL ea
      refine wpAny_execs_nil (wpAny_execs_nil ?_)
      rw [hnv] at hstep
      exact ⟨⟨_, _, _, b + nv, _, rfl, x, hw, rfl, hstep, hI, Nat.le_of_lt (Heap.lt_size eI)⟩, eI, ea⟩
  · intro s' h' tk' ⟨h5, tk5, m5, b, tb, e, x5, hw, hbl, hfo, hI, hsz5⟩ hio kI
    subst e
    have hall : ((W.take (cutN W wd)).take (items.toList.take (cutN W wd)).toArray.size) = W.take (cutN W wd) := List.take_of_length_le (by have := (hW.take (cutN W wd)).len; simp at this ⊢; omega)
    rw [hall] at hfo
    have hbb : b = b' := Option.some.inj (hfo.symm.trans hb')
    subst hbb
    have x := x5.itr P2.hLI P2.gI P2.sI P2.pI P2.dI P2.lI P2.nI (fun c hc => Nat.ne_of_lt hc.2) hio kI
    replace hI := kI _ _ I2 hI
    have F := x.F
    have hrL := lst_of (x.KB r · hr6) hr
    obtain ⟨hsm, hents⟩ : (if wd = W.headD [] then (1 : Int) else -b).natAbs ≤ 9 ∧ ents ++ [(wd, if wd = W.headD [] then 1 else -b)] = ents' := by
      by_cases h9 : (if wd = W.headD [] then (1 : Int) else -b).natAbs ≤ 9
      · rw [if_pos h9] at hst'; exact ⟨h9, Option.some.inj hst'⟩
      · rw [if_neg h9] at hst'; cases hst'
    refine wpAny_execs_cons (wpAny_Expr_any (MethodCall_ (ld F x.vn (meth_hdr (f := 286) F X x.HO (by kernel_rfl) (by kernel_rfl) (by kernel_rfl) (by decide +kernel) (callWith_K (K := Kx w.params) X (by kernel_rfl) (wpAny_items_cons (ld F hw ?_)))))))
    refine wpAny_items_cons (Call_Name1 (name_B F X T (by k_is) (by boot_fast) (by decide) (PySem.callWith_type1 (wpAny_mono (Q := fun v s' => (∃ t, v = .int (if wd = W.headD [] then (1 : Int) else -b) t) ∧ ∃ tk, s' = { s₀ with heap := h', toks := tk }) (E := E) ?_ (fun v s' hv => ?_) fun _ _ e => e))))
    · have h0 : W[0]? = some (W.headD []) := by
        cases W with
        | nil => cases hwd
        | cons a l => rfl
      obtain ⟨w0, hw0⟩ : ∃ w0, w0 = W.headD [] := ⟨_, rfl⟩
      rw [← hw0] at h0 ⊢
      obtain ⟨t0, ht0⟩ := hW.get h0
      refine wpAny_IfExp (wpAny_isTrue_Compare1 (ld F hw (Subscript_ (ld F x.vr (wpAny_Constant_int (item_L (k := 0) hrL (by simpa using ht0) (by decide) (eq_ws (wpAny_truthy_bool ?_))))))))
      by_cases ew : wd = w0
      · rw [if_pos (by rw [← ew]; exact beq_self_eq_true _)]
        refine wpAny_Constant_int ?_
        exact ⟨⟨_, by rw [if_pos ew]⟩, _, rfl⟩
      · rw [if_neg (by intro h; exact ew (eq_of_beq h))]
        refine wpAny_UnaryOp (ld F hbl (P.neg_int ?_))
        exact ⟨⟨_, by rw [if_neg ew]⟩, _, rfl⟩
    obtain ⟨⟨tv2, rfl⟩, tk6, rfl⟩ := hv
    generalize (if wd = W.headD [] then (1 : Int) else -b) = nv at hsm hents
    refine P.str_of_int (by
      have : ∀ n ∈ smallI, n.natAbs.log2 < 1920 := by decide +kernel
      exact this nv (small_mem hsm)) ?_
    rw [dec_str hsm]
    refine wpAny_items_nil (⟨X.keeps F.keep, ?_⟩)
    refine wpAny_mono (hdr_add (E := E) (Gd.keeps ⟨X, T⟩ F.keep) (R.le (by omega : n + 2 ≤ n + 5)) hA x.HO x.HL hwo.safe (dec_safe hsm) (by unfold entsD; rw [List.length_map]; omega)) (fun v' s' hv => ?_) fun _ _ e => e
    obtain ⟨⟨h8, tk8, rfl, k8⟩, HL⟩ := hv
    rw [← entsD_snoc, hents] at HL
    refine wpAny_execs_nil ?_
    refine ⟨rfl, h8, _, m5, rfl, ⟨Frx x.F C.lL.symm C.gl k8, fun b o hb e => k8 _ _ (C.sl b o e) (x.KB b o hb e), x.HO.but C.pl C.dl k8, HL, (x.T.mono (fun c hc _ => hc.1)).but C.l9 Pl k8, x.vr, x.vn⟩, k8 _ _ hIl hI⟩
end
end Mine
end

section
open PySem PySem.W PyProof.Rows PySem.Calls
set_option Elab.async false
set_option maxRecDepth 100000
set_option maxHeartbeats 4000000
namespace Mine
variable {w : World} {mg mb : Str → Option Value} {q : Program} {lo : List Str}
theorem fill19 : (fun (_ : OpenLaw) (_ : Params → Frag) => True) PySem.Challenge.rw_uq0030_01 Kx := by k_fill; trivial
section
variable {A : Around} {E : Value → Shared → Prop} {s : Shared}
theorem numStep_ok {W : List (List Nat)} {ents ents' : List (List Nat × Int)} {wd : List Nat} (hw : SafeL wd) (h : numStep W (some ents) wd = some ents') (hok : ∀ e ∈ ents, SafeL e.1 ∧ e.2.natAbs ≤ 9) : (∀ e ∈ ents', SafeL e.1 ∧ e.2.natAbs ≤ 9) ∧ ents'.length = ents.length + 1 := by
  unfold numStep at h
  obtain ⟨b', e1, e2⟩ := Option.bind_eq_some_iff.mp h
  cases e1
  obtain ⟨b, e3, e4⟩ := Option.bind_eq_some_iff.mp e2
  by_cases h9 : (if wd = W.headD [] then (1 : Int) else -b).natAbs ≤ 9
  · rw [if_pos h9] at e4
    cases e4
    refine ⟨fun e he => ?_, by simp⟩
    rcases List.mem_append.mp he with he | he
    · exact hok e he
    · have : e = (wd, if wd = W.headD [] then (1 : Int) else -b) := by simpa using he
      subst this
      exact ⟨hw, h9⟩
  · rw [if_neg h9] at e4; cases e4
theorem law_numbers {n : Nat} {r : Addr} {items : Array Value} {W : List (List Nat)} {res : List (List Nat × Int)} {ps : Array Value} (G : Gd w q lo mg mb s.heap) (B : BMain mg s.heap) (h319 : s.heap.get? 319 = some (tabObj ps)) (h326 : s.heap.get? 326 = some (tabObj #[])) (R : Rm (n + 6) A) (hA : A.handled = none)
    (hr : s.heap.IsList r items) (hW : WL items.toList W) (hWo : RowOk W 16) (hres : numF W = some res) :
    wpAny (model pw w) A (call (.ref 331) [.ref r]) (fun v s' => (∃ D, v = .ref D ∧ HdL s'.heap D (entsD res)) ∧ But3 s s') E s := by
  refine enter (f := 331) (name := S "_law_numbers") (qual := S "_law_numbers") (params := fA 29) (body := fB 29) (scope := fS 29) (binds := [(S "row", .ref r)]) G R rfl rfl (BindsTo.of_eq rfl) (locs rfl) ?_ rfl rfl rfl (by decide)
  intro L h₁ A' F N X T R' hh
  replace hh := hh.trans hA
  have hsz : items.size = W.length := by have := hW.len; simpa using this
  have hr6 : r ≠ 326 := by
    rintro rfl; obtain ⟨o, ho, hc, _⟩ := hr; rw [h326] at ho; cases ho; cases hc
  have hr9 : r ≠ 319 := by
    rintro rfl; obtain ⟨o, ho, hc, _⟩ := hr; rw [h319] at ho; cases ho; cases hc
  have Kk := F.keep
  have hLs : ∀ b o, s.heap.get? b = some o → b ≠ L := fun b o e => Nat.ne_of_lt (Nat.lt_of_lt_of_le (Heap.lt_size e) F.above)
  have h6 := F.keep _ _ h326
  have hL6 := hLs _ _ h326
  have G' := G.hid
  replace B := B.hid (fun o e => by rw [h319] at e; cases e; rfl) (fun o e => by rw [h326] at e; cases e; rfl)
  replace X := G'.X
  replace T := G'.T
  replace F : Fr (hid s.heap) L h₁ _ := ⟨F.ns, fun b o e => F.keep b o (hid_of b o e), by rw [hid_size]; exact F.above⟩
  (with_unfolding_all show wpAny _ _ (execs (_ :: _) _) _ _ _)
  refine wpAny_execs_cons (wpAny_Assign_Name (Call_ (name_K F X T (by k_is) (callWith_K0 (K := Kx w.params) (X.keeps F.keep) (by kernel_rfl) ?_))))
  refine new_hdr (Gd.keeps ⟨X, T⟩ F.keep) R' hh fun p dx l h₂ tk₂ kp HO HL np nd nl hpl hdl => ?_
  have hpL : L ≠ p := Fr.neL F np
  have hdL : L ≠ dx := Fr.neL F nd
  have hlL : L ≠ l := Fr.neL F nl
  have g0 : (hid s.heap).get? l = none := Fr.noneBack F nl
  have hsl : ∀ b o, s.heap.get? b = some o → b ≠ l := fun b o e => by rintro rfl; have := Kk _ _ e; rw [this] at nl; cases nl
  have hl6 : (326 : Nat) ≠ l := by
    rintro e
    rw [← e, h6] at nl; cases nl
  have C : NumC s (hid s.heap) L p dx l := ⟨hid_none (.inr rfl), hL6, hpL.symm, hdL.symm, hlL.symm, g0, hpl, hdl, hLs, hsl, hl6⟩
  have x0 : NumI s (hid s.heap) L p dx l r [] (fun c => False) (fun y => if y = S "numbers" then some (.ref p) else [(S "row", Value.ref r)].reverse.lookup y) (h₂) → True := fun _ => trivial
  have nt := ns_not_tuple (Frk F kp).ns
  replace F := Frk F kp
  refine stS F (fun h₃ F s3 => ?_)
  have x : NumI s (hid s.heap) L p dx l r [] (fun _ => False) _ h₃ := ⟨F, fun b o hb e => s3.extBut b o (hLs b o e) (kp _ _ (Kk b o e)), HO.but hpL.symm hdL.symm s3.extBut, HL.but hlL.symm nt s3.extBut, ⟨#[], s3.extBut _ _ hL6 (kp _ _ h6), trivial, .inl rfl⟩, rfl, rfl⟩
  have P := x.past
  have hLlt : L < h₃.objs.size := F.ns.lt
  refine wpAny_execs_cons (For_listN hh (ld F rfl ?_))
  refine ⟨r, items, rfl, lst_of (x.KB r · hr6) hr, (fun k s' => ∃ h tk m ents, s' = { s with heap := h, toks := tk } ∧ NumI s (hid s.heap) L p dx l r ents (fun c => h₃.objs.size + 1 ≤ c) m h ∧ (W.take k).foldl (numStep W) (some []) = some ents ∧ (∀ e ∈ ents, SafeL e.1 ∧ e.2.natAbs ≤ 9) ∧ ents.length = k), ?_, ?_, ?_⟩
  · intro o
    have ko : Kp h₃ (h₃.push o) := fun b o e => Heap.get?_push_of_some _ e
    exact ⟨_, _, _, [], rfl, ⟨Frk x.F ko, fun b o hb e => ko _ _ (x.KB b o hb e), x.HO.keeps ko, x.HL.keeps ko, (x.T.mono fun c c0 c1 => c0.elim).keeps ko, x.vr, x.vn⟩, rfl, (fun e he => by cases he), rfl⟩
  · intro k v s' h' tk' io oa E' hk ⟨h5, tk5, m5, ents, e, x5, hfo, hok, hln⟩ hio kI eI ea hDl
    subst e
    obtain ⟨wd, tw, hwd, rfl⟩ := hW.get' (by simpa using hk)
    have hwo := hWo.2 wd (List.mem_of_getElem? hwd)
    have hkl : k < 16 := by have := (List.getElem?_eq_some_iff.mp hwd).1; have := hWo.1; omega
    have hstep := fold_step (f := numStep W) (i := some []) hwd
    rw [hfo] at hstep
    obtain ⟨ents', hr2⟩ := fold_pre (f := numStep W) (fun _ => rfl) hres (k + 1)
    have hst : numStep W (some ents) wd = some ents' := hstep.symm.trans hr2
    have PL : ∀ c, h₃.objs.size + 1 ≤ c → c ≠ L := fun c hc => by have := F.ns.lt; exact (Nat.ne_of_lt (Nat.lt_of_lt_of_le (Nat.lt_succ_of_lt this) hc)).symm
    have x := x5.itr P.hLI P.gI P.sI P.pI P.dI P.lI P.nI (fun c hc => (Nat.ne_of_lt hc).symm) hio kI
    obtain ⟨orr, hor, hor2⟩ := id hr
    have er := x.KB r orr hr6 hor
    have eo : oa = orr := Option.some.inj (ea.symm.trans er)
    have F := x.F
    refine assign_Name (stS F (fun h6 F s6 => ?_))
    replace x := x.sto C PL F s6 x.vr x.vn
    replace eI := s6.extBut _ _ P.hLI.symm eI
    have lN : l < h₃.objs.size + 1 := by
      obtain ⟨its, ⟨o, n, e, _⟩, _⟩ := HL
      have e1 := s3.extBut _ _ hlL.symm e
      exact Nat.lt_succ_of_lt (Heap.lt_size e1)
    refine wpAny_mono (num_body (s₀ := s) (E := E') (N := h₃.objs.size + 1) (I := h₃.objs.size) (io := io) C X T B R' hh x rfl hr hr6 hW hWo rfl hwd hst hok (by omega) eI P.hLI.symm P.lI.symm P.nI.symm (Nat.lt_succ_of_lt hLlt) lN) (fun f s' hf => ?_) fun _ _ e => e
    obtain ⟨rfl, h7, tk7, m7, rfl, x, eI⟩ := hf
    obtain ⟨ok2, ln2⟩ := numStep_ok hwo hst hok
    exact ⟨⟨h7, tk7, m7, ents', rfl, x, hr2, ok2, by omega⟩, eI, by rw [eo]; exact x.KB r orr hr6 hor⟩
  · intro s' h' tk' ⟨h5, tk5, m5, ents, e, x5, hfo, hok, hln⟩ hio kI
    subst e
    have x := x5.itr P.hLI P.gI P.sI P.pI P.dI P.lI P.nI (fun c hc => (Nat.ne_of_lt hc).symm) hio kI
    have hall : W.take items.size = W := List.take_of_length_le (by omega)
    rw [hall] at hfo
    have he : ents = res := Option.some.inj (hfo.symm.trans hres)
    subst he
    have F := x.F
    refine wpAny_execs_cons (wpAny_Return_some (MethodCall_ (ld F x.vn (meth_hdr (f := 253) F X x.HO (by kernel_rfl) (by kernel_rfl) (by kernel_rfl) (by decide +kernel) (callWith_K0 (K := Kx w.params) (X.keeps F.keep) (by kernel_rfl) ?_)))))
    have hl1 := hWo.1
    refine wpAny_mono (hdr_items (E := fun _ _ => False) (Gd.keeps ⟨X, T⟩ F.keep) (R'.le (by omega : n + 1 ≤ n + 5)) x.HO x.HL (by unfold entsD; rw [List.length_map]; omega)) (fun v' s' hv => ?_) fun _ _ e => e
    obtain ⟨D, rfl, hD, h8, tk8, rfl, kp⟩ := hv
    obtain ⟨ps, hps, _⟩ := x.T
    exact ⟨⟨D, rfl, hD⟩, _, _, rfl, (fun b o hb e => kp _ _ (x.KB b o hb e)), ps, kp _ _ hps⟩
end
end Mine
end

section
open PySem PySem.W PyProof.Rows PySem.Calls
set_option Elab.async false
set_option maxRecDepth 100000
set_option maxHeartbeats 4000000
namespace Mine
variable {w : World} {mg mb : Str → Option Value} {q : Program} {lo : List Str}
theorem fill20 : (fun (_ : OpenLaw) (_ : Params → Frag) => True) PySem.Challenge.rw_uq0030_01 Kx := by k_fill; trivial
noncomputable def takF (l x : List Nat) (p : Nat) (ways : List Int) : List Int := 0 :: (List.range l.length).map fun k => if l.getD k 0 = x.getD p 0 then ways.getD k 0 else 0
noncomputable def wayStep (l x : List Nat) (ways : List Int) (p : Nat) : List Int := if 0 < p ∧ x.getD (p - 1) 0 = x.getD p 0 then takF l x p ways else (List.range (l.length + 1)).map fun k => ways.getD k 0 + (takF l x p ways).getD k 0
noncomputable def way0 (l : List Nat) : List Int := 1 :: List.replicate l.length 0
noncomputable def wayG (l x : List Nat) (n : Nat) : List Int := (List.range n).foldl (wayStep l x) (way0 l)
noncomputable def wayF (l x : List Nat) : Int := (wayG l x x.length).getD l.length 0
theorem wayG_succ (l x : List Nat) (n : Nat) : wayG l x (n + 1) = wayStep l x (wayG l x n) n := by unfold wayG; rw [List.range_succ, List.foldl_append]; rfl
theorem wayStep_len (l x : List Nat) (ways : List Int) (p : Nat) : (wayStep l x ways p).length = l.length + 1 := by
  unfold wayStep takF; split <;> simp
theorem wayG_len (l x : List Nat) : ∀ n, (wayG l x n).length = l.length + 1
  | 0 => by simp [wayG, way0]
  | n + 1 => by rw [wayG_succ, wayStep_len]
theorem fold_rep (v : Value) : ∀ (n : Nat) (a : Array Value), List.foldl (fun x1 x2 => x1 ++ x2) a (List.replicate n #[v]) = a ++ (List.replicate n v).toArray
  | 0, a => by simp
  | n + 1, a => by
    rw [List.replicate_succ, List.foldl_cons, fold_rep v n, List.replicate_succ]
    apply Array.toList_inj.mp
    simp
theorem list_ne_cell {h : Heap} {D c : Addr} {items : Array Value} {v : Option Value} (a : h.IsList D items) (b : h.IsCell c v) : D ≠ c := by
  rintro rfl
  obtain ⟨o, ho, _, n, hd⟩ := a
  obtain ⟨o', ho', hd'⟩ := b
  rw [ho] at ho'; cases ho'; rw [hd] at hd'; cases hd'
theorem cell_but {h h' : Heap} {c r : Addr} {v : Option Value} (x : h.IsCell c v) (hr : c ≠ r) (k : ∀ b o, b ≠ r → h.get? b = some o → h'.get? b = some o) : h'.IsCell c v := by
  obtain ⟨o, a, b⟩ := x; exact ⟨o, k _ _ hr a, b⟩
theorem cell_lt {h : Heap} {c : Addr} {v : Option Value} (x : h.IsCell c v) : c < h.objs.size := by obtain ⟨o, a, _⟩ := x; exact Heap.lt_size a
noncomputable def RowL (h : Heap) (D : Addr) (row : List Int) : Prop := ∃ items n, PySem.IsL h D items n ∧ RowIs items row
theorem RowL.keeps {h h' : Heap} {D : Addr} {row} (x : RowL h D row) (k : Kp h h') : RowL h' D row := by obtain ⟨items, n, a, b⟩ := x; exact ⟨items, n, k _ _ a, b⟩
theorem RowL.but {h h' : Heap} {D r : Addr} {row} (x : RowL h D row) (hr : D ≠ r) (k : ∀ b o, b ≠ r → h.get? b = some o → h'.get? b = some o) : RowL h' D row := by obtain ⟨items, n, a, b⟩ := x; exact ⟨items, n, k _ _ hr a, b⟩
theorem RowL.isList {h : Heap} {D : Addr} {row} (x : RowL h D row) : ∃ items, h.IsList D items ∧ RowIs items row := by obtain ⟨items, n, a, b⟩ := x; exact ⟨items, ⟨_, a, rfl, n, rfl⟩, b⟩
noncomputable def RowV (row : List Int) (vs : List Value) : Prop := Paired (fun (r : Int) v => ∃ t, v = Value.int r t) row vs
theorem RowV.get {row : List Int} {vs : List Value} (h : RowV row vs) : ∀ k, k < row.length → ∃ t, vs[k]? = some (.int (row.getD k 0) t) := by
  induction h with
  | nil => intro k hk; cases hk
  | cons a _ ih =>
    intro k hk
    cases k with
    | zero => obtain ⟨t, rfl⟩ := a; exact ⟨t, rfl⟩
    | succ k =>
      obtain ⟨t, e⟩ := ih k (Nat.lt_of_succ_lt_succ hk)
      exact ⟨t, by simpa using e⟩
theorem RowV.is {row : List Int} {vs : List Value} (h : RowV row vs) : RowIs vs.toArray row := by
  refine ⟨by rw [List.size_toArray]; exact paired_len h, fun k hk => ?_⟩
  obtain ⟨t, e⟩ := h.get k hk
  exact ⟨t, by rw [List.getElem?_toArray]; exact e⟩
theorem rowV_rep (t : Tok) : ∀ n, RowV (List.replicate n 0) (List.replicate n (Value.int 0 t))
  | 0 => Paired.nil
  | n + 1 => Paired.cons ⟨t, rfl⟩ (rowV_rep t n)
theorem rowV_app {r1 r2 : List Int} {v1 v2 : List Value} (h1 : RowV r1 v1) (h2 : RowV r2 v2) : RowV (r1 ++ r2) (v1 ++ v2) := by
  induction h1 with
  | nil => exact h2
  | cons a _ ih => exact Paired.cons a ih
theorem news_cell {h₀ h h' : Heap} {L c : Addr} {news : List (Addr × Obj)} {o : Obj} {v : Option Value} (N : News h₀ L h news) (hm : (c, o) ∈ news) (hd : o.data = .cell v) (k : Kp h h') : h'.IsCell c v := ⟨o, k _ _ (N _ hm).1, hd⟩
structure WyI (s₀ : Shared) (L : Addr) (l x : List Nat) (tl tx : Tok) (D : Addr) (row : List Int) (m : Str → Option Value) (h : Heap) : Prop where
  F : Fr s₀.heap L h m
  c1 : h.IsCell (L + 1) (some (.str (ws l) tl))
  c2 : h.IsCell (L + 2) (some (.str (ws x) tx))
  c3 : h.IsCell (L + 3) (some (.ref D))
  c4 : ∃ v, h.IsCell (L + 4) v
  c5 : ∃ v, h.IsCell (L + 5) v
  hD : RowL h D row
theorem WyI.keeps {s₀ : Shared} {L : Addr} {l x : List Nat} {tl tx : Tok} {D : Addr} {row : List Int} {m} {h h' : Heap} (y : WyI s₀ L l x tl tx D row m h) (k : Kp h h') : WyI s₀ L l x tl tx D row m h' := by
  have kc : ∀ {c v}, h.IsCell c v → h'.IsCell c v := fun z => by obtain ⟨o, a, b⟩ := z; exact ⟨o, k _ _ a, b⟩
  obtain ⟨v4, z4⟩ := y.c4
  obtain ⟨v5, z5⟩ := y.c5
  exact ⟨Frk y.F k, kc y.c1, kc y.c2, kc y.c3, ⟨v4, kc z4⟩, ⟨v5, kc z5⟩, y.hD.keeps k⟩
theorem adn (L i j : Nat) (h : i ≠ j) : L + i ≠ L + j := by omega
theorem adz (L i : Nat) (h : 0 < i) : L ≠ L + i := by omega
/-- a cell is given another value -/
theorem WyI.set4 {s₀ : Shared} {L : Addr} {l x : List Nat} {tl tx : Tok} {D : Addr} {row : List Int} {m} {h h' : Heap} {v} (y : WyI s₀ L l x tl tx D row m h) (c : h'.IsCell (L + 4) v) (k : Heap.SameBut (L + 4) h h') (g : s₀.heap.get? (L + 4) = none) (hD : D ≠ L + 4) : WyI s₀ L l x tl tx D row m h' :=
  ⟨Frx y.F (adz L 4 (by decide)) g k.extBut, cell_but y.c1 (adn L 1 4 (by decide)) k.extBut, cell_but y.c2 (adn L 2 4 (by decide)) k.extBut, cell_but y.c3 (adn L 3 4 (by decide)) k.extBut, ⟨_, c⟩, by obtain ⟨v, z⟩ := y.c5; exact ⟨v, cell_but z (adn L 5 4 (by decide)) k.extBut⟩, y.hD.but hD k.extBut⟩
theorem WyI.set5 {s₀ : Shared} {L : Addr} {l x : List Nat} {tl tx : Tok} {D : Addr} {row : List Int} {m} {h h' : Heap} {v} (y : WyI s₀ L l x tl tx D row m h) (c : h'.IsCell (L + 5) v) (k : Heap.SameBut (L + 5) h h') (g : s₀.heap.get? (L + 5) = none) (hD : D ≠ L + 5) : WyI s₀ L l x tl tx D row m h' :=
  ⟨Frx y.F (adz L 5 (by decide)) g k.extBut, cell_but y.c1 (adn L 1 5 (by decide)) k.extBut, cell_but y.c2 (adn L 2 5 (by decide)) k.extBut, cell_but y.c3 (adn L 3 5 (by decide)) k.extBut, by obtain ⟨v, z⟩ := y.c4; exact ⟨v, cell_but z (adn L 4 5 (by decide)) k.extBut⟩, ⟨_, c⟩, y.hD.but hD k.extBut⟩
theorem WyI.set3 {s₀ : Shared} {L : Addr} {l x : List Nat} {tl tx : Tok} {D D' : Addr} {row row' : List Int} {m} {h h' : Heap} (y : WyI s₀ L l x tl tx D row m h) (c : h'.IsCell (L + 3) (some (.ref D'))) (k : Heap.SameBut (L + 3) h h') (g : s₀.heap.get? (L + 3) = none) (hl : RowL h D' row') (hD : D' ≠ L + 3) : WyI s₀ L l x tl tx D' row' m h' :=
  ⟨Frx y.F (adz L 3 (by decide)) g k.extBut, cell_but y.c1 (adn L 1 3 (by decide)) k.extBut, cell_but y.c2 (adn L 2 3 (by decide)) k.extBut, c, by obtain ⟨v, z⟩ := y.c4; exact ⟨v, cell_but z (adn L 4 3 (by decide)) k.extBut⟩, by obtain ⟨v, z⟩ := y.c5; exact ⟨v, cell_but z (adn L 5 3 (by decide)) k.extBut⟩, hl.but hD k.extBut⟩
theorem RowL.ne_cell {h : Heap} {D c : Addr} {row} {v : Option Value} (a : RowL h D row) (b : h.IsCell c v) : D ≠ c := by obtain ⟨its, hl, _⟩ := a.isList; exact list_ne_cell hl b
/-- a range's iterator steps -/
theorem WyI.itr {s₀ : Shared} {L I : Addr} {l x : List Nat} {tl tx : Tok} {D : Addr} {row : List Int} {m} {h h' : Heap} (y : WyI s₀ L l x tl tx D row m h) (g : s₀.heap.get? I = none) (hI : L + 5 < I) (hio : ∃ o, h.get? I = some o ∧ o.cls = .type "range_iterator") (k : ∀ b o, b ≠ I → h.get? b = some o → h'.get? b = some o) : WyI s₀ L l x tl tx D row m h' := by
  have ne : ∀ i, i ≤ 5 → L + i ≠ I := fun i hi => Nat.ne_of_lt (Nat.lt_of_le_of_lt (Nat.add_le_add_left hi L) hI)
  have hDI : D ≠ I := by
    rintro rfl
    obtain ⟨items, n, a, _⟩ := y.hD
    obtain ⟨o, e, hc⟩ := hio
    rw [a] at e; cases e; exact absurd hc (by show ¬ (Value.type "list" = Value.type "range_iterator"); decide)
  obtain ⟨v4, z4⟩ := y.c4
  obtain ⟨v5, z5⟩ := y.c5
  exact ⟨Frx y.F (ne 0 (by decide)) g k, cell_but y.c1 (ne 1 (by decide)) k, cell_but y.c2 (ne 2 (by decide)) k, cell_but y.c3 (ne 3 (by decide)) k, ⟨v4, cell_but z4 (ne 4 (by decide)) k⟩, ⟨v5, cell_but z5 (ne 5 (by decide)) k⟩, y.hD.but hDI k⟩
theorem above_none {s₀ : Shared} {L : Addr} {h : Heap} {m} (F : Fr s₀.heap L h m) {c : Addr} (hc : L ≤ c) : s₀.heap.get? c = none := by
  cases e : s₀.heap.get? c with
  | none => rfl
  | some o => exact absurd (Heap.lt_size e) (Nat.not_lt.mpr (Nat.le_trans F.above hc))
section
variable {A : Around} {E : Value → Shared → Prop} {s : Shared}
theorem ldC {cn : Str} {cs : Scope} {L a c : Addr} {cd : Value} {x : Str} {pos : Pos} {v : Value} {Q : Value → Shared → Prop} (hv : s.heap.IsCell c (some v)) (h : Q v s)
    (hc : (envOfC cn cs L a cd).cells.lookup x = some c := by with_unfolding_all rfl) (hl : (envOfC cn cs L a cd).kindOf x = some .cell := by with_unfolding_all rfl) (hk : cs.kind = .function := by with_unfolding_all rfl) (hd : (x == ("__debug__" : Str)) = false := by decide) :
    wpAny (model pw w) A (eval (.Name x pos) (envOfC cn cs L a cd)) Q E s := wpAny_Name (wpAny_loadName_cell hk hl hc hv h) hd
theorem stC {cn : Str} {cs : Scope} {L a c : Addr} {cd : Value} {x : Str} {v : Value} {v₀ : Option Value} {Q : Unit → Shared → Prop} (hv : s.heap.IsCell c v₀) (h : ∀ h', h'.IsCell c (some v) → Heap.SameBut c s.heap h' → Q () { s with heap := h' })
    (hc : (envOfC cn cs L a cd).cells.lookup x = some c := by with_unfolding_all rfl) (hl : (envOfC cn cs L a cd).kindOf x = some .cell := by with_unfolding_all rfl) (hk : cs.kind = .function := by with_unfolding_all rfl) :
    wpAny (model pw w) A (storeName (envOfC cn cs L a cd) x v) Q E s := wpAny_storeName_cell hk hl hc hv h
noncomputable def wayB : List Stmt := match ((fB 30)[1]? : Option Stmt) with | some (Stmt.For _ _ b _ _) => b | _ => []
theorem ways_end {n : Nat} {s₀ : Shared} {h : Heap} {tk : Nat} {L D I TA : Addr} {io : Obj} {l x : List Nat} {tl tx tv : Tok} {row : List Int} {m : Str → Option Value} {p : Nat} (X : (Kx w.params).In s₀.heap) (T : TopRead q lo mg mb s₀.heap) (R : Rm n A) (hh : A.handled = none) (hl : l.length ≤ 4) (hx : x.length ≤ 4) (hp : p < x.length) (hrow : row.length = l.length + 1)
    (y : WyI s₀ L l x tl tx D row m h) (c4 : h.IsCell (L + 4) (some (.int p tv))) (c5 : h.IsCell (L + 5) (some (.ref TA))) (hT : RowL h TA (takF l x p row)) (eI : h.get? I = some io) (hI : L + 5 < I) :
    wpAny (model pw w) A (execs (wayB.drop 1) (envOfC (S "_law_ways") (fS 30) L 336 (.ref 335))) (fun f s' => f = .next ∧ ∃ h' tk' D', s' = { s₀ with heap := h', toks := tk' } ∧ WyI s₀ L l x tl tx D' (wayStep l x row p) m h' ∧ h'.get? I = some io) E { s₀ with heap := h, toks := tk } := by
  have gc : ∀ i, s₀.heap.get? (L + i) = none := fun i => above_none y.F (Nat.le_add_right _ _)
  have hIne : ∀ i, i ≤ 5 → I ≠ L + i := fun i hi => (Nat.ne_of_lt (Nat.lt_of_le_of_lt (Nat.add_le_add_left hi L) hI)).symm
  have hxp : x[p]? = some (x.getD p 0) := by rw [List.getD_eq_getElem?_getD, List.getElem?_eq_getElem hp]; rfl
  have htl : (takF l x p row).length = l.length + 1 := by simp [takF]
  (with_unfolding_all show wpAny _ _ (execs (_ :: _) _) _ _ _)
  refine wpAny_execs_cons (wpAny_If (wpAny_mono (Q := fun r s' => r = decide (0 < p ∧ x.getD (p - 1) 0 = x.getD p 0) ∧ ∃ tk, s' = { s₀ with heap := h, toks := tk }) (E := E) (wpAny_isTrue_BoolOp (wpAny_allTrue_And_cons (wpAny_isTrue_Compare1 (ldC c4 (wpAny_Constant_int (P.gt_int (wpAny_truthy_bool ?_))))))) (fun r s' hr => ?_) fun _ _ e => e))
  · by_cases e0 : 0 < p
    · rw [if_pos (by simpa using e0)]
      have hxq : x[p - 1]? = some (x.getD (p - 1) 0) := by rw [List.getD_eq_getElem?_getD, List.getElem?_eq_getElem (by omega)]; rfl
      refine wpAny_allTrue_And_cons (wpAny_isTrue_Compare1 (Subscript_ (ldC y.c2 (wpAny_BinOp (ldC c4 (wpAny_Constant_int (P.sub_int ?_)))))))
      have e1 : (p : Int) - 1 = ((p - 1 : Nat) : Int) := by omega
      rw [e1]
      refine item_ws hxq (by omega) (Subscript_ (ldC y.c2 (ldC c4 (item_ws hxp (by omega) (eq_ws (wpAny_truthy_bool ?_))))))
      by_cases ee : x.getD (p - 1) 0 = x.getD p 0
      · rw [if_pos (by rw [ee]; exact beq_self_eq_true _)]
        exact wpAny_allTrue_And_nil ⟨(decide_eq_true ⟨e0, ee⟩).symm, _, rfl⟩
      · rw [if_neg (by intro hc; exact ee (by simpa using eq_of_beq hc))]
        exact ⟨(decide_eq_false fun hc => ee hc.2).symm, _, rfl⟩
    · rw [if_neg (by simpa using e0)]
      exact ⟨(decide_eq_false fun hc => e0 hc.1).symm, _, rfl⟩
  obtain ⟨rfl, tk9, rfl⟩ := hr
  have F := y.F
  by_cases ec : 0 < p ∧ x.getD (p - 1) 0 = x.getD p 0
  · rw [if_pos (decide_eq_true ec)]
    have hT3 := hT.ne_cell y.c3
    refine wpAny_execs_cons (wpAny_Assign_Name (ldC c5 (stC y.c3 (fun h10 c3 s10 => ?_))))
    replace y := y.set3 c3 s10 (gc 3) hT hT3
    have ew : wayStep l x row p = takF l x p row := by unfold wayStep; rw [if_pos ec]
    refine wpAny_execs_nil (wpAny_execs_nil ?_)
    rw [ew]
    exact ⟨rfl, h10, _, TA, rfl, y, s10.extBut _ _ (hIne 3 (by decide)) eI⟩
  · rw [if_neg (by simpa using ec)]
    have ew : wayStep l x row p = (List.range (l.length + 1)).map fun k => row.getD k 0 + (takF l x p row).getD k 0 := by unfold wayStep; rw [if_neg ec]
    have cI : ∀ {h' : Heap} {c v}, Kp h h' → h.IsCell c v → h'.IsCell c v := fun k z => by obtain ⟨o, a, b⟩ := z; exact ⟨o, k _ _ a, b⟩
    refine wpAny_execs_cons (wpAny_Assign_Name ?_)
    refine comp_range (Q := ?Q) hh (cl := [(S "ways", L + 3), (S "taken", L + 5)]) (fun _ => true) (fun k v => ∃ t, v = Value.int (row.getD k 0 + (takF l x p row).getD k 0) t) ?_ ?_ ?_ ?_ ?_ ?_ ?_
    · rfl
    · decide
    · rfl
    · decide
    · decide
    · refine Call_Name1 (nameX_B F X T (by k_is) (by boot_fast) (by decide) (PySem.callWith_type1 (wpAny_BinOp (Call_Name1 (nameX_B F X T (by k_is) (by boot_fast) (by decide) (PySem.callWith_builtin1 (ldC y.c1 (len_ws (by omega) (wpAny_Constant_int (P.add_int ?_))))))))))
      have e1 : (l.length : Int) + 1 = ((l.length + 1 : Nat) : Int) := by omega
      rw [e1]
      refine call_range_1 ?_
      have k67 : ∀ o : Obj, Kp h (h.push o) := fun _ b o e => Heap.get?_push_of_some _ e
      refine ⟨_, l.length + 1, _, _, _, rfl, IsRange.new _ _ _ _ _ _ _, by omega, ?_, ?_, ?_⟩
      · intro C i tp s3 m3 E' hi hns hm k3
        exact wpAny_tests_nil ⟨rfl, _, _, rfl, fun b o e => e⟩
      · intro C i tp s3 m3 E' hi _ hns hm k3
        have k : Kp h s3.heap := fun b o e => k3 b o (k67 _ b o e)
        obtain ⟨items, hlst, hri⟩ := y.hD.isList
        obtain ⟨ti, hti⟩ := hri.2 i (by omega)
        obtain ⟨items2, hlst2, hri2⟩ := hT.isList
        obtain ⟨t2, ht2⟩ := hri2.2 i (by omega)
        refine wpAny_BinOp (Subscript_ (ldF rfl (cI k y.c3) (ldV hns hm (item_L (lst_of (k D) hlst) hti (by omega) (Subscript_ (ldF rfl (cI k c5) (ldV hns hm (item_L (lst_of (k TA) hlst2) ht2 (by omega) (P.add_int ?_)))))))))
        exact ⟨⟨_, rfl⟩, _, _, rfl, fun b o e => e⟩
      · intro D2 h7 tk7 ys hD2 hl7 hpl7 hpr k3
        have k : Kp h h7 := fun b o e => k3 b o (k67 _ b o e)
        have hft : (List.range (l.length + 1)).filter (fun _ => true) = List.range (l.length + 1) := by simp
        rw [hft] at hpr
        have hN : RowL h7 D2 (wayStep l x row p) := by
          obtain ⟨n2, hpl7⟩ := hpl7
          refine ⟨ys, n2, hpl7, ?_⟩
          have aux : ∀ (ks : List Nat) (vs : List Value), Paired (fun k v => ∃ t, v = Value.int (row.getD k 0 + (takF l x p row).getD k 0) t) ks vs → RowV (ks.map fun k => row.getD k 0 + (takF l x p row).getD k 0) vs := by
            intro ks vs h
            induction h with
            | nil => exact Paired.nil
            | cons a _ ih => exact Paired.cons a ih
          have := (aux _ _ hpr).is
          rw [Array.toArray_toList, ← ew] at this
          exact this
        replace y := y.keeps k
        have hT3 := hN.ne_cell y.c3
        refine stC y.c3 (fun h10 c3 s10 => ?_)
        replace y := y.set3 c3 s10 (gc 3) hN hT3
        refine wpAny_execs_nil (wpAny_execs_nil ?_)
        exact ⟨rfl, h10, _, D2, rfl, y, s10.extBut _ _ (hIne 3 (by decide)) (k _ _ eI)⟩
    · intro _; rfl
theorem ways_turn {n : Nat} {s₀ : Shared} {h : Heap} {tk : Nat} {L D I : Addr} {io : Obj} {l x : List Nat} {tl tx tv : Tok} {row : List Int} {m : Str → Option Value} {p : Nat} (X : (Kx w.params).In s₀.heap) (T : TopRead q lo mg mb s₀.heap) (R : Rm n A) (hh : A.handled = none) (hl : l.length ≤ 4) (hx : x.length ≤ 4) (hp : p < x.length) (hrow : row.length = l.length + 1)
    (y : WyI s₀ L l x tl tx D row m h) (c4 : h.IsCell (L + 4) (some (.int p tv))) (eI : h.get? I = some io) (hI : L + 5 < I) :
    wpAny (model pw w) A (execs wayB (envOfC (S "_law_ways") (fS 30) L 336 (.ref 335))) (fun f s' => f = .next ∧ ∃ h' tk' D', s' = { s₀ with heap := h', toks := tk' } ∧ WyI s₀ L l x tl tx D' (wayStep l x row p) m h' ∧ h'.get? I = some io) E { s₀ with heap := h, toks := tk } := by
  have gc : ∀ i, s₀.heap.get? (L + i) = none := fun i => above_none y.F (Nat.le_add_right _ _)
  have hIne : ∀ i, i ≤ 5 → I ≠ L + i := fun i hi => (Nat.ne_of_lt (Nat.lt_of_le_of_lt (Nat.add_le_add_left hi L) hI)).symm
  have hxp : x[p]? = some (x.getD p 0) := by rw [List.getD_eq_getElem?_getD, List.getElem?_eq_getElem hp]; rfl
  (with_unfolding_all show wpAny _ _ (execs (_ :: _) _) _ _ _)
  refine wpAny_execs_cons (wpAny_Assign_Name (wpAny_BinOp (List_ (wpAny_items_cons (wpAny_Constant_int (wpAny_items_nil (wpAny_newList (hsz := (by decide : 1 ≤ sizeLine)) ?_)))))))
  have k56 : Kp h (h.push { cls := .type "list", data := .seq ([Value.int 0 tk] : List Value).toArray }) := fun b o e => Heap.get?_push_of_some _ e
  have hz0 : PySem.IsL (h.push { cls := .type "list", data := .seq ([Value.int 0 tk] : List Value).toArray }) h.objs.size ([Value.int 0 tk] : List Value).toArray 0 := Heap.get?_push_size _ rfl
  generalize hz : Heap.push h _ = h6 at k56 hz0
  replace y := y.keeps k56
  have c4' : h6.IsCell (L + 4) (some (.int p tv)) := by obtain ⟨o, a, b⟩ := c4; exact ⟨o, k56 _ _ a, b⟩
  replace eI := k56 _ _ eI
  have F := y.F
  have cI : ∀ {h' : Heap} {c v}, Kp h6 h' → h6.IsCell c v → h'.IsCell c v := fun k z => by obtain ⟨o, a, b⟩ := z; exact ⟨o, k _ _ a, b⟩
  refine comp_range (Q := ?Q) hh (cl := [(S "word", L + 2), (S "ways", L + 3), (S "place", L + 4), (S "low", L + 1)]) (fun _ => true) (fun k v => ∃ t, v = Value.int (if l.getD k 0 = x.getD p 0 then row.getD k 0 else 0) t) ?_ ?_ ?_ ?_ ?_ ?_ ?_
  · rfl
  · decide
  · rfl
  · decide
  · decide
  · show wpAny _ _ _ _ _ { s₀ with heap := h6, toks := tk + 1 }
    refine Call_Name1 (nameX_B F X T (by k_is) (by boot_fast) (by decide) (PySem.callWith_type1 (Call_Name1 (nameX_B F X T (by k_is) (by boot_fast) (by decide) (PySem.callWith_builtin1 (ldC y.c1 (len_ws (by omega) (call_range_1 ?_))))))))
    have k67 : ∀ o : Obj, Kp h6 (h6.push o) := fun _ b o e => Heap.get?_push_of_some _ e
    refine ⟨_, l.length, _, _, _, rfl, IsRange.new _ _ _ _ _ _ _, by omega, ?_, ?_, ?_⟩
    · intro C i tp s3 m3 E' hi hns hm k3
      exact wpAny_tests_nil ⟨rfl, _, _, rfl, fun b o e => e⟩
    · intro C i tp s3 m3 E' hi _ hns hm k3
      have k : Kp h6 s3.heap := fun b o e => k3 b o (k67 _ b o e)
      have hli : l[i]? = some (l.getD i 0) := by rw [List.getD_eq_getElem?_getD, List.getElem?_eq_getElem hi]; rfl
      refine wpAny_IfExp (wpAny_isTrue_Compare1 (Subscript_ (ldF rfl (cI k y.c1) (ldV hns hm (item_ws hli (by omega) (Subscript_ (ldF rfl (cI k y.c2) (ldF rfl (cI k c4') (item_ws hxp (by omega) (eq_ws (wpAny_truthy_bool ?_)))))))))))
      by_cases e : l.getD i 0 = x.getD p 0
      · rw [if_pos (by rw [e]; exact beq_self_eq_true _)]
        obtain ⟨items, hlst, hri⟩ := y.hD.isList
        obtain ⟨ti, hti⟩ := hri.2 i (by omega)
        refine Subscript_ (ldF rfl (cI k y.c3) (ldV hns hm (item_L (lst_of (k D) hlst) hti (by omega) ?_)))
        exact ⟨⟨ti, by rw [if_pos e]⟩, _, _, rfl, fun b o e => e⟩
      · rw [if_neg (by intro hc; exact e (by simpa using eq_of_beq hc))]
        refine wpAny_Constant_int ?_
        exact ⟨⟨_, by rw [if_neg e]⟩, _, _, rfl, fun b o e => e⟩
    · intro D2 h7 tk7 ys hD2 hl7 hpl7 hpr k3
      have k : Kp h6 h7 := fun b o e => k3 b o (k67 _ b o e)
      obtain ⟨n2, hpl7⟩ := hpl7
      have hft : (List.range l.length).filter (fun _ => true) = List.range l.length := by simp
      rw [hft] at hpr
      have hlen := paired_len hpr
      rw [List.length_range] at hlen
      have hsz1 : 1 + ys.size ≤ sizeLine := by
        have e : ys.size = ys.toList.length := by simp
        rw [e, hlen]
        exact Nat.le_trans (by omega) (by decide : 1000 ≤ sizeLine)
      refine P.add_list (n := 0) (n2 := n2) (k _ _ hz0) hpl7 ?_ hsz1
      have hT : RowL (h7.push { cls := .type "list", data := .seq (([Value.int 0 tk] : List Value).toArray ++ ys) }) h7.objs.size (takF l x p row) := by
        refine ⟨_, 0, Heap.get?_push_size _ rfl, ?_⟩
        have aux : ∀ (ks : List Nat) (vs : List Value), Paired (fun k v => ∃ t, v = Value.int (if l.getD k 0 = x.getD p 0 then row.getD k 0 else 0) t) ks vs → RowV (ks.map fun k => if l.getD k 0 = x.getD p 0 then row.getD k 0 else 0) vs := by
          intro ks vs h
          induction h with
          | nil => exact Paired.nil
          | cons a _ ih => exact Paired.cons a ih
        have := (rowV_app (Paired.cons ⟨tk, rfl⟩ Paired.nil : RowV [0] [Value.int 0 tk]) (aux _ _ hpr)).is
        rw [← List.append_toArray, Array.toArray_toList] at this
        exact this
      have k78 : Kp h6 (h7.push { cls := .type "list", data := .seq (([Value.int 0 tk] : List Value).toArray ++ ys) }) := fun b o e => Heap.get?_push_of_some _ (k _ _ e)
      generalize Heap.push h7 _ = h8 at k78 hT
      obtain ⟨TA, hTA⟩ : ∃ TA, TA = h7.objs.size := ⟨_, rfl⟩
      rw [← hTA] at hT ⊢
      replace y := y.keeps k78
      replace c4' := cI k78 c4'
      replace eI := k78 _ _ eI
      obtain ⟨v5, z5⟩ := y.c5
      have hD5 := y.hD.ne_cell z5
      have hT5 := hT.ne_cell z5
      refine stC z5 (fun h9 c5 s9 => ?_)
      replace y := y.set5 c5 s9 (gc 5) hD5
      replace c4' := cell_but c4' (adn L 4 5 (by decide)) s9.extBut
      replace eI := s9.extBut _ _ (hIne 5 (by decide)) eI
      replace hT := hT.but hT5 s9.extBut
      exact ways_end X T R hh hl hx hp hrow y c4' c5 hT eI hI
  · intro _; rfl
theorem law_ways {n : Nat} {l x : List Nat} {tl tx : Tok} (G : Gd w q lo mg mb s.heap) (R : Rm (n + 2) A) (hA : A.handled = none) (hl : l.length ≤ 4) (hx : x.length ≤ 4) :
    wpAny (model pw w) A (call (.ref 336) [.str (ws l) tl, .str (ws x) tx]) (fun v s' => (∃ t, v = .int (wayF l x) t) ∧ Keeps s s') E s := by
  refine enterC (f := 336) (name := S "_law_ways") (qual := S "_law_ways") (params := fA 30) (body := fB 30) (scope := fS 30) (binds := [(S "low", .str (ws l) tl), (S "word", .str (ws x) tx)]) G R rfl rfl rfl rfl (by decide +kernel) ?_ rfl rfl rfl
  intro L h₁ tk A' cells F N Y X T R' hh
  replace hh := hh.trans hA
  rcases Y with _ | ⟨d5, _ | ⟨d4, _ | ⟨d3, _ | ⟨d2, _ | ⟨d1, _⟩⟩⟩⟩⟩
  rename_i o5 o4 o3 o2 o1
  (with_unfolding_all show wpAny _ _ (execs (_ :: _) _) _ _ _)
  refine wpAny_execs_cons (wpAny_Assign_Name (wpAny_BinOp (List_ (wpAny_items_cons (wpAny_Constant_int (wpAny_items_nil (wpAny_newList (hsz := (by decide : 1 ≤ sizeLine)) ?_)))))))
  have N1 := N.push F { cls := .type "list", data := .seq [Value.int 1 tk].toArray }
  replace F := F.push { cls := .type "list", data := .seq [Value.int 1 tk].toArray }
  refine wpAny_BinOp (List_ (wpAny_items_cons (wpAny_Constant_int (wpAny_items_nil (wpAny_newList (hsz := (by decide : 1 ≤ sizeLine)) ?_)))))
  have N2 := N1.push F { cls := .type "list", data := .seq [Value.int 0 (tk + 1)].toArray }
  replace F := F.push { cls := .type "list", data := .seq [Value.int 0 (tk + 1)].toArray }
  refine Call_Name1 (nameX_B F X T (by k_is) (by boot_fast) (by decide) (PySem.callWith_builtin1 (nameX_C N2 rfl (.tail _ (.tail _ (.tail _ (.tail _ (.tail _ (.tail _ (.head _))))))) d1 (len_ws (by omega) ?_))))
  refine mul_list F N2 (N2 _ (.head _)).1 (by omega) (by omega) (by show 1 * _ ≤ _; rw [Int.toNat_natCast]; omega) (fun h2 F N3 => ?_)
  have ei : List.foldl (fun x1 x2 => x1 ++ x2) #[] (List.replicate (if (([Value.int 0 (tk + 1)] : List Value).toArray).isEmpty = true then 0 else ((l.length : Int)).toNat) ([Value.int 0 (tk + 1)] : List Value).toArray) = (List.replicate l.length (Value.int 0 (tk + 1))).toArray := by
    rw [if_neg (show ¬ ((#[Value.int 0 (tk + 1)] : Array Value).isEmpty = true) from Bool.false_ne_true), Int.toNat_natCast]
    rw [show ([Value.int 0 (tk + 1)] : List Value).toArray = #[Value.int 0 (tk + 1)] from rfl, fold_rep]
    simp
  have z0 := (N3 _ (.head _)).1
  rw [ei] at z0
  refine P.add_list (n := 0) (n2 := 0) (N3 _ (.tail _ (.tail _ (.head _)))).1 z0 ?_ ?_
  · have kp : Kp h2 (h2.push { cls := .type "list", data := .seq (([Value.int 1 tk] : List Value).toArray ++ (List.replicate l.length (Value.int 0 (tk + 1))).toArray) }) := fun b o e => Heap.get?_push_of_some _ e
    have b1 := news_cell N3 (.tail _ (.tail _ (.tail _ (.tail _ (.tail _ (.tail _ (.tail _ (.head _)))))))) d1 kp
    have b2 := news_cell N3 (.tail _ (.tail _ (.tail _ (.tail _ (.tail _ (.tail _ (.head _))))))) d2 kp
    have b3 := news_cell N3 (.tail _ (.tail _ (.tail _ (.tail _ (.tail _ (.head _)))))) d3 kp
    have b4 := news_cell N3 (.tail _ (.tail _ (.tail _ (.tail _ (.head _))))) d4 kp
    have b5 := news_cell N3 (.tail _ (.tail _ (.tail _ (.head _)))) d5 kp
    have hD : RowL (h2.push { cls := .type "list", data := .seq (([Value.int 1 tk] : List Value).toArray ++ (List.replicate l.length (Value.int 0 (tk + 1))).toArray) }) h2.objs.size (way0 l) := by
      refine ⟨_, 0, Heap.get?_push_size _ rfl, ?_⟩
      have := (rowV_app (Paired.cons ⟨tk, rfl⟩ Paired.nil : RowV [1] [Value.int 1 tk]) (rowV_rep (tk + 1) l.length)).is
      rw [← List.append_toArray] at this
      exact this
    replace F := Frk F kp
    generalize h2.push { cls := .type "list", data := .seq (([Value.int 1 tk] : List Value).toArray ++ (List.replicate l.length (Value.int 0 (tk + 1))).toArray) } = h3 at *
    obtain ⟨D, hDe⟩ : ∃ D, D = h2.objs.size := ⟨_, rfl⟩
    rw [← hDe] at hD ⊢
    have hD3 := hD.ne_cell b3
    refine stC b3 (fun h4 b3 s4 => ?_)
    have gc : ∀ i, s.heap.get? (L + i) = none := fun i => above_none F (Nat.le_add_right _ _)
    have y : WyI s L l x tl tx D (way0 l) _ h4 := ⟨Frx F (adz L 3 (by decide)) (gc 3) s4.extBut, cell_but b1 (adn L 1 3 (by decide)) s4.extBut, cell_but b2 (adn L 2 3 (by decide)) s4.extBut, b3, ⟨_, cell_but b4 (adn L 4 3 (by decide)) s4.extBut⟩, ⟨_, cell_but b5 (adn L 5 3 (by decide)) s4.extBut⟩, hD.but hD3 s4.extBut⟩
    have hI6 : ∀ o : Obj, L + 5 < (h4.push o).objs.size := fun o => by
      obtain ⟨v, z⟩ := y.c5
      rw [Heap.size_push]; exact Nat.lt_succ_of_lt (cell_lt z)
    have gI6 : ∀ o : Obj, s.heap.get? (h4.push o).objs.size = none := fun o => Fr.noneBack (y.F.push o) (size_none _)
    replace F := y.F
    refine wpAny_execs_cons (For_rangeN hh (Call_Name1 (nameX_B F X T (by k_is) (by boot_fast) (by decide) (PySem.callWith_type1 (Call_Name1 (nameX_B F X T (by k_is) (by boot_fast) (by decide) (PySem.callWith_builtin1 (ldC y.c2 (len_ws (by omega) (call_range_1 ?_))))))))))
    refine ⟨_, x.length, _, _, _, rfl, IsRange.new _ _ _ _ _ _ _, by omega, (fun p s' => ∃ h tk m D, s' = { s with heap := h, toks := tk } ∧ WyI s L l x tl tx D (wayG l x p) m h), ?_, ?_, ?_⟩
    · intro o
      have k2 : ∀ {a b : Obj}, Kp h4 ((h4.push a).push b) := fun b o e => Heap.get?_push_of_some _ (Heap.get?_push_of_some _ e)
      exact ⟨_, _, _, D, rfl, y.keeps k2⟩
    · intro p tv s' h' tk' io E' hp ⟨h, tk5, m, D, e, y⟩ hio kI eI
      subst e
      replace y := y.itr (gI6 _) (hI6 _) hio kI
      obtain ⟨v4, z4⟩ := y.c4
      have hD4 := y.hD.ne_cell z4
      refine stC z4 (fun h5 c4 s5 => ?_)
      replace y := y.set4 c4 s5 (gc 4) hD4
      replace eI := s5.extBut _ _ (Nat.ne_of_lt (Nat.lt_of_le_of_lt (Nat.add_le_add_left (by decide : 4 ≤ 5) L) (hI6 _))).symm eI
      refine wpAny_mono (ways_turn (s₀ := s) (E := E') X T R' hh hl hx hp (wayG_len l x p) y c4 eI (hI6 _)) (fun f s' hf => ?_) fun _ _ e => e
      obtain ⟨rfl, h7, tk7, D7, rfl, y, eI⟩ := hf
      rw [← wayG_succ] at y
      exact ⟨⟨h7, tk7, _, D7, rfl, y⟩, eI⟩
    · intro s' h' tk' ⟨h, tk5, m, D, e, y⟩ hio kI
      subst e
      replace y := y.itr (gI6 _) (hI6 _) hio kI
      have F := y.F
      obtain ⟨items, hlst, hri⟩ := y.hD.isList
      obtain ⟨ti, hti⟩ := hri.2 l.length (by rw [wayG_len]; exact Nat.lt_succ_self _)
      refine wpAny_execs_cons (wpAny_Return_some (Subscript_ (ldC y.c3 (Call_Name1 (nameX_B F X T (by k_is) (by boot_fast) (by decide) (PySem.callWith_builtin1 (ldC y.c1 (len_ws (by omega) (item_L hlst hti (by omega) ?_)))))))))
      exact ⟨⟨ti, rfl⟩, _, _, rfl, y.F.keep⟩
  · show ([Value.int 1 tk] : List Value).toArray.size + ((List.replicate l.length (Value.int 0 (tk + 1))).toArray).size ≤ sizeLine
    have e : ([Value.int 1 tk] : List Value).toArray.size + ((List.replicate l.length (Value.int 0 (tk + 1))).toArray).size = 1 + l.length := by simp
    rw [e]
    exact Nat.le_trans (by omega) (by decide : 1000 ≤ sizeLine)
end
end Mine
end

section
open PySem PySem.W PyProof.Rows PySem.Calls
set_option Elab.async false
set_option maxRecDepth 100000
set_option maxHeartbeats 4000000
namespace Mine
variable {w : World} {mg mb : Str → Option Value} {q : Program} {lo : List Str}
theorem fill21 : (fun (_ : OpenLaw) (_ : Params → Frag) => True) PySem.Challenge.rw_uq0030_01 Kx := by k_fill; trivial
section
variable {A : Around} {E : Value → Shared → Prop} {s : Shared} {R : Result → Shared → Prop}
theorem nest_loop1 {elt t0 i0 t1 i1 : Expr} {ifs : List Expr} {scope : Scope} {pos : Pos} {it acc : Value} {env : Env} (J : Nat → Shared → Prop)
    (turn : ∀ n s E', J n s → wpAny (model pw w) A (pyNext it) (fun r s₁ => match r with
      | none => R (.ok .next) s₁
      | some v => wpAny (model pw w) A (assign t1 env v) (fun _ s₂ =>
          wpAny (model pw w) A (forIn ifs true fun c r => if r = true then do let ok ← isTrue c env (eval c env); pure (ForInStep.yield ok) else pure (ForInStep.yield r)) (fun ok s₃ =>
            if ok = true then wpAny (model pw w) A (eval elt env) (fun x s₄ => wpAny (model pw w) A (call (.builtin "list.append") [acc, x]) (fun _ s₅ => ∃ m, m < n ∧ J m s₅) E' s₄) E' s₃
            else ∃ m, m < n ∧ J m s₃) E' s₂) E' s₁) E' s)
    (n : Nat) (h : J n s) (ht : ∀ v, letOwnedTupleGo t1 it v = pure () := by intro _; rfl) :
    codeAny (model pw w) A (.compLoop (.ListComp elt [⟨t0, i0, [], 0⟩, ⟨t1, i1, ifs, 0⟩] scope pos) 1 it acc env) R s := by
  refine codeAny_loop rfl J (fun n s hI => wpAny_noted ?_) n h
  unfold compTurn
  refine wpAny_bind (wpAny_standAt (wpAny_bind (wpAny_mono (turn n s _ hI) ?_ fun _ _ e => e)))
  rintro (_ | v) s₁ h₁
  · exact wpAny_pure h₁
  refine wpAny_bind (wpAny_of_eq (ht v) (wpAny_bind (wpAny_mono h₁ ?_ fun _ _ e => e)))
  intro _ s₂ h₂
  refine wpAny_bind (wpAny_mono h₂ ?_ fun _ _ e => e)
  rintro (_ | _) s₃ h₃
  · exact wpAny_pure ⟨rfl, h₃⟩
  · refine wpAny_bind (wpAny_bind (wpAny_mono h₃ ?_ fun _ _ e => e))
    intro x s₄ h₄
    exact wpAny_bind (wpAny_mono h₄ (fun _ _ h₅ => wpAny_pure (wpAny_pure ⟨rfl, h₅⟩)) fun _ _ e => e)
theorem nest_start1 {elt t0 i0 t1 i1 : Expr} {ifs : List Expr} {scope : Scope} {pos : Pos} {it acc : Value} {env : Env}
    (h0 : codeAny (model pw w) A (.compLoop (.ListComp elt [⟨t0, i0, [], 0⟩, ⟨t1, i1, ifs, 0⟩] scope pos) 1 it acc env) R s)
    (h : ∀ E', wpAny (model pw w) A (pyIter it) (fun it' s' => codeAny (model pw w) A (.compLoop (.ListComp elt [⟨t0, i0, [], 0⟩, ⟨t1, i1, ifs, 0⟩] scope pos) 1 it' acc env) R s') E' s) :
    codeAny (model pw w) A (.compStart (.ListComp elt [⟨t0, i0, [], 0⟩, ⟨t1, i1, ifs, 0⟩] scope pos) 1 it acc env) R s := by
  refine codeAny_of_tree ?_
  show wpAny _ _ ((compStart (.ListComp elt [⟨t0, i0, [], 0⟩, ⟨t1, i1, ifs, 0⟩] scope pos) 1 it acc env).onRaise (fun x => do noteFrame x env; standAt theWindowsPlace)) _ _ s
  refine wpAny_notedAt ?_
  unfold compStart
  show wpAny _ _ (ask >>= _) _ _ s
  refine wpAny_bind (wpAny_askSetting (wpAny_ite ?_))
  split
  · exact wpAny_pure (And.intro rfl h0)
  · exact wpAny_bind (wpAny_rule (wpAny_bind (wpAny_standAt (wpAny_bind (wpAny_mono (h _) (fun it' s' h' => wpAny_pure (And.intro rfl h')) fun _ _ e => e)))))
theorem nest_loop0 {elt t0 i0 t1 i1 : Expr} {ifs : List Expr} {scope : Scope} {pos : Pos} {it acc : Value} {env : Env} (J : Nat → Shared → Prop)
    (turn : ∀ (n : Nat) (s : Shared) (E' R' : Value → Shared → Prop), J n s → wpAny (model pw w) A (pyNext it) (fun r s₁ => match r with
      | none => R (.ok .next) s₁
      | some v => wpAny (model pw w) A (assign t0 env v) (fun _ s₂ =>
          wpAny (model pw w) A (eval i1 env) (fun x s₃ => wpAny (model pw w) A (pyIter x) (fun it1 s₄ =>
            codeAny (model pw w) A (.compStart (.ListComp elt [⟨t0, i0, [], 0⟩, ⟨t1, i1, ifs, 0⟩] scope pos) 1 it1 acc env) (fun r s₅ => match r with | .ok _ => ∃ m, m < n ∧ J m s₅ | .error e => R' e s₅) s₄) E' s₃) E' s₂) E' s₁) E' s)
    (n : Nat) (h : J n s) (ht : ∀ v, letOwnedTupleGo t0 it v = pure () := by intro _; rfl) (hs : ∀ x, foldedSetIterable i1 env x = pure x := by intro _; rfl) :
    codeAny (model pw w) A (.compLoop (.ListComp elt [⟨t0, i0, [], 0⟩, ⟨t1, i1, ifs, 0⟩] scope pos) 0 it acc env) R s := by
  refine codeAny_loop rfl J (fun n s hI => ?_) n h
  refine wpAny_noted ?_
  unfold compTurn
  refine wpAny_bind (wpAny_standAt (wpAny_bind (wpAny_mono (turn n s _ (cameBackBy (model pw w) A env (notedBy (model pw w) A env fun e s' => R (.error e) s')) hI) (fun r s₁ h₁ => ?_) fun _ _ h' => h')))
  cases r with
  | none => exact wpAny_pure h₁
  | some v =>
    refine wpAny_bind (wpAny_of_eq (ht v) ?_)
    refine wpAny_bind (wpAny_mono h₁ (fun _ s₂ h₂ => ?_) fun _ _ h' => h')
    refine wpAny_bind (wpAny_tests_nil ?_)
    rw [if_pos rfl]
    refine wpAny_bind (wpAny_mono h₂ (fun x s₃ h₃ => wpAny_bind (wpAny_standAt (wpAny_bind (wpAny_of_eq (hs x) (wpAny_bind (wpAny_holding (wpAny_mono h₃ (fun it1 s₄ h₄ => ?_) fun _ _ e => e))))))) fun _ _ e => e)
    refine wpAny_bind (wpAny_runOwn (codeAny_mono h₄ fun r s₅ h₅ => ?_))
    cases r with
    | ok f => exact wpAny_pure ⟨rfl, h₅⟩
    | error e => exact h₅
end
end Mine
end

section
open PySem PySem.W PyProof.Rows PySem.Calls
set_option Elab.async false
set_option maxRecDepth 100000
set_option maxHeartbeats 4000000
namespace Mine
variable {w : World} {mg mb : Str → Option Value} {q : Program} {lo : List Str}
noncomputable def dueW (W : List (List Nat)) (n : Nat) : List (List Nat) := (List.range n).flatMap fun k => W.filter fun x => x.length == k
theorem dueW_succ (W : List (List Nat)) (n : Nat) : dueW W (n + 1) = dueW W n ++ W.filter fun x => x.length == n := by
  unfold dueW; rw [List.range_succ, List.flatMap_append]; simp
theorem WL.snoc {vs : List Value} {l : List (List Nat)} (h : WL vs l) (x : List Nat) (t : Tok) : WL (vs ++ [.str (ws x) t]) (l ++ [x]) := paired_snoc h ⟨t, rfl⟩
theorem pl_ext {h h' : Heap} {D : Addr} {ys : Array Value} (x : PlainL h D ys) (k : ∀ o, h.get? D = some o → h'.get? D = some o) : PlainL h' D ys := by
  obtain ⟨o, n, a, r⟩ := x; exact ⟨o, n, k _ a, r⟩
theorem dueW_len (W : List (List Nat)) : ∀ n, (dueW W n).length ≤ n * W.length
  | 0 => by simp [dueW]
  | n + 1 => by
    rw [dueW_succ, List.length_append, Nat.succ_mul]
    exact Nat.add_le_add (dueW_len W n) (List.length_filter_le _ _)
section
variable {A : Around} {E : Value → Shared → Prop} {s : Shared} {env : Env}
theorem nest_inner {base : Heap} {elt t0 i0 i1 : Expr} {x0 x1 : Str} {p1 pos : Pos} {ifs : List Expr} {scope : Scope} {cl : List (Str × Addr)} {s₁ : Shared} {I I1 D C la : Addr} {oI : Obj} {items : Array Value} {W base0 : List (List Nat)} {k : Nat} {tv : Tok} {R : Result → Shared → Prop} {h0 : Heap} {tk0 : Nat} {m0 : Str → Option Value} {ys0 : Array Value} (hh : A.handled = none)
    (hkind : scope.kind = .function) (hx1 : scope.names.lookup x1 = some .local) (hx : ¬ x0 = x1) (hl : base.IsList la items) (hW : WL items.toList W) (hWl : W.length ≤ 100) (hW1 : ∀ x ∈ W, x.length ≤ 100) (hb0 : base0.length ≤ 800)
    (nI : base.get? I = none) (nD : base.get? D = none) (nC : base.get? C = none) (n1 : base.get? I1 = none) (d1 : I ≠ D) (d2 : I ≠ C) (d3 : D ≠ C) (d4 : I1 ≠ I) (d5 : I1 ≠ D) (d6 : I1 ≠ C)
    (tst : ∀ C s₃ m₃ E' t x u, s₃.heap.Ns C m₃ → Kp base s₃.heap → m₃ x0 = some (.int (k : Nat) t) → m₃ x1 = some (.str (ws x) u) → x.length ≤ 100 → wpAny (model pw w) A (forIn ifs true fun c r => if r = true then do let ok ← isTrue c (compEnvC scope cl C env) (eval c (compEnvC scope cl C env)); pure (ForInStep.yield ok) else pure (ForInStep.yield r)) (fun ok s₄ => ok = (x.length == k) ∧ Keeps s₃ s₄) E' s₃)
    (el : ∀ C s₃ m₃ E' x u, s₃.heap.Ns C m₃ → m₃ x1 = some (.str (ws x) u) → wpAny (model pw w) A (eval elt (compEnvC scope cl C env)) (fun y s₄ => (∃ t, y = .str (ws x) t) ∧ Keeps s₃ s₄) E' s₃)
    (kp : Kp base h0) (eI : h0.get? I = some oI) (hit : h0.IsListIter I1 la 0) (hD : PlainL h0 D ys0) (hn : h0.Ns C m0) (hm : m0 x0 = some (.int (k : Nat) tv)) (hys : WL ys0.toList base0)
    (fin : ∀ h' tk ys m', Kp base h' → h'.get? I = some oI → PlainL h' D ys → h'.Ns C m' → WL ys.toList (base0 ++ W.filter fun x => x.length == k) → R (.ok .next) { s₁ with heap := h', toks := tk }) :
    codeAny (model pw w) A (.compLoop (.ListComp elt [⟨t0, i0, [], 0⟩, ⟨.Name x1 p1, i1, ifs, 0⟩] scope pos) 1 (.ref I1) (.ref D) (compEnvC scope cl C env)) R { s₁ with heap := h0, toks := tk0 } := by
  have hp : ((compEnvC scope cl C env).scope.kind == .class || ((compEnvC scope cl C env).scope.kind == .module && (compEnvC scope cl C env).locals != (compEnvC scope cl C env).globals)) = false := by simp [compEnvC, relabel, hkind]
  have hx1' : (compEnvC scope cl C env).kindOf x1 = some .local := lookup_relabel_local hx1
  have hsz : items.size = W.length := by have := hW.len; simpa using this
  have nb : ∀ {b r : Addr} {o : Obj}, base.get? r = none → base.get? b = some o → b ≠ r := fun hr e => by rintro rfl; rw [hr] at e; cases e
  refine nest_loop1 (fun n s' => ∃ j h tk m ys, j + n = items.size ∧ s' = { s₁ with heap := h, toks := tk } ∧ Kp base h ∧ h.get? I = some oI ∧ h.IsListIter I1 la j ∧ PlainL h D ys ∧ h.Ns C m ∧ m x0 = some (.int (k : Nat) tv) ∧ WL ys.toList (base0 ++ (W.take j).filter fun x => x.length == k)) ?_ items.size ⟨0, h0, tk0, m0, ys0, by omega, rfl, kp, eI, hit, hD, hn, hm, by simpa using hys⟩
  rintro n s' E' ⟨j, h, tk, m, ys, hj, rfl, kp, eI, hit, hD, hn, hm, hys⟩
  have hl' : h.IsList la items := lst_of (kp la) hl
  cases n with
  | zero =>
    have hv : items[j]? = none := by rw [Array.getElem?_eq_none]; omega
    refine wpAny_pyNext_list_end hh hit hl' hv fun h₁ he₁ => ?_
    have hall : W.take j = W := List.take_of_length_le (by omega)
    rw [hall] at hys
    exact fin h₁ tk ys m (fun b o e => he₁ b o (nb n1 e) (kp b o e)) (he₁ _ _ d4.symm eI) (hD.extBut he₁ d5.symm) (hn.extBut he₁ d6.symm) hys
  | succ n =>
    have hlt : j < items.size := by omega
    refine wpAny_pyNext_list_item hit hl' (Array.getElem?_eq_getElem hlt) fun h₁ hit₁ hs₁ => ?_
    obtain ⟨x, tx, hxj, hxv⟩ := hW.get' (k := j) (v := items[j]) (by simp [hlt])
    rw [hxv]
    have kp1 : Kp base h₁ := fun b o e => hs₁.extBut b o (nb n1 e) (kp b o e)
    have hxl := hW1 x (List.mem_of_getElem? hxj)
    refine wpAny_assign_Name (wpAny_storeName_local hx1' (hn.sameBut hs₁ d6.symm) (fun h₂ hn₂ hs₂ => ?_) hp)
    have kp2 : Kp base h₂ := fun b o e => hs₂.extBut b o (nb nC e) (kp1 b o e)
    have hD2 : PlainL h₂ D ys := (hD.extBut hs₁.extBut d5.symm).extBut hs₂.extBut d3
    have eI2 := hs₂.extBut _ _ d2 (hs₁.extBut _ _ d4.symm eI)
    have hit2 : h₂.IsListIter I1 la (j + 1) := by obtain ⟨o, a, r⟩ := hit₁; exact ⟨o, hs₂.extBut _ _ d6 a, r⟩
    refine wpAny_mono (tst C _ _ E' tv x tx hn₂ kp2 (by simp [hx, hm]) (by simp) hxl) (fun ok s₄ h₄ => ?_) fun _ _ e => e
    obtain ⟨rfl, h4, t4, rfl, k4⟩ := h₄
    have htk : W.take (j + 1) = W.take j ++ [x] := by rw [List.take_succ, hxj]; rfl
    have hit4 : h4.IsListIter I1 la (j + 1) := by obtain ⟨o, a, r⟩ := hit2; exact ⟨o, k4 _ _ a, r⟩
    cases hok : x.length == k with
    | false =>
      rw [if_neg (by decide)]
      exact ⟨n, Nat.lt_succ_self _, j + 1, h4, t4, _, ys, by omega, rfl, fun b o e => k4 _ _ (kp2 b o e), k4 _ _ eI2, hit4, hD2.keeps k4, hn₂.keeps k4, by simp [hx, hm], by rw [htk, List.filter_append]; simp [hok]; simpa using hys⟩
    | true =>
      rw [if_pos rfl]
      refine wpAny_mono (el C _ _ E' x tx (hn₂.keeps k4) (by simp)) (fun y s₅ h₅ => ?_) fun _ _ e => e
      obtain ⟨⟨ty, rfl⟩, h5, t5, rfl, k5⟩ := h₅
      have hlen := hys.len
      have hfl : ((W.take j).filter fun x => x.length == k).length ≤ 100 := Nat.le_trans (List.length_filter_le _ _) (by rw [List.length_take]; omega)
      refine pl_append ((hD2.keeps k4).keeps k5) (fun h6 hD6 hs6 => ?_) (by simp at hlen; omega)
      refine ⟨n, Nat.lt_succ_self _, j + 1, h6, t5, _, ys.push _, by omega, rfl, fun b o e => hs6.extBut b o (nb nD e) (k5 _ _ (k4 _ _ (kp2 b o e))), hs6.extBut _ _ d1 (k5 _ _ (k4 _ _ eI2)), ?_, hD6, ((hn₂.keeps k4).keeps k5).sameBut hs6 d3.symm, by simp [hx, hm], ?_⟩
      · obtain ⟨o, a, r⟩ := hit4; exact ⟨o, hs6.extBut _ _ d5 (k5 _ _ a), r⟩
      · rw [htk, List.filter_append, Array.toList_push, ← List.append_assoc]
        have : [x].filter (fun x => x.length == k) = [x] := by simp [hok]
        rw [this]
        exact hys.snoc x ty
theorem comp_nest {elt i0 i1 : Expr} {x0 x1 : Str} {p0 p1 pos : Pos} {ifs : List Expr} {scope : Scope} {cl : List (Str × Addr)} {Q : Value → Shared → Prop} (hh : A.handled = none)
    (hclos : closureFor scope env = pure cl) (hcell : ∀ y ∈ scope.names, y.2 ≠ .cell) (hkind : scope.kind = .function) (hnames : ∀ y ∈ scope.names, y.2 = .local → scope.names.lookup y.1 = some .local)
    (hx0 : scope.names.lookup x0 = some .local) (hx1 : scope.names.lookup x1 = some .local) (hx : ¬ x0 = x1)
    (h : wpAny (model pw w) A (eval i0 env) (fun xv s₁ => ∃ (r la : Addr) (N : Nat) (t1 u1 v1 : Tok) (items : Array Value) (W : List (List Nat)), xv = .ref r ∧ IsRange s₁.heap r 0 (N : Nat) 1 t1 u1 v1 ∧ N ≤ 7 ∧ s₁.heap.IsList la items ∧ WL items.toList W ∧ W.length ≤ 100 ∧ (∀ x ∈ W, x.length ≤ 100) ∧
      (∀ C s₃ m₃ E' (Q' : Value → Shared → Prop), s₃.heap.Ns C m₃ → Kp s₁.heap s₃.heap → Q' (.ref la) s₃ → wpAny (model pw w) A (eval i1 (compEnvC scope cl C env)) Q' E' s₃) ∧
      (∀ (k : Nat) C s₃ m₃ E' t x u, s₃.heap.Ns C m₃ → Kp s₁.heap s₃.heap → m₃ x0 = some (.int (k : Nat) t) → m₃ x1 = some (.str (ws x) u) → x.length ≤ 100 → wpAny (model pw w) A (forIn ifs true fun c r => if r = true then do let ok ← isTrue c (compEnvC scope cl C env) (eval c (compEnvC scope cl C env)); pure (ForInStep.yield ok) else pure (ForInStep.yield r)) (fun ok s₄ => ok = (x.length == k) ∧ Keeps s₃ s₄) E' s₃) ∧
      (∀ C s₃ m₃ E' x u, s₃.heap.Ns C m₃ → m₃ x1 = some (.str (ws x) u) → wpAny (model pw w) A (eval elt (compEnvC scope cl C env)) (fun y s₄ => (∃ t, y = .str (ws x) t) ∧ Keeps s₃ s₄) E' s₃) ∧
      (∀ D h' tk ys, s₁.heap.get? D = none → PlainL h' D ys → WL ys.toList (dueW W N) → Kp s₁.heap h' → Q (.ref D) { s₁ with heap := h', toks := tk })) E s)
    (hs0 : ∀ x, foldedSetIterable i0 env x = pure x := by intro _; rfl) (hs1 : ∀ C x, foldedSetIterable i1 (compEnvC scope cl C env) x = pure x := by intro _ _; rfl) :
    wpAny (model pw w) A (eval (.ListComp elt [⟨.Name x0 p0, i0, [], 0⟩, ⟨.Name x1 p1, i1, ifs, 0⟩] scope pos) env) Q E s := by
  rw [eval_ListComp]
  refine wpAny_comprehension_free (use := none) rfl hs0 hclos hkind hnames (wpAny_mono h (fun xv s₁ h₁ => ?_) fun _ _ e => e)
  obtain ⟨r, la, N, t1, u1, v1, items, W, rfl, hR, hN, hl, hW, hWl, hW1, src, tst, el, fin⟩ := h₁
  refine wpAny_pyIter_range hR (small_one (by omega) (by omega) (by omega) (by omega)) ?_
  refine laid3 hcell hkind rfl fun D C h₁ m₁ Y => ?_
  have Wk := Walks.range (prog := pw) (w := w) hh s₁.heap.objs.size 0 1 N
  obtain ⟨nI, nD, nC, hID, hIC, hDC, old, atI, hacc, hns₁⟩ := Y
  generalize s₁.heap.objs.size = I at *
  have hit : IsRangeIter h₁ I (0 + ((0 : Nat) : Int) * 1) ((N : Int) - ((0 : Nat) : Int)) 1 := by
    refine atI.trans ?_
    rw [rangeSize_one]
    have e0 : (if (0 : Int) < (N : Int) then (N : Int) - 0 else 0) = (N : Int) - ((0 : Nat) : Int) := by split <;> omega
    rw [e0]; rfl
  have hp : ((compEnvC scope cl C env).scope.kind == .class || ((compEnvC scope cl C env).scope.kind == .module && (compEnvC scope cl C env).locals != (compEnvC scope cl C env).globals)) = false := by simp [compEnvC, relabel, hkind]
  have hx0' : (compEnvC scope cl C env).kindOf x0 = some .local := lookup_relabel_local hx0
  have nb : ∀ {b r : Addr} {o : Obj}, s₁.heap.get? r = none → s₁.heap.get? b = some o → b ≠ r := fun hr e => by rintro rfl; rw [hr] at e; cases e
  have loop : ∀ tk0, codeAny (model pw w) A (.compLoop (.ListComp elt [⟨.Name x0 p0, i0, [], 0⟩, ⟨.Name x1 p1, i1, ifs, 0⟩] scope pos) 0 (.ref I) (.ref D) (compEnvC scope cl C env)) (compPost (model pw w) A E none Q (.ref D) C) { s₁ with heap := h₁, toks := tk0 } := by
    intro tk0
    refine nest_loop0 (fun n s' => ∃ k h tk m ys, k + n = N ∧ s' = { s₁ with heap := h, toks := tk } ∧ Kp s₁.heap h ∧ IsRangeIter h I (0 + (k : Nat) * 1) ((N : Int) - (k : Nat)) 1 ∧ PlainL h D ys ∧ h.Ns C m ∧ WL ys.toList (dueW W k)) ?_ N ⟨0, h₁, tk0, _, #[], by omega, rfl, old, hit, hacc, hns₁, .nil⟩ (hs := hs1 C)
    rintro n s' E' R' ⟨k, h, tk, m, ys, hk, rfl, kp, hit, hD, hn, hys⟩
    cases n with
    | zero =>
      have ek : k = N := by omega
      subst ek
      refine Wk.done _ _ _ hit fun h' tk' hf => ?_
      have k2 : ∀ b o, b ≠ I → h.get? b = some o → h'.get? b = some o := fun b o hb => hf b o (by simpa using hb)
      refine ⟨m, hn.at' (fun o e => k2 _ _ hIC.symm e), fun h'' hs'' => fin D h'' tk' ys nD (pl_ext (pl_ext hD fun o => k2 _ _ hID.symm) fun o => hs''.extBut _ _ hDC) hys fun b o e => hs''.extBut b o (nb nC e) (k2 b o (nb nI e) (kp b o e))⟩
    | succ n =>
      refine Wk.item k _ _ _ (by omega) hit fun v h' tk' hp' hit' hf => ?_
      obtain ⟨tv, rfl⟩ := hp'
      have e1 : (0 + (k : Nat) * 1 : Int) = (k : Nat) := by omega
      have k2 : ∀ b o, b ≠ I → h.get? b = some o → h'.get? b = some o := fun b o hb => hf b o (by simpa using hb)
      have kp1 : Kp s₁.heap h' := fun b o e => k2 b o (nb nI e) (kp b o e)
      refine wpAny_assign_Name (wpAny_storeName_local hx0' (hn.at' (fun o e => k2 _ _ hIC.symm e)) (fun h₂ hn₂ hs₂ => ?_) hp)
      have kp2 : Kp s₁.heap h₂ := fun b o e => hs₂.extBut b o (nb nC e) (kp1 b o e)
      have hD2 : PlainL h₂ D ys := (pl_ext hD fun o => k2 _ _ hID.symm).extBut hs₂.extBut hDC
      have eI := hs₂.extBut _ _ hIC hit'
      have hl2 : h₂.IsList la items := lst_of (kp2 la) hl
      refine src C _ _ E' _ hn₂ kp2 ?_
      refine wpAny_pyIter_list hl2 ?_
      have lt2 : ∀ {b o}, h₂.get? b = some o → h₂.objs.size ≠ b := fun e => (Nat.ne_of_lt (Heap.lt_size e)).symm
      have n1 : s₁.heap.get? h₂.objs.size = none := by
        cases e : s₁.heap.get? h₂.objs.size with
        | none => rfl
        | some o => exact absurd rfl (lt2 (kp2 _ _ e))
      have ko : ∀ o : Obj, Kp h₂ (h₂.push o) := fun _ b o e => Heap.get?_push_of_some _ e
      have dD : h₂.objs.size ≠ D := by obtain ⟨o, n, a, _⟩ := hD2; exact lt2 a
      have dC : h₂.objs.size ≠ C := by obtain ⟨o, es, ep, a, _⟩ := hn₂; exact lt2 a
      have hlp : ∀ tk3, codeAny (model pw w) A (.compLoop (.ListComp elt [⟨.Name x0 p0, i0, [], 0⟩, ⟨.Name x1 p1, i1, ifs, 0⟩] scope pos) 1 (.ref h₂.objs.size) (.ref D) (compEnvC scope cl C env))
          (fun r s₅ => match r with | .ok _ => ∃ m, m < n + 1 ∧ (∃ k h tk m' ys, k + m = N ∧ s₅ = { s₁ with heap := h, toks := tk } ∧ Kp s₁.heap h ∧ IsRangeIter h I (0 + (k : Nat) * 1) ((N : Int) - (k : Nat)) 1 ∧ PlainL h D ys ∧ h.Ns C m' ∧ WL ys.toList (dueW W k)) | .error e => R' e s₅) { s₁ with heap := h₂.push { cls := .type "list_iterator", data := .fields #[.ref la, .int 0 0] }, toks := tk3 } := by
        intro tk3
        refine nest_inner (base := s₁.heap) (x0 := x0) (k := k) (tv := tv) (oI := _) hh hkind hx1 hx hl hW hWl hW1 (base0 := dueW W k) ?_ nI nD nC n1 hID hIC hDC (lt2 eI) dD dC (tst k) el (fun b o e => ko _ _ _ (kp2 b o e)) (ko _ _ _ eI) ⟨_, Heap.get?_push_size _ rfl, rfl, rfl⟩ (hD2.keeps (ko _)) (hn₂.keeps (ko _)) (by simp) hys ?_
        · have h1 := dueW_len W k
          have h2 : k * W.length ≤ 7 * 100 := Nat.mul_le_mul (by omega) hWl
          omega
        · intro h4 tk4 ys4 m4 kp4 eI4 hD4 hn4 hys4
          rw [← dueW_succ] at hys4
          exact ⟨n, Nat.lt_succ_self _, k + 1, h4, tk4, m4, ys4, by omega, rfl, kp4, eI4, hD4, hn4, hys4⟩
      exact nest_start1 (hlp _) fun E'' => wpAny_pyIter_listiter ⟨_, Heap.get?_push_size _ rfl, rfl, rfl⟩ (hlp _)
  exact codeAny_compStart_list (loop _) (Wk.self 0 _ _ _ hit (loop _))
end
end Mine
end

section
open PySem PySem.W PyProof.Rows PySem.Calls
set_option Elab.async false
set_option maxRecDepth 100000
set_option maxHeartbeats 4000000
namespace Mine
variable {w : World} {mg mb : Str → Option Value} {q : Program} {lo : List Str}
theorem fill22 : (fun (_ : OpenLaw) (_ : Params → Frag) => True) PySem.Challenge.rw_uq0030_01 Kx := by k_fill; trivial
noncomputable def wordStep (x : List Nat) (W : List (List Nat)) (k : Nat) : List (List Nat) := if (W.any fun z => z == chF x k) = true then W else W ++ [chF x k]
noncomputable def wordsF (x : List Nat) (n : Nat) : List (List Nat) := (List.range n).foldl (wordStep x) []
theorem wordsF_succ (x : List Nat) (n : Nat) : wordsF x (n + 1) = wordStep x (wordsF x n) n := by unfold wordsF; rw [List.range_succ, List.foldl_append]; rfl
theorem words_ok {x : List Nat} (hx : SafeL x) : ∀ n, (wordsF x n).length ≤ n ∧ ∀ z ∈ wordsF x n, SafeL z
  | 0 => ⟨Nat.le_refl _, fun z hz => by cases hz⟩
  | n + 1 => by
    obtain ⟨a, b⟩ := words_ok hx n
    rw [wordsF_succ]
    unfold wordStep
    split
    · exact ⟨Nat.le_succ_of_le a, b⟩
    · refine ⟨by simp; omega, fun z hz => ?_⟩
      rcases List.mem_append.mp hz with hz | hz
      · exact b z hz
      · have : z = chF x n := by simpa using hz
        rw [this]; exact chF_safe hx n
noncomputable def leftStep (left : List Nat) (c : Nat) : List Nat := if left.take 1 = [c] then left.drop 1 else left
noncomputable def leftF (low wd : List Nat) : List Nat := wd.foldl leftStep low
theorem left_len : ∀ (wd low : List Nat), low.length ≤ (leftF low wd).length + wd.length
  | [], low => Nat.le_refl _
  | c :: wd, low => by
    have := left_len wd (leftStep low c)
    have h2 : low.length ≤ (leftStep low c).length + 1 := by
      unfold leftStep; split
      · rw [List.length_drop]; omega
      · omega
    show low.length ≤ (leftF (leftStep low c) wd).length + (wd.length + 1)
    omega
theorem leftF_le : ∀ (wd low : List Nat), (leftF low wd).length ≤ low.length
  | [], low => Nat.le_refl _
  | c :: wd, low => by
    refine Nat.le_trans (leftF_le wd (leftStep low c)) ?_
    unfold leftStep; split
    · rw [List.length_drop]; omega
    · exact Nat.le_refl _
noncomputable def valF (low wd : List Nat) : Int := (-1) ^ (wd.length - low.length) * wayF low wd
noncomputable def dueStep (low : List Nat) (acc : List (List Nat × Int)) (wd : List Nat) : List (List Nat × Int) := if leftF low wd = [] then acc ++ [(wd, valF low wd)] else acc
noncomputable def dueF (x low : List Nat) : List (List Nat × Int) := (dueW (wordsF x (2 ^ x.length)) (x.length + 1)).foldl (dueStep low) []
theorem dueW_mem {W : List (List Nat)} {n : Nat} {z : List Nat} (h : z ∈ dueW W n) : z ∈ W := by
  unfold dueW at h
  obtain ⟨k, _, hz⟩ := List.mem_flatMap.mp h
  exact (List.mem_filter.mp hz).1
noncomputable def eqStr (x : List Nat) (v : Value) : Bool := match v with | .str a _ => a.cps.toList == (ws x).cps.toList | _ => false
theorem any_eq {vs : List Value} {W : List (List Nat)} (h : WL vs W) (x : List Nat) : vs.any (eqStr x) = W.any fun z => z == x := by
  induction h with
  | nil => rfl
  | cons a _ ih =>
    obtain ⟨t, rfl⟩ := a
    rw [List.any_cons, List.any_cons, ih]
    have e : ∀ z : List Nat, eqStr x (.str (ws z) t) = (z == x) := fun z => by simp [eqStr, ws]
    rw [e]
section
variable {A : Around} {E : Value → Shared → Prop} {s : Shared} {env : Env}
theorem notIn_ws {l : Addr} {items : Array Value} {W : List (List Nat)} {x : List Nat} {t : Tok} {Q : Value → Shared → Prop} (hl : s.heap.IsList l items) (hW : WL items.toList W) (h : Q (.bool (!(W.any fun z => z == x))) s) : wpAny (model pw w) A (compareOp .NotIn (.str (ws x) t) (.ref l)) Q E s := by
  refine SeqInW.notIn_listW (eqStr x) (fun y hy => ?_) hl ?_
  · have : y ∈ items.toList := by simpa using hy
    obtain ⟨k, hk⟩ := List.getElem?_of_mem this
    obtain ⟨z, tz, _, rfl⟩ := hW.get' hk
    exact SeqRoads2.EqGives.str _ _ _ _
  · rw [← Array.any_toList, any_eq hW]; exact h
theorem stL {name : Str} {scope : Scope} {L a : Addr} {cd : Value} {h₀ : Heap} {m : Str → Option Value} {x : Str} {v : Value} {Q : Unit → Shared → Prop} (F : Fr h₀ L s.heap m)
    (h : ∀ h', Fr h₀ L h' (fun y => if y = x then some v else m y) → Heap.SameBut L s.heap h' → Q () { s with heap := h', toks := s.toks + 1 })
    (hk : scope.kind = .function := by rfl) (hl : (envOfC name scope L a cd).kindOf x = some .local := by with_unfolding_all rfl) :
    wpAny (model pw w) A (storeName (envOfC name scope L a cd) x v) Q E s :=
  wpAny_storeName_local hl F.ns (fun h' hn hs => h h' (F.set hn hs) hs) (by simp [envOfC, hk])
/-- a loop over a word's letters -/
theorem For_str (hh : A.handled = none) {x : Str} {px pos : Pos} {iter : Expr} {body : List Stmt} {Q : Flow → Shared → Prop}
    (h : wpAny (model pw w) A (eval iter env) (fun xv s₁ => ∃ (text : List Nat) (t : Tok), xv = .str (ws text) t ∧ ∃ Inv : Nat → Shared → Prop,
      (∀ o, Inv 0 { s₁ with heap := s₁.heap.push o }) ∧
      (∀ k c tc s₀ h' tk E', text[k]? = some c → Inv k s₀ → (∀ b o, b ≠ s₁.heap.objs.size → s₀.heap.get? b = some o → h'.get? b = some o) →
        wpAny (model pw w) A (storeName env x (.str (ws [c]) tc)) (fun _ s₃ => wpAny (model pw w) A (execs body env) (fun f s₄ => match f with
          | .next | .cont => Inv (k + 1) s₄ ∧ ∀ o, h'.get? s₁.heap.objs.size = some o → s₄.heap.get? s₁.heap.objs.size = some o
          | .brk => Q .next s₄
          | .ret v => Q (.ret v) s₄) E' s₃) E' { s₀ with heap := h', toks := tk }) ∧
      (∀ s₀ h' tk, Inv text.length s₀ → (∀ b o, b ≠ s₁.heap.objs.size → s₀.heap.get? b = some o → h'.get? b = some o) → Q .next { s₀ with heap := h', toks := tk })) E s)
    (hs : ∀ x, foldedSetIterable iter env x = pure x := by intro _; rfl) : wpAny (model pw w) A (exec (.For (.Name x px) iter body [] pos) env) Q E s := by
  refine wpAny_For (wpAny_mono h (fun xv s₁ h₁ => ?_) fun _ _ e => e) hs
  obtain ⟨text, t, rfl, Inv, h0, turn, fin⟩ := h₁
  refine wpAny_pyIter_str fun o St Wk hst0 => ?_
  have W := Wk A hh
  have sz : (ws text).cps.size = text.length := by simp [ws]
  refine codeAny_forLoop_any (fun m s => ∃ k, k + m = text.length ∧ Inv k s ∧ St k s.heap) (fun m s hI => ?_) text.length ⟨0, by omega, h0 _, hst0⟩
  obtain ⟨k, e, hi, hst⟩ := hI
  cases m with
  | zero =>
    have : k = text.length := by omega
    subst this
    rw [← sz] at hst
    refine W.done _ _ _ hst fun h' tk hf => ?_
    exact wpAny_execs_nil (fin s h' tk hi (fun b o hb => hf b o (by simpa using hb)))
  | succ m =>
    refine W.item k _ _ _ (by omega) hst fun v h' tk hp hst' hf => ?_
    obtain ⟨c, u, hc, rfl⟩ := hp
    have hc' : text[k]? = some c := by
      have : (text.toArray)[k]? = some c := hc
      rwa [List.getElem?_toArray] at this
    refine wpAny_pure (assign_Name ?_)
    refine wpAny_mono (turn k c u s h' tk _ hc' hi (fun b o hb => hf b o (by simpa using hb))) (fun _ s₃ h₃ => wpAny_mono h₃ (fun f s₄ h₄ => ?_) fun _ _ e => e) fun _ _ e => e
    have fr : (∀ o, h'.get? s₁.heap.objs.size = some o → s₄.heap.get? s₁.heap.objs.size = some o) → St (k + 1) s₄.heap := fun hz => W.frame _ _ _ hst' fun b hb o e => by
      have : b = s₁.heap.objs.size := by simpa using hb
      subst this; exact hz _ e
    cases f with
    | next => exact ⟨m, by omega, k + 1, by omega, h₄.1, fr h₄.2⟩
    | cont => exact ⟨m, by omega, k + 1, by omega, h₄.1, fr h₄.2⟩
    | brk => exact h₄
    | ret v => exact h₄
noncomputable def dueB : List Stmt := match ((fB 31)[3]? : Option Stmt) with | some (Stmt.For _ _ b _ _) => b | _ => []
noncomputable def dueLB : List Stmt := match (dueB[1]? : Option Stmt) with | some (Stmt.For _ _ b _ _) => b | _ => []
/-- one word's letters are struck from low -/
theorem left_turn {n : Nat} {s₀ : Shared} {hS : Heap} {tk0 : Nat} {L : Addr} {m0 : Str → Option Value} {y wd : List Nat} {ty tw tl : Tok} {r : Addr} {Q : Flow → Shared → Prop} {px px2 pos : Pos} {body : List Stmt} (hb : body = dueLB) (X : (Kx w.params).In s₀.heap) (T : TopRead q lo mg mb s₀.heap) (R : Rm n A) (hh : A.handled = none) (hy : y.length ≤ 4) (F0 : Fr s₀.heap L hS m0)
    (vl : m0 (S "low") = some (.str (ws y) ty)) (vd : m0 (S "due") = some (.ref r)) (vw : m0 (S "word") = some (.str (ws wd) tw)) (vf : m0 (S "left") = some (.str (ws y) tl))
    (fin : ∀ h tk m t, Fr s₀.heap L h m → (∀ b o, b ≠ L → hS.get? b = some o → h.get? b = some o) → m (S "left") = some (.str (ws (leftF y wd)) t) → m (S "low") = some (.str (ws y) ty) → m (S "due") = some (.ref r) → m (S "word") = some (.str (ws wd) tw) → Q .next { s₀ with heap := h, toks := tk }) :
    wpAny (model pw w) A (exec (.For (.Name (Str.ofString "letter") px) (.Name (Str.ofString "word") px2) body [] pos) (envOfC (S "_law_due") (fS 31) L 341 (.ref 340))) Q E { s₀ with heap := hS, toks := tk0 } := by
  subst hb
  have hLI : L ≠ hS.objs.size := Fr.neL F0 (size_none _)
  have gI : s₀.heap.get? hS.objs.size = none := Fr.noneBack F0 (size_none _)
  have lI : ∀ b o, hS.get? b = some o → b ≠ hS.objs.size := fun b o e => Nat.ne_of_lt (Heap.lt_size e)
  refine For_str hh (nameX_L F0 vw ?_)
  refine ⟨wd, tw, rfl, (fun j s' => ∃ h tk m t, s' = { s₀ with heap := h, toks := tk } ∧ Fr s₀.heap L h m ∧ (∀ b o, b ≠ L → hS.get? b = some o → h.get? b = some o) ∧ m (S "left") = some (.str (ws ((wd.take j).foldl leftStep y)) t) ∧ m (S "low") = some (.str (ws y) ty) ∧ m (S "due") = some (.ref r) ∧ m (S "word") = some (.str (ws wd) tw)), ?_, ?_, ?_⟩
  · intro o
    have ko : Kp hS (hS.push o) := fun b o e => Heap.get?_push_of_some _ e
    exact ⟨_, _, _, tl, rfl, Frk F0 ko, fun b o _ e => ko _ _ e, vf, vl, vd, vw⟩
  · intro j c tc s' h' tk' E' hj ⟨h, tk5, m, t, e, F', K', vf, vl, vd, vw⟩ kI
    subst e
    have F := Frx F' hLI gI kI
    have K : ∀ b o, b ≠ L → hS.get? b = some o → h'.get? b = some o := fun b o hb e => kI _ _ (lI b o e) (K' b o hb e)
    have hlen : ((wd.take j).foldl leftStep y).length ≤ 4 := Nat.le_trans (leftF_le (wd.take j) y) hy
    have hstp : (wd.take (j + 1)).foldl leftStep y = leftStep ((wd.take j).foldl leftStep y) c := by rw [List.take_succ, hj, List.foldl_append]; rfl
    generalize (wd.take j).foldl leftStep y = lf at vf hlen hstp
    refine stL F (fun h4 F s4 => ?_)
    replace K : ∀ b o, b ≠ L → hS.get? b = some o → h4.get? b = some o := fun b o hb e => s4.extBut _ _ hb (K b o hb e)
    have eI : ∀ o, h'.get? hS.objs.size = some o → h4.get? hS.objs.size = some o := fun o e => s4.extBut _ _ hLI.symm e
    (with_unfolding_all show wpAny _ _ (execs (_ :: _) _) _ _ _)
    refine wpAny_execs_cons (wpAny_If (wpAny_isTrue_Compare1 (sliceT (nameX_L F vf (wpAny_Constant_int ⟨lf, t, 1, _, rfl, rfl, by omega, fun h5 t5 k5 kp => ?_⟩)))))
    replace F := Frk F kp
    replace K : ∀ b o, b ≠ L → hS.get? b = some o → h5.get? b = some o := fun b o hb e => kp _ _ (K b o hb e)
    replace eI : ∀ o, h'.get? hS.objs.size = some o → h5.get? hS.objs.size = some o := fun o e => kp _ _ (eI o e)
    refine nameX_L F rfl (eq_ws (wpAny_truthy_bool ?_))
    have hls : leftStep lf c = if lf.take 1 = [c] then lf.drop 1 else lf := rfl
    rw [hls] at hstp
    by_cases ee : lf.take 1 = [c]
    · rw [if_pos (by rw [ee]; exact beq_self_eq_true _)]
      rw [if_pos ee] at hstp
      refine wpAny_execs_cons (wpAny_Assign_Name (sliceF (nameX_L F vf (wpAny_Constant_int ⟨lf, t, 1, _, rfl, rfl, by omega, fun h6 t6 k6 kp => ?_⟩))))
      replace F := Frk F kp
      replace K : ∀ b o, b ≠ L → hS.get? b = some o → h6.get? b = some o := fun b o hb e => kp _ _ (K b o hb e)
      replace eI : ∀ o, h'.get? hS.objs.size = some o → h6.get? hS.objs.size = some o := fun o e => kp _ _ (eI o e)
      refine stL F (fun h7 F s7 => ?_)
      refine wpAny_execs_nil (wpAny_execs_nil ?_)
      exact ⟨⟨h7, _, _, _, rfl, F, fun b o hb e => s7.extBut _ _ hb (K b o hb e), by rw [hstp]; rfl, vl, vd, vw⟩, fun o e => s7.extBut _ _ hLI.symm (eI o e)⟩
    · rw [if_neg (by intro hc; exact ee (eq_of_beq hc))]
      rw [if_neg ee] at hstp
      refine wpAny_execs_nil (wpAny_execs_nil ?_)
      exact ⟨⟨h5, _, _, t, rfl, F, K, by rw [hstp]; exact vf, vl, vd, vw⟩, eI⟩
  · intro s' h' tk' ⟨h, tk5, m, t, e, F', K', vf, vl, vd, vw⟩ kI
    subst e
    have F := Frx F' hLI gI kI
    rw [List.take_of_length_le (Nat.le_refl _)] at vf
    exact fin h' tk' m t F (fun b o hb e => kI _ _ (lI b o e) (K' b o hb e)) vf vl vd vw
end
end Mine
end

section
open PySem PySem.W PyProof.Rows PySem.Calls
set_option Elab.async false
set_option maxRecDepth 100000
set_option maxHeartbeats 4000000
namespace Mine
variable {w : World} {mg mb : Str → Option Value} {q : Program} {lo : List Str}
theorem fill23 : (fun (_ : OpenLaw) (_ : Params → Frag) => True) PySem.Challenge.rw_uq0030_01 Kx := by k_fill; trivial
section
variable {A : Around} {E : Value → Shared → Prop} {s : Shared} {env : Env}
theorem due_turn {n : Nat} {s₀ : Shared} {h : Heap} {tk : Nat} {L D r2 I : Addr} {oI oa : Obj} {y wd : List Nat} {ty tw : Tok} {ents : List (List Nat × Int)} {m : Str → Option Value} (X : (Kx w.params).In s₀.heap) (T : TopRead q lo mg mb s₀.heap) (R : Rm (n + 2) A) (hh : A.handled = none) (hy : SafeL y) (hwd : SafeL wd) (F : Fr s₀.heap L h m)
    (HL : HdL h D (entsD ents)) (gD : s₀.heap.get? D = none) (hLD : L ≠ D) (hln : ents.length ≤ 300) (eI : h.get? I = some oI) (ea : h.get? r2 = some oa) (hIL : I ≠ L) (hID : I ≠ D) (hrL : r2 ≠ L) (hrD : r2 ≠ D)
    (vl : m (S "low") = some (.str (ws y) ty)) (vd : m (S "due") = some (.ref D)) (vw : m (S "word") = some (.str (ws wd) tw)) (hsm : leftF y wd = [] → (valF y wd).natAbs ≤ 9) :
    wpAny (model pw w) A (execs dueB (envOfC (S "_law_due") (fS 31) L 341 (.ref 340))) (fun f s' => f = .next ∧ ∃ h' tk' m', s' = { s₀ with heap := h', toks := tk' } ∧ Fr s₀.heap L h' m' ∧ HdL h' D (entsD (dueStep y ents wd)) ∧ h'.get? I = some oI ∧ h'.get? r2 = some oa ∧ m' (S "low") = some (.str (ws y) ty) ∧ m' (S "due") = some (.ref D)) E { s₀ with heap := h, toks := tk } := by
  (with_unfolding_all show wpAny _ _ (execs (_ :: _) _) _ _ _)
  have nt0 := ns_not_tuple F.ns
  refine wpAny_execs_cons (wpAny_Assign_Name (nameX_L F vl (stL F (fun h1 F s1 => ?_))))
  replace HL := HL.but hLD.symm nt0 s1.extBut
  replace eI := s1.extBut _ _ hIL eI
  replace ea := s1.extBut _ _ hrL ea
  refine wpAny_execs_cons ?_
  refine left_turn (s₀ := s₀) (hS := h1) (by with_unfolding_all rfl) X T R hh hy.1 F vl vd vw rfl fun h2 tk2 m2 t2 F2 K2 vf vl vd vw => ?_
  have nt := ns_not_tuple F.ns
  replace HL := HL.but hLD.symm nt K2
  replace eI := K2 _ _ hIL eI
  replace ea := K2 _ _ hrL ea
  replace F := F2
  refine wpAny_execs_cons (wpAny_If (wpAny_isTrue_Compare1 (nameX_L F vf (wpAny_Constant_str (eq_ws (y := []) (wpAny_truthy_bool ?_))))))
  have hds : dueStep y ents wd = if leftF y wd = [] then ents ++ [(wd, valF y wd)] else ents := rfl
  rw [hds]
  by_cases el : leftF y wd = []
  · rw [if_pos el, if_pos (by rw [el]; rfl)]
    have hv9 := hsm el
    have hle : y.length ≤ wd.length := by have := left_len wd y; rw [el] at this; simpa using this
    obtain ⟨items, hP, hE⟩ := HL
    have hw1 := hwd.1
    have hy1 := hy.1
    refine wpAny_execs_cons (wpAny_Expr_any (wpAny_Call_append (by rfl) (by rfl) (by rfl) (by rfl) (nameX_L F vd (⟨D, items, rfl, hP, ?_⟩))))
    refine wpAny_Tuple (wpAny_items_cons (nameX_L F vw (wpAny_items_cons (Call_Name1 (nameX_B F X T (by k_is) (by boot_fast) (by decide) (PySem.callWith_type1 (wpAny_BinOp (wpAny_BinOp (wpAny_UnaryOp (wpAny_Constant_int (P.neg_int (wpAny_BinOp (Call_Name1 (nameX_B F X T (by k_is) (by boot_fast) (by decide) (PySem.callWith_builtin1 (nameX_L F vw (len_ws (by omega) (Call_Name1 (nameX_B F X T (by k_is) (by boot_fast) (by decide) (PySem.callWith_builtin1 (nameX_L F vl (len_ws (by omega) (P.sub_int (pow_int_small (by omega) (by omega) (by decide) ?_))))))))))))))))))))))))
    have et : ((wd.length : Int) - (y.length : Int)).toNat = wd.length - y.length := by omega
    rw [et]
    refine Call_ (nameX_K F X T (by k_is) (PyProof.Rows.callWith_def rfl (wpAny_items_cons (nameX_L F vl (wpAny_items_cons (nameX_L F vw (wpAny_items_nil (⟨F.keep _ _ (X _ _ rfl), ?_⟩))))))))
    refine wpAny_mono (law_ways (E := E) (Gd.keeps ⟨X, T⟩ F.keep) R hh hy.1 hwd.1) (fun v' s' hv => ?_) fun _ _ e => e
    obtain ⟨⟨t3, rfl⟩, h3, tk3, rfl, kp⟩ := hv
    replace F := Frk F kp
    replace hP := hP.keeps kp
    replace hE := hE.mono fun _ _ y => y.keeps kp
    replace eI := kp _ _ eI
    replace ea := kp _ _ ea
    have hmul : IntMulOk ((-1) ^ (wd.length - y.length)) (wayF y wd) := by
      refine IntMulOk.of_left ?_
      have : wd.length - y.length = 0 ∨ wd.length - y.length = 1 ∨ wd.length - y.length = 2 ∨ wd.length - y.length = 3 ∨ wd.length - y.length = 4 := by omega
      rcases this with e | e | e | e | e <;> rw [e] <;> decide
    refine P.mul_int (hm := hmul) ?_
    show wpAny _ _ (call (.type "str") [.int (valF y wd) _]) _ _ _
    refine P.str_of_int (by
      have : ∀ n ∈ smallI, n.natAbs.log2 < 1920 := by decide +kernel
      exact this _ (small_mem hv9)) ?_
    rw [dec_str hv9]
    refine wpAny_items_nil (⟨(by decide : 2 ≤ sizeLine), ?_⟩)
    have ko : ∀ o : Obj, Kp h3 (h3.push o) := fun _ b o e => Heap.get?_push_of_some _ e
    refine pl_append (hP.keeps (ko _)) (fun h5 hl5 sb => ?_) (by have := paired_len hE; unfold entsD at this; simp at this; omega)
    replace F := Frx (F.push _) hLD gD sb.extBut
    have HL2 : HdL h5 D (entsD (ents ++ [(wd, valF y wd)])) := by
      rw [entsD_snoc]
      exact HdL.snoc (hP.keeps (ko _)) (hE.mono fun _ _ y => y.keeps (ko _)) ⟨_, Heap.get?_push_size _ rfl, rfl, _, rfl⟩ hl5 sb
    refine wpAny_execs_nil (wpAny_execs_nil ?_)
    exact ⟨rfl, h5, _, _, rfl, F, HL2, sb.extBut _ _ hID (ko _ _ _ eI), sb.extBut _ _ hrD (ko _ _ _ ea), vl, vd⟩
  · rw [if_neg el, if_neg (by intro hc; exact el (by simpa using eq_of_beq hc))]
    refine wpAny_execs_nil (wpAny_execs_nil ?_)
    exact ⟨rfl, h2, _, m2, rfl, F, HL, eI, ea, vl, vd⟩
end
end Mine
end

section
open PySem PySem.W PyProof.Rows PySem.Calls
set_option Elab.async false
set_option maxRecDepth 100000
set_option maxHeartbeats 4000000
namespace Mine
variable {w : World} {mg mb : Str → Option Value} {q : Program} {lo : List Str}
theorem fill24 : (fun (_ : OpenLaw) (_ : Params → Frag) => True) PySem.Challenge.rw_uq0030_01 Kx := by k_fill; trivial
section
variable {A : Around} {E : Value → Shared → Prop} {s : Shared} {env : Env}
theorem due_mem_len (y : List Nat) : ∀ (l : List (List Nat)) (acc : List (List Nat × Int)), (l.foldl (dueStep y) acc).length ≤ acc.length + l.length
  | [], acc => Nat.le_refl _
  | z :: l, acc => by
    refine Nat.le_trans (due_mem_len y l (dueStep y acc z)) ?_
    unfold dueStep
    split <;> simp <;> omega
theorem due_tail {n : Nat} {s₀ : Shared} {h : Heap} {tk : Nat} {L la : Addr} {x y : List Nat} {tx ty : Tok} {items : Array Value} {m : Str → Option Value} (X : (Kx w.params).In s₀.heap) (T : TopRead q lo mg mb s₀.heap) (R : Rm (n + 2) A) (hh : A.handled = none) (hx : SafeL x) (hy : SafeL y) (F : Fr s₀.heap L h m) (c1 : h.IsCell (L + 1) (some (.ref la)))
    (hP : PlainL h la items) (hW : WL items.toList (wordsF x (2 ^ x.length))) (vp : m (S "plain") = some (.str (ws x) tx)) (vl : m (S "low") = some (.str (ws y) ty)) (hsm : ∀ wd ∈ dueW (wordsF x (2 ^ x.length)) (x.length + 1), leftF y wd = [] → (valF y wd).natAbs ≤ 9) :
    wpAny (model pw w) A (execs ((fB 31).drop 2) (envOfC (S "_law_due") (fS 31) L 341 (.ref 340))) (fun fl s' => (∃ D, retV fl = .ref D ∧ HdL s'.heap D (entsD (dueF x y))) ∧ Keeps s₀ s') E { s₀ with heap := h, toks := tk } := by
  have hx1 := hx.1
  have hn16 : 2 ^ x.length ≤ 16 := Nat.pow_le_pow_right (n := 2) (by decide) hx.1
  obtain ⟨w1, w2⟩ := words_ok hx (2 ^ x.length)
  (with_unfolding_all show wpAny _ _ (execs (_ :: _) _) _ _ _)
  refine wpAny_execs_cons (wpAny_Assign_Name (List_ (wpAny_items_nil (wpAny_newList ?_))))
  have kD : Kp h (h.push { cls := .type "list", data := .seq ([] : List Value).toArray }) := fun b o e => Heap.get?_push_of_some _ e
  have hD : PlainL (h.push { cls := .type "list", data := .seq ([] : List Value).toArray }) h.objs.size #[] := ⟨_, _, Heap.get?_push_size _ rfl, rfl, rfl, rfl⟩
  have gD : s₀.heap.get? h.objs.size = none := Fr.noneBack F (size_none _)
  have hLD : L ≠ h.objs.size := Fr.neL F (size_none _)
  have hlaD : la ≠ h.objs.size := Nat.ne_of_lt hP.lt
  have h1D : L + 1 ≠ h.objs.size := Nat.ne_of_lt (cell_lt c1)
  generalize hDe : h.objs.size = D at *
  generalize h.push { cls := .type "list", data := .seq ([] : List Value).toArray } = h1 at *
  replace F := Frk F kD
  replace hP := hP.keeps kD
  replace c1 : h1.IsCell (L + 1) (some (.ref la)) := by obtain ⟨o, a, b⟩ := c1; exact ⟨o, kD _ _ a, b⟩
  have hlaL : la ≠ L := by
    rintro rfl
    obtain ⟨o, n, ho, _, _, hd⟩ := hP
    obtain ⟨o', es, ep, ho', hd', _⟩ := F.ns
    rw [ho] at ho'; cases ho'; rw [hd] at hd'; cases hd'
  refine stL F (fun h2 F s2 => ?_)
  replace hP := hP.extBut s2.extBut hlaL
  replace hD := hD.extBut s2.extBut hLD.symm
  replace c1 := cell_but c1 (adz L 1 (by decide)).symm s2.extBut
  refine wpAny_execs_cons (For_listN hh ?_)
  refine comp_nest (cl := [(S "words", L + 1)]) hh (by rfl) (by decide) rfl (by decide) (by decide) (by decide) (by decide) ?_
  refine Call_Name1 (nameX_B F X T (by k_is) (by boot_fast) (by decide) (PySem.callWith_type1 (wpAny_BinOp (Call_Name1 (nameX_B F X T (by k_is) (by boot_fast) (by decide) (PySem.callWith_builtin1 (nameX_L F vp (len_ws (by omega) (wpAny_Constant_int (P.add_int ?_))))))))))
  have e1 : (x.length : Int) + 1 = ((x.length + 1 : Nat) : Int) := by omega
  rw [e1]
  refine call_range_1 ?_
  have k23 : ∀ o : Obj, Kp h2 (h2.push o) := fun _ b o e => Heap.get?_push_of_some _ e
  refine ⟨_, la, x.length + 1, _, _, _, items, wordsF x (2 ^ x.length), rfl, IsRange.new _ _ _ _ _ _ _, by omega, (hP.keeps (k23 _)).isList, hW, by omega, (fun z hz => by have := (w2 z hz).1; omega), ?_, ?_, ?_, ?_⟩
  · intro C s₃ m₃ E' Q' hns k3 hq
    refine ldF rfl ?_ hq
    obtain ⟨o, a, b⟩ := c1
    exact ⟨o, k3 _ _ (k23 _ _ _ a), b⟩
  · intro k C s₃ m₃ E' t z u hns k3 hm0 hm1 hz
    have G3 : Gd w q lo mg mb s₃.heap := Gd.keeps (Gd.keeps (Gd.keeps ⟨X, T⟩ F.keep) (k23 _)) k3
    refine wpAny_tests_one ?_
    refine wpAny_isTrue_Compare1 (Call_Name1 (ldB G3.X G3.T (by k_is) (by boot_fast) (by decide) (PySem.callWith_builtin1 (ldV hns hm1 (len_ws (by omega) (ldV hns hm0 (P.eq_int (wpAny_truthy_bool ?_))))))))
    refine ⟨?_, _, _, rfl, fun b o e => e⟩
    by_cases e : z.length = k
    · rw [e, beq_self_eq_true, beq_self_eq_true]
    · rw [beq_eq_false_iff_ne.mpr e, beq_eq_false_iff_ne.mpr (by omega)]
  · intro C s₃ m₃ E' z u hns hm1
    exact ldV hns hm1 ⟨⟨_, rfl⟩, _, _, rfl, fun b o e => e⟩
  · intro D2 h3 tk3 ys nD2 hD2 hys kp
    have k3 : Kp h2 h3 := fun b o e => kp _ _ (k23 _ _ _ e)
    replace F := Frk F k3
    have hD0 := hD
    replace hD := hD.keeps k3
    have hLD2 : L ≠ D2 := by
      rintro rfl
      obtain ⟨o, n, ho, _, _, hd⟩ := hD2
      obtain ⟨o', es, ep, ho', hd', _⟩ := F.ns
      rw [ho] at ho'; cases ho'; rw [hd] at hd'; cases hd'
    have hDD2 : D ≠ D2 := by
      rintro rfl
      obtain ⟨o, n, e, _⟩ := hD0
      have e2 := k23 { cls := .type "range", data := .fields #[] } _ _ e
      exact absurd ((k23 _ _ _ e).symm.trans nD2) (by intro h; cases h)
    have hLI : L ≠ h3.objs.size := Fr.neL F (size_none _)
    have gI : s₀.heap.get? h3.objs.size = none := Fr.noneBack F (size_none _)
    have hDI : D ≠ h3.objs.size := Nat.ne_of_lt hD.lt
    have hnm : ∀ z ∈ dueW (wordsF x (2 ^ x.length)) (x.length + 1), SafeL z := fun z hz => w2 z (dueW_mem hz)
    have hnl : (dueW (wordsF x (2 ^ x.length)) (x.length + 1)).length ≤ 100 := by
      have h1 := dueW_len (wordsF x (2 ^ x.length)) (x.length + 1)
      have h2 : (x.length + 1) * (wordsF x (2 ^ x.length)).length ≤ 5 * 16 := Nat.mul_le_mul (by omega) (by omega)
      omega
    refine ⟨D2, ys, rfl, hD2.isList, (fun k s' => ∃ h tk m, s' = { s₀ with heap := h, toks := tk } ∧ Fr s₀.heap L h m ∧ HdL h D (entsD (((dueW (wordsF x (2 ^ x.length)) (x.length + 1)).take k).foldl (dueStep y) [])) ∧ m (S "low") = some (.str (ws y) ty) ∧ m (S "due") = some (.ref D)), ?_, ?_, ?_⟩
    · intro o
      have ko : Kp h3 (h3.push o) := fun b o e => Heap.get?_push_of_some _ e
      exact ⟨_, _, _, rfl, Frk F ko, ⟨#[], hD.keeps ko, .nil⟩, vl, rfl⟩
    · intro k v s' h' tk' io oa E' hk ⟨h4, tk4, m4, e, F', HL', vl, vd⟩ hio kI eI ea hDl
      subst e
      obtain ⟨wd, tw, hwd, rfl⟩ := hys.get' (by simpa using hk)
      have F := Frx F' hLI gI kI
      have HL := HL'.but hDI (cls_not_tuple hio (by decide)) kI
      have nt := ns_not_tuple F.ns
      have hstp : ((dueW (wordsF x (2 ^ x.length)) (x.length + 1)).take (k + 1)).foldl (dueStep y) [] = dueStep y (((dueW (wordsF x (2 ^ x.length)) (x.length + 1)).take k).foldl (dueStep y) []) wd := by rw [List.take_succ, hwd, List.foldl_append]; rfl
      have hel := due_mem_len y ((dueW (wordsF x (2 ^ x.length)) (x.length + 1)).take k) []
      have htl : ((dueW (wordsF x (2 ^ x.length)) (x.length + 1)).take k).length ≤ 100 := by rw [List.length_take]; omega
      refine assign_Name (stL F (fun h5 F s5 => ?_))
      replace HL := HL.but hLD.symm nt s5.extBut
      replace eI := s5.extBut _ _ hLI.symm eI
      replace ea := s5.extBut _ _ hLD2.symm ea
      refine wpAny_mono (due_turn (E := E') (s₀ := s₀) X T R hh hy (hnm wd (List.mem_of_getElem? hwd)) F HL gD hLD (by simp at hel; omega) eI ea hLI.symm hDI.symm hLD2.symm hDD2.symm vl vd rfl (hsm wd (List.mem_of_getElem? hwd))) (fun f s' hf => ?_) fun _ _ e => e
      obtain ⟨rfl, h6, tk6, m6, rfl, F, HL, eI, ea, vl, vd⟩ := hf
      exact ⟨⟨h6, tk6, m6, rfl, F, by rw [hstp]; exact HL, vl, vd⟩, eI, ea⟩
    · intro s' h' tk' ⟨h4, tk4, m4, e, F', HL', vl, vd⟩ hio kI
      subst e
      have F := Frx F' hLI gI kI
      have HL := HL'.but hDI (cls_not_tuple hio (by decide)) kI
      have hall : (dueW (wordsF x (2 ^ x.length)) (x.length + 1)).take ys.size = dueW (wordsF x (2 ^ x.length)) (x.length + 1) := List.take_of_length_le (by have := hys.len; simp at this; omega)
      rw [hall] at HL
      refine wpAny_execs_cons (wpAny_Return_some (nameX_L F vd ?_))
      exact ⟨⟨D, rfl, HL⟩, _, _, rfl, F.keep⟩
/-- the first loop of the due list: the words, each once -/
theorem law_due {n : Nat} {x y : List Nat} {tx ty : Tok} (G : Gd w q lo mg mb s.heap) (R : Rm (n + 3) A) (hA : A.handled = none) (hx : SafeL x) (hy : SafeL y) (hsm : ∀ wd ∈ dueW (wordsF x (2 ^ x.length)) (x.length + 1), leftF y wd = [] → (valF y wd).natAbs ≤ 9) :
    wpAny (model pw w) A (call (.ref 341) [.str (ws x) tx, .str (ws y) ty]) (fun v s' => (∃ D, v = .ref D ∧ HdL s'.heap D (entsD (dueF x y))) ∧ Keeps s s') E s := by
  refine enterC (f := 341) (name := S "_law_due") (qual := S "_law_due") (params := fA 31) (body := fB 31) (scope := fS 31) (binds := [(S "plain", .str (ws x) tx), (S "low", .str (ws y) ty)]) G R rfl rfl rfl rfl (by decide +kernel) ?_ rfl rfl rfl
  intro L h₁ tk A' cells F N Y X T R' hh
  replace hh := hh.trans hA
  rcases Y with _ | ⟨d1, _⟩
  rename_i o1
  have b1 := (N _ (.head _)).1
  have g1 : s.heap.get? (L + 1) = none := above_none F (Nat.le_add_right _ _)
  have hL1 : L ≠ L + 1 := adz L 1 (by decide)
  (with_unfolding_all show wpAny _ _ (execs (_ :: _) _) _ _ _)
  refine wpAny_execs_cons (wpAny_Assign_Name (List_ (wpAny_items_nil (wpAny_newList ?_))))
  have kP : Kp h₁ (h₁.push { cls := .type "list", data := .seq ([] : List Value).toArray }) := fun b o e => Heap.get?_push_of_some _ e
  have hP : PlainL (h₁.push { cls := .type "list", data := .seq ([] : List Value).toArray }) h₁.objs.size #[] := ⟨_, _, Heap.get?_push_size _ rfl, rfl, rfl, rfl⟩
  have gW : s.heap.get? h₁.objs.size = none := Fr.noneBack F (size_none _)
  have hLW : L ≠ h₁.objs.size := Fr.neL F (size_none _)
  have hW1 : h₁.objs.size ≠ L + 1 := (Nat.ne_of_lt (Heap.lt_size b1)).symm
  generalize h₁.objs.size = la at *
  replace F := Frk F kP
  refine stC (v₀ := none) ⟨_, kP _ _ b1, d1⟩ (fun h2 c1 s2 => ?_)
  replace F := Frx F hL1 g1 s2.extBut
  replace hP := hP.extBut s2.extBut hW1
  refine wpAny_execs_cons (For_rangeN hh (Call_Name1 (nameX_B F X T (by k_is) (by boot_fast) (by decide) (PySem.callWith_type1 (wpAny_BinOp (wpAny_Constant_int (Call_Name1 (nameX_B F X T (by k_is) (by boot_fast) (by decide) (PySem.callWith_builtin1 (nameX_L F rfl (len_ws (by have := hx.1; omega) (pow_int_small (by omega) (by have := hx.1; omega) (by decide) ?_))))))))))))
  have e2 : (2 : Int) ^ ((x.length : Int).toNat) = ((2 ^ x.length : Nat) : Int) := by rw [Int.toNat_natCast]; exact (Int.natCast_pow 2 _).symm
  rw [e2]
  have hn16 : 2 ^ x.length ≤ 16 := Nat.pow_le_pow_right (n := 2) (by decide) hx.1
  refine call_range_1 ?_
  have hwok := words_ok hx
  refine ⟨_, 2 ^ x.length, _, _, _, rfl, IsRange.new _ _ _ _ _ _ _, by omega, (fun k s' => ∃ h tk m items, s' = { s with heap := h, toks := tk } ∧ Fr s.heap L h m ∧ h.IsCell (L + 1) (some (.ref la)) ∧ PlainL h la items ∧ WL items.toList (wordsF x k) ∧ m (S "plain") = some (.str (ws x) tx) ∧ m (S "low") = some (.str (ws y) ty)), ?_, ?_, ?_⟩
  · intro o
    have k2 : ∀ {a b : Obj}, Kp h2 ((h2.push a).push b) := fun b o e => Heap.get?_push_of_some _ (Heap.get?_push_of_some _ e)
    exact ⟨_, _, _, #[], rfl, Frk F k2, by obtain ⟨o, a, b⟩ := c1; exact ⟨o, k2 _ _ a, b⟩, hP.keeps k2, .nil, rfl, rfl⟩
  · have hIs : ∀ o : Obj, L + 1 < (h2.push o).objs.size ∧ la < (h2.push o).objs.size ∧ L < (h2.push o).objs.size ∧ s.heap.get? (h2.push o).objs.size = none := fun o => by
      refine ⟨?_, ?_, ?_, Fr.noneBack (F.push o) (size_none _)⟩
      · rw [Heap.size_push]; exact Nat.lt_succ_of_lt (cell_lt c1)
      · rw [Heap.size_push]; exact Nat.lt_succ_of_lt hP.lt
      · rw [Heap.size_push]; exact Nat.lt_succ_of_lt F.ns.lt
    intro k tv s' h' tk' io E' hk ⟨h, tk5, m, items, e, F', c1', hP', hW', vp, vl⟩ hio kI eI
    subst e
    obtain ⟨i1, i2, i3, i4⟩ := hIs _
    have F := Frx F' (Nat.ne_of_lt i3) i4 kI
    have c1 := cell_but c1' (Nat.ne_of_lt i1) kI
    have hP : PlainL h' la items := pl_ext hP' fun o => kI _ _ (Nat.ne_of_lt i2)
    refine stL F (fun h4 F s4 => ?_)
    replace c1 := cell_but c1 hL1.symm s4.extBut
    replace hP := hP.extBut s4.extBut hLW.symm
    replace eI := s4.extBut _ _ (Nat.ne_of_lt i3).symm eI
    refine wpAny_execs_cons (wpAny_Assign_Name (Call_ (nameX_K F X T (by k_is) (PyProof.Rows.callWith_def rfl (wpAny_items_cons (nameX_L F vp (wpAny_items_cons (nameX_L F rfl (wpAny_items_nil (⟨F.keep _ _ (X _ _ rfl), ?_⟩))))))))))
    refine wpAny_mono (choice (E := E') (Gd.keeps ⟨X, T⟩ F.keep) R' hh hx.1 (by omega) (by omega)) (fun v' s' hv => ?_) fun _ _ e => e
    obtain ⟨⟨tw, rfl⟩, h5, tk6, rfl, kp⟩ := hv
    replace F := Frk F kp
    replace c1 : h5.IsCell (L + 1) (some (.ref la)) := by obtain ⟨o, a, b⟩ := c1; exact ⟨o, kp _ _ a, b⟩
    replace hP := hP.keeps kp
    replace eI := kp _ _ eI
    refine stL F (fun h6 F s6 => ?_)
    replace c1 := cell_but c1 hL1.symm s6.extBut
    replace hP := hP.extBut s6.extBut hLW.symm
    replace eI := s6.extBut _ _ (Nat.ne_of_lt i3).symm eI
    refine wpAny_execs_cons (wpAny_If (wpAny_isTrue_Compare1 (nameX_L F rfl (ldC c1 (notIn_ws hP.isList hW' (wpAny_truthy_bool ?_))))))
    have hst := wordsF_succ x k
    unfold wordStep at hst
    cases ha : (wordsF x k).any fun z => z == chF x k with
    | true =>
      rw [ha] at hst
      rw [if_pos rfl] at hst
      rw [if_neg (by decide)]
      refine wpAny_execs_nil (wpAny_execs_nil ?_)
      exact ⟨⟨_, _, _, items, rfl, F, c1, hP, by rw [hst]; exact hW', vp, vl⟩, eI⟩
    | false =>
      rw [ha] at hst
      rw [if_neg (by decide)] at hst
      rw [if_pos (show (!false) = true from rfl)]
      refine wpAny_execs_cons (wpAny_Expr_any (wpAny_Call_append (by rfl) (by rfl) (by rfl) (by rfl) (ldC c1 (⟨la, items, rfl, hP, ?_⟩))))
      have hsz : items.size ≤ 1000 := by have h1 := hW'.len; have h2 := (hwok k).1; simp at h1; omega
      refine nameX_L F rfl (pl_append hP (fun h7 hP7 s7 => ?_) hsz)
      replace F := Frx F hLW gW s7.extBut
      replace c1 := cell_but c1 hW1.symm s7.extBut
      replace eI := s7.extBut _ _ (Nat.ne_of_lt i2).symm eI
      refine wpAny_execs_nil (wpAny_execs_nil ?_)
      exact ⟨⟨_, _, _, _, rfl, F, c1, hP7, by rw [hst, Array.toList_push]; exact hW'.snoc _ tw, vp, vl⟩, eI⟩
  · have hIs : ∀ o : Obj, L + 1 < (h2.push o).objs.size ∧ la < (h2.push o).objs.size ∧ L < (h2.push o).objs.size ∧ s.heap.get? (h2.push o).objs.size = none := fun o => by
      refine ⟨?_, ?_, ?_, Fr.noneBack (F.push o) (size_none _)⟩
      · rw [Heap.size_push]; exact Nat.lt_succ_of_lt (cell_lt c1)
      · rw [Heap.size_push]; exact Nat.lt_succ_of_lt hP.lt
      · rw [Heap.size_push]; exact Nat.lt_succ_of_lt F.ns.lt
    intro s' h' tk' ⟨h, tk5, m, items, e, F', c1', hP', hW', vp, vl⟩ hio kI
    subst e
    obtain ⟨i1, i2, i3, i4⟩ := hIs _
    have F := Frx F' (Nat.ne_of_lt i3) i4 kI
    have c1 := cell_but c1' (Nat.ne_of_lt i1) kI
    have hP : PlainL h' la items := pl_ext hP' fun o => kI _ _ (Nat.ne_of_lt i2)
    refine wpAny_mono (due_tail (E := fun _ _ => False) (s₀ := s) X T R' hh hx hy F c1 hP hW' vp vl hsm) (fun fl s' h' => ?_) fun _ _ e => e
    cases fl <;> exact h'
end
end Mine
end

section
open PySem PySem.W PyProof.Rows PySem.Calls
set_option Elab.async false
set_option maxRecDepth 100000
set_option maxHeartbeats 4000000
namespace Mine
variable {w : World} {mg mb : Str → Option Value} {q : Program} {lo : List Str}
theorem fill25 : (fun (_ : OpenLaw) (_ : Params → Frag) => True) PySem.Challenge.rw_uq0030_01 Kx := by k_fill; trivial
section
variable {A : Around} {E : Value → Shared → Prop} {s : Shared} {env : Env}
/-- a slice of a list that any text makes -/
theorem sliceLL {value : Expr} {lower upper : Option Expr} {p pos : Pos} {Q : Value → Shared → Prop}
    (h : wpAny (model pw w) A (eval value env) (fun o s₁ => wpAny (model pw w) A (evalPart lower env) (fun vl s₂ => wpAny (model pw w) A (evalPart upper env) (fun vu s₃ => ∃ (l : Addr) (items : Array Value) (lw hi : Option Int), o = .ref l ∧ s₃.heap.IsList l items ∧ items.size ≤ 1000 ∧ IsPart vl lw ∧ IsPart vu hi ∧
      ∀ h' D, Kp s₃.heap h' → h'.IsList D (slicePick items lw hi none) → Q (.ref D) { s₃ with heap := h' }) E s₂) E s₁) E s) :
    wpAny (model pw w) A (eval (.Subscript value (.Slice lower upper none p) pos) env) Q E s := by
  rw [eval_Subscript]
  refine wpAny_bind (wpAny_mono h (fun o s₁ h₁ => wpAny_bind (wpAny_holding (wpAny_Slice (wpAny_mono h₁ (fun vl s₂ h₂ => wpAny_mono h₂ (fun vu s₃ h₃ => evalPart_none_step (wpAny_bind (wpAny_standAt ?_))) fun _ _ e => e) fun _ _ e => e)))) fun _ _ x => x)
  obtain ⟨l, items, lw, hi, rfl, hl, hsz, pl, pu, hQ⟩ := h₃
  have hT := (hl.push { cls := .type "slice", data := .fields #[vl, vu, .none] }).typeIs (s := { s₃ with heap := s₃.heap.push { cls := .type "slice", data := .fields #[vl, vu, .none] } })
  have hsz' : items.size ≤ sizeLine := Nat.le_trans hsz (by decide)
  have fin : wpAny (model pw w) A (operate [.ref s₃.heap.objs.size, .ref l] (getItem (.ref l) (.ref s₃.heap.objs.size))) (fun r s₄ => wpAny (model pw w) A (letTemporaryGo value (.ref l) r >>= fun _ => pure r) Q E s₄) E { s₃ with heap := s₃.heap.push { cls := .type "slice", data := .fields #[vl, vu, .none] } } := by
    refine wpAny_operating (wpAny_getItem_list_slice (hl.push _) (Heap.IsSliceOf.new ..) pl pu .none (by simp) ?_ hsz')
    refine wpAny_bind (wpAny_letTemporaryGo (wpAny_pure ?_))
    exact hQ _ _ (fun b o e => Heap.get?_push_of_some _ (Heap.get?_push_of_some _ e)) ⟨_, Heap.get?_push_size _ rfl, rfl, _, rfl⟩
  refine wpAny_bind ?_
  rw [getitemInPython_of_ne hT.not_modules]
  refine wpAny_bind (wpAny_specialOf hT list_getitem_lookup ?_)
  first
    | exact wpAny_pure (wpAny_bind fin)
    | exact wpAny_bind (wpAny_pure (wpAny_bind fin))
    | exact wpAny_bind fin
/-- the pairs that the numbers stand for -/
noncomputable def TypR (I D C : Addr) (x : Int) (h : Heap) (y : Value) : Prop := ∃ T its, y = .ref T ∧ T ≠ I ∧ T ≠ D ∧ T ≠ C ∧ h.IsTuple T its ∧ TypP x its
theorem TypR.but {I D C r : Addr} {x : Int} {h h' : Heap} {y : Value} (z : TypR I D C x h y) (hr : r = I ∨ r = D ∨ r = C) (k : ∀ b o, b ≠ r → h.get? b = some o → h'.get? b = some o) : TypR I D C x h' y := by
  obtain ⟨T, its, rfl, a, b, c, ⟨o, ho, r2⟩, e⟩ := z
  refine ⟨T, its, rfl, a, b, c, ⟨o, k _ _ ?_ ho, r2⟩, e⟩
  rcases hr with rfl | rfl | rfl <;> assumption
theorem TypR.keeps {I D C : Addr} {x : Int} {h h' : Heap} {y : Value} (z : TypR I D C x h y) (k : Kp h h') : TypR I D C x h' y := by
  obtain ⟨T, its, rfl, a, b, c, ⟨o, ho, r2⟩, e⟩ := z
  exact ⟨T, its, rfl, a, b, c, ⟨o, k _ _ ho, r2⟩, e⟩
theorem loop_typed {elt iter : Expr} {x : Str} {px pos : Pos} {scope : Scope} {I D C ax : Addr} {items : Array Value} {ds : List Int} {hb : Heap} {m : Str → Option Value} {R₀ : Result → Shared → Prop} (hh : A.handled = none) (hkind : scope.kind = .function) (hx : scope.names.lookup x = some .local)
    (hID : I ≠ D) (hIC : I ≠ C) (hDC : D ≠ C) (nI : hb.get? I = none) (nD : hb.get? D = none) (nC : hb.get? C = none) (hl : hb.IsList ax items) (hds : RowV ds items.toList) (hsz : ds.length ≤ 100)
    (kp : Kp hb s.heap) (hit : s.heap.IsListIter I ax 0) (hD : PlainL s.heap D #[]) (hn : s.heap.Ns C m)
    (el : ∀ s₂ m₂ E' d t, s₂.heap.Ns C m₂ → m₂ x = some (.int d t) → Kp hb s₂.heap → wpAny (model pw w) A (eval elt (compEnvC scope [] C env)) (fun y s₃ => (∃ T its, y = .ref T ∧ s₂.heap.get? T = none ∧ s₃.heap.IsTuple T its ∧ TypP d its) ∧ Keeps s₂ s₃) E' s₂)
    (fin : ∀ h' tk ys m', h'.Ns C m' → PlainL h' D ys → Paired (fun d y => TypR I D C d h' y) ds ys.toList → Kp hb h' → R₀ (.ok .next) { s with heap := h', toks := tk }) :
    codeAny (model pw w) A (.compLoop (.ListComp elt [⟨.Name x px, iter, [], 0⟩] scope pos) 0 (.ref I) (.ref D) (compEnvC scope [] C env)) R₀ s := by
  have hp : ((compEnvC scope [] C env).scope.kind == .class || ((compEnvC scope [] C env).scope.kind == .module && (compEnvC scope [] C env).locals != (compEnvC scope [] C env).globals)) = false := by simp [compEnvC, relabel, hkind]
  have hx' : (compEnvC scope [] C env).kindOf x = some .local := lookup_relabel_local hx
  have nb : ∀ {b r : Addr} {o : Obj}, hb.get? r = none → hb.get? b = some o → b ≠ r := fun hr e => by rintro rfl; rw [hr] at e; cases e
  have hlen : items.size = ds.length := by have := paired_len hds; simpa using this
  refine loop1 (fun n s' => ∃ k h tk m ys, k + n = items.size ∧ s' = { s with heap := h, toks := tk } ∧ Kp hb h ∧ h.IsListIter I ax k ∧ PlainL h D ys ∧ h.Ns C m ∧ Paired (fun d y => TypR I D C d h y) (ds.take k) ys.toList) ?_ items.size ⟨0, s.heap, s.toks, m, #[], by omega, rfl, kp, hit, hD, hn, .nil⟩
  rintro n s' E' ⟨k, h, tk, m', ys, hk, rfl, kp, hit, hD, hn, hR⟩
  have hl' : h.IsList ax items := lst_of (kp ax) hl
  cases n with
  | zero =>
    have hv : items[k]? = none := by rw [Array.getElem?_eq_none]; omega
    refine wpAny_pyNext_list_end hh hit hl' hv fun h₁ he₁ => ?_
    have hall : ds.take k = ds := List.take_of_length_le (by omega)
    rw [hall] at hR
    exact fin h₁ tk ys m' (hn.extBut he₁ hIC.symm) (hD.extBut he₁ hID.symm) (hR.mono fun _ _ z => z.but (.inl rfl) he₁) fun b o e => he₁ b o (nb nI e) (kp b o e)
  | succ n =>
    have hlt : k < items.size := by omega
    refine wpAny_pyNext_list_item hit hl' (Array.getElem?_eq_getElem hlt) fun h₁ hit₁ hs₁ => ?_
    refine letGo_listiter hit₁ ?_
    obtain ⟨d, hd, t, hv⟩ := paired_get hds (k := k) (y := items[k]) (by simp [hlt])
    rw [hv]
    have kp1 : Kp hb h₁ := fun b o e => hs₁.extBut b o (nb nI e) (kp b o e)
    refine wpAny_assign_Name (wpAny_storeName_local hx' (hn.sameBut hs₁ hIC.symm) (fun h₂ hn₂ hs₂ => ?_) hp)
    have kp2 : Kp hb h₂ := fun b o e => hs₂.extBut b o (nb nC e) (kp1 b o e)
    have hD2 : PlainL h₂ D ys := (hD.extBut hs₁.extBut hID.symm).extBut hs₂.extBut hDC
    have hit2 : h₂.IsListIter I ax (k + 1) := by obtain ⟨o, a, r⟩ := hit₁; exact ⟨o, hs₂.extBut _ _ hIC a, r⟩
    have hR2 := (hR.mono fun _ _ z => z.but (.inl rfl) hs₁.extBut).mono fun _ _ z => z.but (.inr (.inr rfl)) hs₂.extBut
    refine wpAny_mono (el _ _ E' d t hn₂ (by simp) kp2) (fun y s₄ h₄ => ?_) fun _ _ e => e
    obtain ⟨⟨T, its, rfl, nT, hT, hP⟩, h4, t4, rfl, k4⟩ := h₄
    have nT' : h₂.get? T = none := nT
    have hTI : T ≠ I := by obtain ⟨o, a, _⟩ := hit2; rintro rfl; rw [a] at nT'; cases nT'
    have hTD : T ≠ D := by obtain ⟨o, n, a, _⟩ := hD2; rintro rfl; rw [a] at nT'; cases nT'
    have hTC : T ≠ C := by
      obtain ⟨o, es, ep, a, _⟩ := hn₂
      have a' : h₂.get? C = some o := a
      rintro rfl; rw [a'] at nT'; cases nT'
    have hyl := paired_len hR
    refine pl_append (hD2.keeps k4) (fun h6 hD6 hs6 => ?_) (by rw [List.length_take] at hyl; simp at hyl; omega)
    refine ⟨n, Nat.lt_succ_self _, k + 1, h6, t4, _, ys.push _, by omega, rfl, fun b o e => hs6.extBut b o (nb nD e) (k4 _ _ (kp2 b o e)), ?_, hD6, (hn₂.keeps k4).sameBut hs6 hDC.symm, ?_⟩
    · obtain ⟨o, a, r⟩ := hit2; exact ⟨o, hs6.extBut _ _ hID (k4 _ _ a), r⟩
    · rw [List.take_succ, hd, Array.toList_push]
      refine paired_snoc ((hR2.mono fun _ _ z => z.keeps k4).mono fun _ _ z => z.but (.inr (.inl rfl)) hs6.extBut) ?_
      exact TypR.but ⟨T, its, rfl, hTI, hTD, hTC, hT, hP⟩ (.inr (.inl rfl)) hs6.extBut
theorem asg_typed {elt iter : Expr} {x z : Str} {px pz spos pos : Pos} {scope : Scope} {Q : Flow → Shared → Prop} {cn : Str} {cs : Scope} {L a : Addr} {cd : Value} (hh : A.handled = none)
    (hsw : swapsWith (.ListComp elt [⟨.Name x px, iter, [], 0⟩] scope pos) (some (.Name z pz)) spos.line (envOf cn cs L a cd) = pure true)
    (hclos : closureFor scope (envOf cn cs L a cd) = pure []) (hcell : ∀ y ∈ scope.names, y.2 ≠ .cell) (hkind : scope.kind = .function) (hnames : ∀ y ∈ scope.names, y.2 = .local → scope.names.lookup y.1 = some .local) (hx : scope.names.lookup x = some .local)
    (hz : (envOf cn cs L a cd).kindOf z = some .local) (hck : cs.kind = .function)
    (h : wpAny (model pw w) A (eval iter (envOf cn cs L a cd)) (fun xv s₁ => ∃ (ax : Addr) (items : Array Value) (ds : List Int) (g : Heap) (m : Str → Option Value), xv = .ref ax ∧ s₁.heap.IsList ax items ∧ RowV ds items.toList ∧ ds.length ≤ 100 ∧ Fr g L s₁.heap m ∧
      (∀ C s₂ m₂ E' d t, s₂.heap.Ns C m₂ → m₂ x = some (.int d t) → Kp s₁.heap s₂.heap → wpAny (model pw w) A (eval elt (compEnvC scope [] C (envOf cn cs L a cd))) (fun y s₃ => (∃ T its, y = .ref T ∧ s₂.heap.get? T = none ∧ s₃.heap.IsTuple T its ∧ TypP d its) ∧ Keeps s₂ s₃) E' s₂) ∧
      (∀ D h' tk ys, Fr g L h' (fun y => if y = z then some (.ref D) else m y) → (∀ b o, b ≠ L → s₁.heap.get? b = some o → h'.get? b = some o) → PlainL h' D ys → Paired (fun d y => ∃ T its, y = .ref T ∧ h'.IsTuple T its ∧ TypP d its) ds ys.toList → Q .next { s₁ with heap := h', toks := tk })) E s)
    (hs : ∀ x, foldedSetIterable iter (envOf cn cs L a cd) x = pure x := by intro _; rfl) :
    wpAny (model pw w) A (exec (.Assign [.Name z pz] (.ListComp elt [⟨.Name x px, iter, [], 0⟩] scope pos) spos) (envOf cn cs L a cd)) Q E s := by
  rw [exec_Assign_Name_used _ _ _ _ hsw]
  refine wpAny_bind (wpAny_standAt (wpAny_bind ?_))
  show wpAny _ A (do let _ ← comprehension (.ListComp elt [⟨.Name x px, iter, [], 0⟩] scope pos) scope (envOf cn cs L a cd) _ (newList []) false (eval iter (envOf cn cs L a cd)) (some (assign (.Name z pz) (envOf cn cs L a cd)))) _ _ s
  refine wpAny_bind (wpAny_mono (wpAny_comprehension_free (use := some (assign (.Name z pz) (envOf cn cs L a cd))) (Q := fun _ s' => Q .next s') rfl hs hclos hkind hnames
    (wpAny_mono h (fun xv s₁ h₁ => ?_) fun _ _ e => e)) (fun _ s' hq => wpAny_pure (wpAny_pure hq)) fun _ _ e => e)
  obtain ⟨ax, items, ds, g, m, rfl, hl, hds, hsz, F, el, fin⟩ := h₁
  refine wpAny_pyIter_list hl (laid3 hcell hkind rfl fun D C h₁ m₁ Y => ?_)
  have hit : h₁.IsListIter s₁.heap.objs.size ax 0 := ⟨_, Y.atI, rfl, rfl⟩
  have nL : ∀ {b : Addr}, s₁.heap.get? b = none → L ≠ b := fun n => by
    obtain ⟨o, es, ep, e, _⟩ := F.ns; exact ne_none e n
  have loop : ∀ tk0, codeAny (model pw w) A (.compLoop (.ListComp elt [⟨.Name x px, iter, [], 0⟩] scope pos) 0 (.ref s₁.heap.objs.size) (.ref D) (compEnvC scope [] C (envOf cn cs L a cd)))
      (compPost (model pw w) A E (some (assign (.Name z pz) (envOf cn cs L a cd))) (fun _ s' => Q .next s') (.ref D) C) { s₁ with heap := h₁, toks := tk0 } := by
    intro tk0
    refine loop_typed (s := { s₁ with heap := h₁, toks := tk0 }) hh hkind hx Y.hID Y.hIC Y.hDC Y.nI Y.nD Y.nC hl hds hsz Y.kp hit Y.acc Y.ns (el _) ?_
    intro h' tk ys m' hnC hD' hR kp
    show wpAny _ A (assign (.Name z pz) (envOf cn cs L a cd) (.ref D)) _ _ _
    have hLD := nL Y.nD
    have hLC := nL Y.nC
    have nt := ns_not_tuple (Frk F kp).ns
    refine assign_Name (stS (Frk F kp) (fun h₂ F₂ s₂ => ?_) hck hz)
    refine ⟨m', hnC.sameBut s₂ hLC.symm, fun h₃ hs₃ => ?_⟩
    have gC : g.get? C = none := Fr.noneBack F Y.nC
    refine fin D h₃ _ ys (Frx F₂ hLC gC hs₃.extBut) (fun b o hb e => hs₃.extBut b o (by rintro rfl; rw [Y.nC] at e; cases e) (s₂.extBut b o hb (kp b o e))) ((hD'.extBut s₂.extBut hLD.symm).extBut hs₃.extBut Y.hDC) ?_
    refine hR.mono fun d y hz => ?_
    obtain ⟨T, its, rfl, t1, t2, t3, hT, hP⟩ := hz
    have hTL := nt T its hT
    obtain ⟨o, ho, r⟩ := hT
    exact ⟨T, its, rfl, ⟨o, hs₃.extBut _ _ t3 (s₂.extBut _ _ hTL ho), r⟩, hP⟩
  exact codeAny_compStart_list (loop _) (wpAny_pyIter_listiter hit (loop _))
end
end Mine
end

section
open PySem PySem.W PyProof.Rows PySem.Calls
set_option Elab.async false
set_option maxRecDepth 100000
set_option maxHeartbeats 4000000
namespace Mine
variable {w : World} {mg mb : Str → Option Value} {q : Program} {lo : List Str}
theorem fill26 : (fun (_ : OpenLaw) (_ : Params → Frag) => True) PySem.Challenge.rw_uq0030_01 Kx := by k_fill; trivial
noncomputable def okW (x : List Nat) : Prop := ∀ c ∈ x, c < 0x110000
noncomputable def entD (e : List Nat × List Nat) : PyData := .tuple [.str (ws e.1), .str (ws e.2)]
theorem strOk_ws {x : List Nat} (h : okW x) : PyData.strOk (ws x) = true := by
  unfold PyData.strOk ws
  rw [List.all_toArray]
  exact List.all_eq_true.mpr fun c hc => decide_eq_true (h c hc)
theorem ents_lay : ∀ {ents : List (List Nat × List Nat)}, (∀ e ∈ ents, okW e.1 ∧ okW e.2) → PyData.canLayAll0 (ents.map entD) = true ∧ PyData.depthAll (ents.map entD) ≤ 1
  | [], _ => ⟨rfl, Nat.zero_le _⟩
  | e :: r, h => by
    obtain ⟨a, b⟩ := ents_lay (ents := r) fun e he => h e (.tail _ he)
    obtain ⟨c, d⟩ := h e (.head _)
    refine ⟨?_, ?_⟩
    · show (PyData.canLay0 (entD e) && PyData.canLayAll0 (r.map entD)) = true
      rw [a]
      show ((PyData.strOk (ws e.1) && (PyData.strOk (ws e.2) && true)) && true) = true
      rw [strOk_ws c, strOk_ws d]; rfl
    · show max (PyData.depth (entD e)) (PyData.depthAll (r.map entD)) ≤ 1
      exact Nat.max_le.mpr ⟨Nat.le_refl _, b⟩
theorem ents_reads {h : Heap} : ∀ {ents : List (List Nat × List Nat)} {vs : List Value}, Paired (Ent h) ents vs → ReadsAll h vs (ents.map entD) []
  | _, _, .nil => .nil
  | e :: _, _, .cons a r => by
    obtain ⟨T, t, u, rfl, o, ho, hc, n, hd⟩ := a
    exact .cons (as := []) (.tuple (xs := [.str (ws e.1), .str (ws e.2)]) ho hc hd (.cons (as := []) (bs := []) (.str _ t) (.cons (as := []) (bs := []) (.str _ u) .nil))) (ents_reads r)
theorem hdl_reads {h : Heap} {D : Addr} {ents : List (List Nat × List Nat)} (x : HdL h D ents) : Reads h (.ref D) (.list (ents.map entD)) [D] := by
  obtain ⟨items, ⟨o, n, ho, hc, _, hd⟩, hp⟩ := x
  exact .list ho hc hd (ents_reads hp)
section
variable {A : Around} {E : Value → Shared → Prop} {s : Shared} {env : Env}
theorem eq_hdl {D D' : Addr} {ents : List (List Nat × List Nat)} {Q : Value → Shared → Prop} (hu : A.units + 2 < cLine) (x : HdL s.heap D ents) (y : HdL s.heap D' ents) (hok : ∀ e ∈ ents, okW e.1 ∧ okW e.2) (h : Q (.bool true) s) :
    wpAny (model pw w) A (compareOp .Eq (.ref D) (.ref D')) Q E s := by
  obtain ⟨a, b⟩ := ents_lay hok
  have hc : PyData.canLay0 (.list (ents.map entD)) = true := a
  refine SeqAt.compareEq_reads (hdl_reads x) (hdl_reads y) hc hc ?_ ?_
  · have : PyData.depth (.list (ents.map entD)) ≤ 2 := Nat.succ_le_succ b
    omega
  · rw [SeqAt.eqv_refl _ hc]; exact h
end
end Mine
end

section
open PySem PySem.W PyProof.Rows PySem.Calls
set_option Elab.async false
set_option maxRecDepth 100000
set_option maxHeartbeats 4000000
namespace Mine
variable {w : World} {mg mb : Str → Option Value} {q : Program} {lo : List Str}
theorem fill27 : (fun (_ : OpenLaw) (_ : Params → Frag) => True) PySem.Challenge.rw_uq0030_01 Kx := by k_fill; trivial
theorem rowFold_ok {x y : List Nat} (hx : SafeL x) : ∀ (ps W : List (List Nat)) (n : Nat), (∀ p ∈ ps, ∃ k : Nat, p = pieceF x k) → RowOk W n → RowOk (ps.foldl (rowStep y) W) (n + ps.length)
  | [], _, _, _, h => h
  | p :: ps, W, n, hp, h => by
    obtain ⟨k, rfl⟩ := hp p (.head _)
    have := rowFold_ok (y := y) hx ps _ (n + 1) (fun p h => hp p (.tail _ h)) (rowStep_ok (y := y) (k := k) hx h)
    rw [List.length_cons, Nat.add_comm ps.length 1, ← Nat.add_assoc]
    exact this
theorem rowF_ok {x : List Nat} (hx : SafeL x) (y : List Nat) : RowOk (rowF x y) 16 := by
  have h := rowFold_ok (y := y) hx ((piecesF x (2 ^ x.length)).map (·.1)) [] 0 (fun p hp => by
    obtain ⟨e, he, rfl⟩ := List.mem_map.mp hp
    obtain ⟨k, rfl⟩ := pieces_mem _ he
    exact ⟨k, rfl⟩) ⟨Nat.zero_le _, fun z hz => by cases hz⟩
  have h16 : 2 ^ x.length ≤ 16 := Nat.pow_le_pow_right (n := 2) (by decide) hx.1
  have hl := pieces_len x (2 ^ x.length)
  refine ⟨Nat.le_trans h.1 ?_, h.2⟩
  rw [List.length_map]; omega
theorem dueFold_mem {y : List Nat} : ∀ (W : List (List Nat)) (acc : List (List Nat × Int)), ∀ e ∈ W.foldl (dueStep y) acc, e ∈ acc ∨ ∃ wd ∈ W, leftF y wd = [] ∧ e = (wd, valF y wd)
  | [], _, e, h => .inl h
  | wd :: W, acc, e, h => by
    rcases dueFold_mem W _ e h with h | ⟨z, a, b, c⟩
    · unfold dueStep at h
      split at h
      · rename_i hl
        rcases List.mem_append.mp h with h | h
        · exact .inl h
        · exact .inr ⟨wd, .head _, hl, by simpa using h⟩
      · exact .inl h
    · exact .inr ⟨z, .tail _ a, b, c⟩
theorem safe_okW {x : List Nat} (h : SafeL x) : okW x := fun c hc => by
  have := h.2 c hc
  omega
theorem due_ok {x y : List Nat} (hx : SafeL x) (hsm : ∀ wd ∈ dueW (wordsF x (2 ^ x.length)) (x.length + 1), leftF y wd = [] → (valF y wd).natAbs ≤ 9) : ∀ e ∈ entsD (dueF x y), okW e.1 ∧ okW e.2 := by
  intro e he
  obtain ⟨f, hf, rfl⟩ := List.mem_map.mp he
  rcases dueFold_mem _ _ f hf with h | ⟨wd, a, b, rfl⟩
  · cases h
  · refine ⟨safe_okW ((words_ok hx _).2 _ (dueW_mem a)), ?_⟩
    have h9 := hsm wd a b
    intro c hc
    show c < 1114112
    unfold decL at hc
    split at hc
    · have hc' : c = 45 ∨ c = 48 + (valF y wd).natAbs := by simpa using hc
      omega
    · have hc' : c = 48 + (valF y wd).natAbs := by simpa using hc
      omega
section
variable {A : Around} {E : Value → Shared → Prop} {s : Shared} {env : Env}
noncomputable def Lw (s s' : Shared) : Prop := ∃ h' tk, s' = { s with heap := h', toks := tk } ∧ (∀ b o, b ≠ 319 → b ≠ 326 → s.heap.get? b = some o → h'.get? b = some o) ∧ (∃ ps, h'.get? 319 = some (tabObj ps)) ∧ ∃ ps, h'.get? 326 = some (tabObj ps)
theorem law_ret {n : Nat} {g : Heap} {L : Addr} {m : Str → Option Value} {nm y : List Nat} {tn tp ty : Tok} (F : Fr g L s.heap m) (X : (Kx w.params).In g) (T : TopRead q lo mg mb g) (B : BMain mg g) (g319 : g.get? 319 = none) (g326 : g.get? 326 = none) (h319 : s.heap.get? 319 = some (tabObj #[])) (h326 : s.heap.get? 326 = some (tabObj #[]))
    (hL1 : L ≠ 319) (hL2 : L ≠ 326) (R : Rm (n + 6) A) (hA : A.handled = none) (hn : nm.length ≤ 1000) (hx : SafeL (nm.take 4)) (hy : SafeL y) (vn : m (S "name") = some (.str (ws nm) tn)) (vp : m (S "plain") = some (.str (ws nm) tp)) (vl : m (S "low") = some (.str (ws y) ty))
    (hres : numF (rowF (nm.take 4) y) = some (dueF (nm.take 4) y)) (hsm : ∀ wd ∈ dueW (wordsF (nm.take 4) (2 ^ (nm.take 4).length)) ((nm.take 4).length + 1), leftF y wd = [] → (valF y wd).natAbs ≤ 9) :
    wpAny (model pw w) A (execs ((fB 32).drop 6) (envOf (S "law") (fS 32) L 346 (.ref 345))) (fun fl s' => retV fl = .bool true ∧ Lw s s') E s := by
  obtain ⟨h, gens, drawn, toks, os⟩ := s
  have hL1' : h.get? 319 = some (tabObj #[]) := h319
  (with_unfolding_all show wpAny _ _ (execs (_ :: _) _) _ _ _)
  refine wpAny_execs_cons (wpAny_Return_some (wpAny_Compare1 (Call_ (name_K F X T (by k_is) (PyProof.Rows.callWith_def (o := o_331 w.params) rfl (wpAny_items_cons (Call_ (name_K F X T (by k_is) (PyProof.Rows.callWith_def (o := o_324 w.params) rfl (wpAny_items_cons (sliceT (ld F vn (wpAny_Constant_int (⟨nm, tn, 4, _, rfl, rfl, hn, fun h1 t1 k1 kp => ?_⟩))))))))))))))
  replace F := Frk F kp
  replace h319 := kp _ _ h319
  replace h326 := kp _ _ h326
  refine wpAny_items_cons (ld F vl (wpAny_items_nil (⟨F.keep _ _ (X _ _ rfl), ?_⟩)))
  refine wpAny_mono (law_row (E := E) (Gd.keeps ⟨X, T⟩ F.keep) (B.keeps F.keep) h319 h326 R hA hx hy) (fun v s' hv => ?_) fun _ _ e => e
  obtain ⟨⟨r, items, rfl, hr, hW, nr⟩, h2, tk2, rfl, k2, ps, e2⟩ := hv
  replace F := Frx F hL1 g319 k2
  replace h326 := k2 _ _ (by decide) h326
  refine wpAny_items_nil (⟨F.keep _ _ (X _ _ rfl), ?_⟩)
  refine wpAny_mono (law_numbers (E := E) (Gd.keeps ⟨X, T⟩ F.keep) (B.keeps F.keep) e2 h326 R hA hr.isList hW (rowF_ok hx y) hres) (fun v s' hv => ?_) fun _ _ e => e
  obtain ⟨⟨D, rfl, hD⟩, h3, tk3, rfl, k3, qs, e3⟩ := hv
  replace F := Frx F hL2 g326 k3
  refine Call_ (name_K F X T (by k_is) (PyProof.Rows.callWith_def (o := o_341 w.params) rfl (wpAny_items_cons (sliceT (ld F vp (wpAny_Constant_int (⟨nm, tp, 4, _, rfl, rfl, hn, fun h4 t4 k4 kp4 => ?_⟩)))))))
  replace F := Frk F kp4
  refine wpAny_items_cons (ld F vl (wpAny_items_nil (⟨F.keep _ _ (X _ _ rfl), ?_⟩)))
  refine wpAny_mono (law_due (E := E) (n := n + 3) (Gd.keeps ⟨X, T⟩ F.keep) R hA hx hy hsm) (fun v s' hv => ?_) fun _ _ e => e
  obtain ⟨⟨D', rfl, hD'⟩, h5, tk5, rfl, k5⟩ := hv
  refine eq_hdl (by have := R.2; omega) ((hD.keeps kp4).keeps k5) hD' (due_ok hx hsm) ?_
  refine ⟨rfl, h5, tk5, rfl, fun b o b1 b2 e => k5 _ _ (kp4 _ _ (k3 _ _ b2 (k2 _ _ b1 (kp _ _ e)))), ⟨ps, k5 _ _ (kp4 _ _ (k3 _ _ (by decide) e2))⟩, ⟨qs, k5 _ _ (kp4 _ _ e3)⟩⟩
end
end Mine
end

section
open PySem PySem.W PyProof.Rows PySem.Calls
set_option Elab.async false
set_option maxRecDepth 100000
set_option maxHeartbeats 4000000
namespace Mine
variable {w : World} {mg mb : Str → Option Value} {q : Program} {lo : List Str}
theorem fill28 : (fun (_ : OpenLaw) (_ : Params → Frag) => True) PySem.Challenge.rw_uq0030_01 Kx := by k_fill; trivial
theorem rowV_ints {vs : List Value} {ns : List Int} (h : IntsAre vs ns) : RowV ns vs := by
  induction h with
  | nil => exact .nil
  | cons n t _ ih => exact .cons ⟨t, rfl⟩ ih
theorem rowV_drop : ∀ {ns : List Int} {vs : List Value} (k : Nat), RowV ns vs → RowV (ns.drop k) (vs.drop k)
  | _, _, 0, h => h
  | _, _, _ + 1, .nil => .nil
  | _, _, k + 1, .cons _ r => rowV_drop k r
theorem rowV_take : ∀ {ns : List Int} {vs : List Value} (k : Nat), RowV ns vs → RowV (ns.take k) (vs.take k)
  | _, _, 0, _ => .nil
  | _, _, _ + 1, .nil => .nil
  | _, _, k + 1, .cons a r => .cons a (rowV_take k r)
noncomputable def drawnF (ns : List Int) : List Int := (ns ++ [9, 0, 2, 9].drop ns.length).take 4
theorem drawn_len (ns : List Int) : (drawnF ns).length ≤ 4 := by unfold drawnF; rw [List.length_take]; omega
noncomputable def signF (d : Int) : List Nat := sgs.getD (m12 d) []
noncomputable def meanF (d : Int) : List Nat := mns.getD (m12 d) []
noncomputable def signsF (ds : List Int) : List Nat := (ds.map signF).flatten
noncomputable def meansF (ds : List Int) : List Nat := (ds.map meanF).flatten
theorem m12_cases {P : Nat → Prop} (d : Int) (h : ∀ k, k < 12 → P k) : P (m12 d) := h _ (m12_lt d)
theorem sign_sg (d : Int) : ∀ c ∈ signF d, SG c := m12_cases (P := fun k => ∀ c ∈ sgs.getD k [], SG c) d (by
  intro k hk c hc
  have h : (sgs.getD k []).all (fun c => decide (c = 102 ∨ c = 105 ∨ c = 108 ∨ c = 70 ∨ c = 73 ∨ c = 76 ∨ c = 8497 ∨ c = 8464 ∨ c = 64256 ∨ c = 64257 ∨ c = 64258 ∨ c = 173)) = true :=
    (by decide +kernel : ∀ k, k < 12 → (sgs.getD k []).all (fun c => decide (c = 102 ∨ c = 105 ∨ c = 108 ∨ c = 70 ∨ c = 73 ∨ c = 76 ∨ c = 8497 ∨ c = 8464 ∨ c = 64256 ∨ c = 64257 ∨ c = 64258 ∨ c = 173)) = true) k hk
  unfold SG
  exact of_decide_eq_true (List.all_eq_true.mp h c hc))
theorem mean_safe (d : Int) : ∀ c ∈ meanF d, c = 102 ∨ c = 105 ∨ c = 108 := m12_cases (P := fun k => ∀ c ∈ mns.getD k [], c = 102 ∨ c = 105 ∨ c = 108) d (by
  intro k hk c hc
  have h : (mns.getD k []).all (fun c => decide (c = 102 ∨ c = 105 ∨ c = 108)) = true :=
    (by decide +kernel : ∀ k, k < 12 → (mns.getD k []).all (fun c => decide (c = 102 ∨ c = 105 ∨ c = 108)) = true) k hk
  exact of_decide_eq_true (List.all_eq_true.mp h c hc))
theorem fold_sign (d : Int) : foldF (signF d) = meanF d := m12_cases (P := fun k => foldF (sgs.getD k []) = mns.getD k []) d (by decide +kernel)
theorem sign_len (d : Int) : (signF d).length ≤ 2 := m12_cases (P := fun k => (sgs.getD k []).length ≤ 2) d (by decide +kernel)
theorem mean_len (d : Int) : (meanF d).length ≤ 2 := m12_cases (P := fun k => (mns.getD k []).length ≤ 2) d (by decide +kernel)
theorem foldF_app (a b : List Nat) : foldF (a ++ b) = foldF a ++ foldF b := by unfold foldF; rw [List.filter_append, List.map_append, List.flatten_append]
theorem fold_signs : ∀ ds : List Int, foldF (signsF ds) = meansF ds
  | [] => rfl
  | d :: ds => by
    show foldF (signF d ++ signsF ds) = meanF d ++ meansF ds
    rw [foldF_app, fold_sign, fold_signs ds]
theorem signs_sg (ds : List Int) : ∀ c ∈ signsF ds, SG c := by
  intro c hc
  obtain ⟨l, hl, h⟩ := List.mem_flatten.mp hc
  obtain ⟨d, _, rfl⟩ := List.mem_map.mp hl
  exact sign_sg d c h
theorem flat_len {f : Int → List Nat} (hf : ∀ d, (f d).length ≤ 2) : ∀ ds : List Int, ((ds.map f).flatten).length ≤ 2 * ds.length
  | [] => Nat.le_refl _
  | d :: ds => by
    have h1 := hf d
    have h2 := flat_len hf ds
    rw [List.map_cons, List.flatten_cons, List.length_append, List.length_cons]
    omega
theorem means_safe (ds : List Int) : SafeL ((meansF ds).take 4) := by
  refine ⟨by rw [List.length_take]; omega, fun c hc => ?_⟩
  obtain ⟨l, hl, h⟩ := List.mem_flatten.mp (List.mem_of_mem_take hc)
  obtain ⟨d, _, rfl⟩ := List.mem_map.mp hl
  exact mean_safe d c h
noncomputable def tEnt (d : Int) : List Nat × List Nat := (signF d, meanF d)
theorem typs_ents {h : Heap} : ∀ {ds : List Int} {ys : List Value}, Paired (fun d y => ∃ T its, y = Value.ref T ∧ h.IsTuple T its ∧ TypP d its) ds ys → Paired (Ent h) (ds.map tEnt) ys
  | _, _, .nil => .nil
  | _, _, .cons a r => by
    obtain ⟨T, its, e, hT, t, u, rfl⟩ := a
    exact .cons ⟨T, t, u, e, hT⟩ (typs_ents r)
theorem strs_sel {f : Int → List Nat} {sel : List Nat × List Nat → List Nat} (hs : ∀ d, sel (tEnt d) = f d) : ∀ {ds : List Int} {ys : List Value}, Paired (fun e y => ∃ t, y = Value.str (ws (sel e)) t) (ds.map tEnt) ys → StrsAre ys ((ds.map f).map ws)
  | [], _, .nil => .nil
  | d :: ds, _, .cons ⟨t, e⟩ r => by
    subst e
    rw [hs]
    exact .cons _ t (strs_sel hs r)
theorem sum_len {f : Int → List Nat} (hf : ∀ d, (f d).length ≤ 2) : ∀ ds : List Int, (((ds.map f).map ws).map (·.length)).sum ≤ 2 * ds.length
  | [] => Nat.le_refl _
  | d :: ds => by
    have h1 := hf d
    have h2 := sum_len hf ds
    show (ws (f d)).length + List.sum _ ≤ 2 * (ds.length + 1)
    rw [ws_len]
    omega
end Mine
end

section
open PySem PySem.W PyProof.Rows PySem.Calls
set_option Elab.async false
set_option maxRecDepth 100000
set_option maxHeartbeats 4000000
namespace Mine
variable {w : World} {mg mb : Str → Option Value} {q : Program} {lo : List Str}
theorem fill29 : (fun (_ : OpenLaw) (_ : Params → Frag) => True) PySem.Challenge.rw_uq0030_01 Kx := by k_fill; trivial
section
variable {A : Around} {E : Value → Shared → Prop} {s : Shared} {env : Env}
theorem ns_not_list {h : Heap} {L D : Addr} {m : Str → Option Value} {items : Array Value} (x : h.Ns L m) (y : h.IsList D items) : D ≠ L := by
  obtain ⟨o, es, ep, a, hd, _⟩ := x
  obtain ⟨o', a', _, n, hd'⟩ := y
  rintro rfl
  rw [a] at a'
  cases a'
  rw [hd] at hd'
  cases hd'
/-- the first four numbers -/
theorem law_drawn {g : Heap} {L Sx : Addr} {m : Str → Option Value} {vs : List Value} {ns : List Int} {st : Stmt} {Q : Flow → Shared → Prop} (hst : some st = (fB 32)[0]?) (F : Fr g L s.heap m) (X : (Kx w.params).In g) (T : TopRead q lo mg mb g) (hL : s.heap.IsList Sx vs.toArray) (hI : IntsAre vs ns) (hlen : ns.length ≤ 63) (vS : m (S "script") = some (.ref Sx))
    (fin : ∀ h' tk D items, Fr g L h' (fun y => if y = S "drawn" then some (.ref D) else m y) → h'.IsList D items → RowV (drawnF ns) items.toList → Q .next { s with heap := h', toks := tk }) :
    wpAny (model pw w) A (exec st (envOf (S "law") (fS 32) L 346 (.ref 345))) Q E s := by
  have e : (fB 32)[0]? = some (fB 32)[0] := rfl
  rw [e] at hst
  cases hst
  obtain ⟨h, gens, drawn, toks, os⟩ := s
  have hvl : vs.length = ns.length := ints_len_eq hI
  (with_unfolding_all show wpAny _ _ (exec (Stmt.Assign _ _ _) _) _ _ _)
  refine wpAny_Assign_Name (sliceLL (wpAny_BinOp (ld F vS (sliceLL (List_ (wpAny_items_cons (wpAny_Constant_int (wpAny_items_cons (wpAny_Constant_int (wpAny_items_cons (wpAny_Constant_int (wpAny_items_cons (wpAny_Constant_int (wpAny_items_nil (wpAny_newList ?_)))))))))))))))
  have F0 := F
  replace F := F.push { cls := .type "list", data := .seq ([.int 9 toks, .int 0 (toks + 1), .int 2 (toks + 1 + 1), .int 9 (toks + 1 + 1 + 1)] : List Value).toArray }
  have kP : Kp h (h.push { cls := .type "list", data := .seq ([.int 9 toks, .int 0 (toks + 1), .int 2 (toks + 1 + 1), .int 9 (toks + 1 + 1 + 1)] : List Value).toArray }) := fun b o e => Heap.get?_push_of_some _ e
  have hla : Heap.IsList (h.push { cls := .type "list", data := .seq ([.int 9 toks, .int 0 (toks + 1), .int 2 (toks + 1 + 1), .int 9 (toks + 1 + 1 + 1)] : List Value).toArray }) h.objs.size ([.int 9 toks, .int 0 (toks + 1), .int 2 (toks + 1 + 1), .int 9 (toks + 1 + 1 + 1)] : List Value).toArray := ⟨_, Heap.get?_push_size _ rfl, rfl, _, rfl⟩
  have hLla : L ≠ h.objs.size := Nat.ne_of_lt F0.ns.lt
  generalize h.push { cls := .type "list", data := .seq ([.int 9 toks, .int 0 (toks + 1), .int 2 (toks + 1 + 1), .int 9 (toks + 1 + 1 + 1)] : List Value).toArray } = h1 at *
  have hd4 : RowV [9, 0, 2, 9] ([.int 9 toks, .int 0 (toks + 1), .int 2 (toks + 1 + 1), .int 9 (toks + 1 + 1 + 1)] : List Value) := .cons ⟨_, rfl⟩ (.cons ⟨_, rfl⟩ (.cons ⟨_, rfl⟩ (.cons ⟨_, rfl⟩ .nil)))
  generalize hdd : ([.int 9 toks, .int 0 (toks + 1), .int 2 (toks + 1 + 1), .int 9 (toks + 1 + 1 + 1)] : List Value) = dd at *
  have hdl : dd.length = 4 := by rw [← hdd]; rfl
  clear hdd
  generalize h.objs.size = la at *
  have hL1 : h1.IsList Sx vs.toArray := lst_of (kP Sx) hL
  refine evalPart_some_step (Call_Name1 (name_B F X T (by k_is) (by boot_fast) (by decide) (PySem.callWith_builtin1 (ld F vS (len_list hL1 (by simp; omega) (evalPart_none_step ?_))))))
  refine ⟨la, dd.toArray, some ((vs.length : Nat) : Int), none, rfl, hla, by simp; omega, IsPart.int _ _, .none, fun h2 D k2 hD => ?_⟩
  rw [slicePick_from'] at hD
  have hL2 : h2.IsList Sx vs.toArray := lst_of (k2 Sx) hL1
  replace F := Frk F k2
  refine add_lists F News.nil hL2 hD (fun h3 F N => ?_) (by have : vs.length + 4 ≤ sizeLine := Nat.le_trans (by omega : vs.length + 4 ≤ 100) (by decide); simp; omega)
  have hc := (N _ (.head _)).1
  have hl3 : h3.IsList h2.objs.size (vs ++ List.drop vs.length dd.toArray.toList).toArray := ⟨_, hc, rfl, _, rfl⟩
  refine evalPart_none_step (evalPart_some_step (wpAny_Constant_int ?_))
  refine ⟨_, _, none, some ((4 : Nat) : Int), rfl, hl3, by simp; omega, .none, IsPart.int _ _, fun h4 D4 k4 hD4 => ?_⟩
  rw [slicePick_upto'] at hD4
  replace F := Frk F k4
  have hDL : D4 ≠ L := ns_not_list F.ns hD4
  refine stS F (fun h5 F s5 => ?_)
  refine fin h5 _ D4 _ F (lst_of (fun o e => (s5.2 _ hDL).trans e) hD4) ?_
  have := rowV_take 4 (rowV_app (rowV_ints hI) (rowV_drop vs.length hd4))
  unfold drawnF
  rw [← hvl]
  simpa using this
end
end Mine
end

section
open PySem PySem.W PyProof.Rows PySem.Calls
set_option Elab.async false
set_option maxRecDepth 100000
set_option maxHeartbeats 4000000
namespace Mine
variable {w : World} {mg mb : Str → Option Value} {q : Program} {lo : List Str}
theorem fill30 : (fun (_ : OpenLaw) (_ : Params → Frag) => True) PySem.Challenge.rw_uq0030_01 Kx := by k_fill; trivial
section
variable {A : Around} {E : Value → Shared → Prop} {s : Shared} {env : Env}
/-- a pair for each number -/
theorem law_typedS {g : Heap} {L D : Addr} {m : Str → Option Value} {items : Array Value} {ds : List Int} {n : Nat} {st : Stmt} {Q : Flow → Shared → Prop} (hst : some st = (fB 32)[1]?) (F : Fr g L s.heap m) (X : (Kx w.params).In g) (T : TopRead q lo mg mb g) (R : Rm (n + 1) A) (hA : A.handled = none) (hD : s.heap.IsList D items) (hd : RowV ds items.toList) (hlen : ds.length ≤ 4) (vD : m (S "drawn") = some (.ref D))
    (fin : ∀ h' tk D ys, Fr g L h' (fun y => if y = S "typed" then some (.ref D) else m y) → PlainL h' D ys → Paired (Ent h') (ds.map tEnt) ys.toList → Q .next { s with heap := h', toks := tk }) :
    wpAny (model pw w) A (exec st (envOf (S "law") (fS 32) L 346 (.ref 345))) Q E s := by
  have e : (fB 32)[1]? = some (fB 32)[1] := rfl
  rw [e] at hst
  cases hst
  obtain ⟨h, gens, drawn, toks, os⟩ := s
  (with_unfolding_all show wpAny _ _ (exec (Stmt.Assign [Expr.Name _ _] (Expr.ListComp _ [⟨Expr.Name _ _, _, [], 0⟩] _ _) _) _) _ _ _)
  refine asg_typed hA rfl rfl (by decide) rfl (by decide) (by decide) rfl rfl (ld F vD ?_)
  refine ⟨D, items, ds, g, m, rfl, hD, hd, by omega, F, ?_, ?_⟩
  · intro C s₂ m₂ E' d t hn hm kp
    have G2 : Gd w q lo mg mb s₂.heap := Gd.keeps (Gd.keeps ⟨X, T⟩ F.keep) kp
    refine Call_ (ldG G2.X G2.T (by k_is) (PyProof.Rows.callWith_def (o := o_300 w.params) rfl (wpAny_items_cons (ldV hn hm (wpAny_items_nil (⟨G2.X _ _ rfl, ?_⟩))))))
    exact typed (E := E') G2 R
  · intro D' h' tk ys F' _ hP hR
    exact fin h' tk D' ys F' hP (typs_ents hR)
end
end Mine
end

section
open PySem PySem.W PyProof.Rows PySem.Calls
set_option Elab.async false
set_option maxRecDepth 100000
set_option maxHeartbeats 4000000
namespace Mine
variable {w : World} {mg mb : Str → Option Value} {q : Program} {lo : List Str}
theorem fill31 : (fun (_ : OpenLaw) (_ : Params → Frag) => True) PySem.Challenge.rw_uq0030_01 Kx := by k_fill; trivial
section
variable {A : Around} {E : Value → Shared → Prop} {s : Shared} {env : Env}
theorem law_name {g : Heap} {L D : Addr} {m : Str → Option Value} {ys : Array Value} {ds : List Int} {n : Nat} {st : Stmt} {Q : Flow → Shared → Prop} (hst : some st = (fB 32)[2]?) (F : Fr g L s.heap m) (X : (Kx w.params).In g) (T : TopRead q lo mg mb g) (R : Rm (n + 2) A) (hA : A.handled = none) (hD : PlainL s.heap D ys) (hd : Paired (Ent s.heap) (ds.map tEnt) ys.toList) (hlen : ds.length ≤ 4) (vD : m (S "typed") = some (.ref D))
    (fin : ∀ h' tk t, Fr g L h' (fun y => if y = S "name" then some (.str (ws (meansF ds)) t) else m y) → PlainL h' D ys → Paired (Ent h') (ds.map tEnt) ys.toList → Q .next { s with heap := h', toks := tk }) :
    wpAny (model pw w) A (exec st (envOf (S "law") (fS 32) L 346 (.ref 345))) Q E s := by
  have e : (fB 32)[2]? = some (fB 32)[2] := rfl
  rw [e] at hst
  cases hst
  obtain ⟨h, gens, drawn, toks, os⟩ := s
  have hyl := paired_len hd
  rw [List.length_map] at hyl
  have hsz : ys.size ≤ 4 := by simp at hyl; omega
  (with_unfolding_all show wpAny _ _ (exec (Stmt.Assign [Expr.Name _ _] (Expr.Call _ _ _ _) _) _) _ _ _)
  refine wpAny_Assign_Name (Call_ (name_K F X T (by k_is) (PyProof.Rows.callWith_def (o := o_305 w.params) rfl (wpAny_items_cons (joinC (by rfl) (by rfl) ?_)))))
  refine comp_pairs hA (fun e y => ∃ t, y = .str (ws e.1) t) (by decide) (by decide) rfl (by decide) (by decide) (by decide) ?_
  refine ld F vD ⟨D, ys, _, rfl, hD.isList, by omega, hd, ?_, ?_⟩
  · intro C m₃ s₃ E' e t u hn _ ha
    refine wpAny_Name (wpAny_loadName_local rfl (by rfl) hn (ha (by decide)) ?_) (by decide)
    exact ⟨⟨_, rfl⟩, _, _, rfl, fun b o e => e⟩
  · intro D' h' tk zs nD hD' hp kp
    have hst := strs_sel (f := signF) (sel := fun e => e.1) (fun _ => rfl) hp
    refine ⟨D', zs, _, rfl, hD'.isList, hst, ?_, fun t' k => ?_⟩
    · have := sum_len sign_len ds
      rw [List.length_map, List.length_map]
      show _ + _ * 0 ≤ _
      omega
    rw [join_ws]
    replace F := Frk F kp
    refine wpAny_items_nil (⟨F.keep _ _ (X _ _ rfl), ?_⟩)
    refine wpAny_mono (folded (E := E) (x := signsF ds) (Gd.keeps ⟨X, T⟩ F.keep) R hA (by have := flat_len sign_len ds; show (signsF ds).length ≤ 100; unfold signsF; omega) (signs_sg ds)) (fun v s' hv => ?_) fun _ _ e => e
    obtain ⟨⟨t2, rfl⟩, h2, tk2, rfl, k2⟩ := hv
    rw [fold_signs]
    replace F := Frk F k2
    have nt := ns_not_tuple F.ns
    have hDL : D ≠ L := ns_not_list F.ns ((hD.keeps kp).keeps k2).isList
    refine stS F (fun h3 F s3 => ?_)
    exact fin h3 _ t2 F (((hD.keeps kp).keeps k2).extBut s3.extBut hDL) (hd.mono fun _ _ z => by
      obtain ⟨T', t, u, rfl, hT⟩ := (z.keeps kp).keeps k2
      exact ⟨T', t, u, rfl, by obtain ⟨o, a, r⟩ := id hT; exact ⟨o, s3.extBut _ _ (nt _ _ hT) a, r⟩⟩)
end
end Mine
end

section
open PySem PySem.W PyProof.Rows PySem.Calls
set_option Elab.async false
set_option maxRecDepth 100000
set_option maxHeartbeats 4000000
namespace Mine
variable {w : World} {mg mb : Str → Option Value} {q : Program} {lo : List Str}
theorem fill32 : (fun (_ : OpenLaw) (_ : Params → Frag) => True) PySem.Challenge.rw_uq0030_01 Kx := by k_fill; trivial
section
variable {A : Around} {E : Value → Shared → Prop} {s : Shared} {env : Env}
theorem law_plain {g : Heap} {L D : Addr} {m : Str → Option Value} {ys : Array Value} {ds : List Int} {st : Stmt} {Q : Flow → Shared → Prop} (hst : some st = (fB 32)[3]?) (F : Fr g L s.heap m) (hA : A.handled = none) (hD : PlainL s.heap D ys) (hd : Paired (Ent s.heap) (ds.map tEnt) ys.toList) (hlen : ds.length ≤ 4) (vD : m (S "typed") = some (.ref D))
    (fin : ∀ h' tk t, Fr g L h' (fun y => if y = S "plain" then some (.str (ws (meansF ds)) t) else m y) → Q .next { s with heap := h', toks := tk }) :
    wpAny (model pw w) A (exec st (envOf (S "law") (fS 32) L 346 (.ref 345))) Q E s := by
  have e : (fB 32)[3]? = some (fB 32)[3] := rfl
  rw [e] at hst
  cases hst
  obtain ⟨h, gens, drawn, toks, os⟩ := s
  have hyl := paired_len hd
  rw [List.length_map] at hyl
  have hsz : ys.size ≤ 4 := by simp at hyl; omega
  (with_unfolding_all show wpAny _ _ (exec (Stmt.Assign [Expr.Name _ _] (Expr.Call _ _ _ _) _) _) _ _ _)
  refine wpAny_Assign_Name (joinC (by rfl) (by rfl) ?_)
  refine comp_pairs hA (fun e y => ∃ t, y = .str (ws e.2) t) (by decide) (by decide) rfl (by decide) (by decide) (by decide) ?_
  refine ld F vD ⟨D, ys, _, rfl, hD.isList, by omega, hd, ?_, ?_⟩
  · intro C m₃ s₃ E' e t u hn hb _
    refine wpAny_Name (wpAny_loadName_local rfl (by rfl) hn hb ?_) (by decide)
    exact ⟨⟨_, rfl⟩, _, _, rfl, fun b o e => e⟩
  · intro D' h' tk zs nD hD' hp kp
    have hst := strs_sel (f := meanF) (sel := fun e => e.2) (fun _ => rfl) hp
    refine ⟨D', zs, _, rfl, hD'.isList, hst, ?_, fun t' k => ?_⟩
    · have := sum_len mean_len ds
      rw [List.length_map, List.length_map]
      show _ + _ * 0 ≤ _
      omega
    rw [join_ws]
    replace F := Frk F kp
    refine stS F (fun h3 F s3 => ?_)
    exact fin h3 _ t' F
theorem sum_any {Sx : Addr} {vs : List Value} {ns : List Int} {Q : Value → Shared → Prop} (hA : A.handled = none) (hL : s.heap.IsList Sx vs.toArray) (hI : IntsAre vs ns) (h : ∀ h' tk (k : Int) t, Kp s.heap h' → Q (.int k t) { s with heap := h', toks := tk }) :
    wpAny (model pw w) A (call (.builtin "sum") [.ref Sx]) Q E s := by
  refine call_sum_walkAnyS (wpAny_pyIter_list hL ?_)
  have hne : Sx ≠ s.heap.objs.size := by obtain ⟨o, ho, _⟩ := hL; exact Nat.ne_of_lt (Heap.lt_size ho)
  refine ⟨s.heap.objs.size, _, _, _, _, _, _, fun i => ns.getD i 0, rfl, (Walks.list (A := A.in1) hA s.heap.objs.size Sx hne vs.toArray).toS, ⟨⟨_, Heap.get?_push_size _ rfl, rfl, rfl⟩, hL.push _⟩, ?_, ?_, ?_⟩
  · intro b hb
    obtain ⟨o, ho, _⟩ := hL
    have h1 := Heap.lt_size ho
    have : b = s.heap.objs.size ∨ b = Sx := by simpa using hb
    show b < (s.heap.push _).objs.size
    rw [Heap.size_push]
    rcases this with rfl | rfl
    · exact Nat.lt_succ_self _
    · exact Nat.lt_succ_of_lt h1
  · intro i v hv
    have hv' : vs[i]? = some v := by rw [← List.getElem?_toArray]; exact hv
    obtain ⟨n, t, e, hn⟩ := hI.at i v hv'
    exact ⟨t, by show v = .int (ns.getD i 0) t; rw [e, List.getD_eq_getElem?_getD, hn]; rfl⟩
  · intro s' t' M
    obtain ⟨h', gens, drawn, tk, os⟩ := s'
    obtain ⟨M1, M2, M3, M4, _⟩ := M
    have M2' : gens = s.gens := M2
    have M3' : drawn = s.drawn := M3
    have M4' : os = s.os := M4
    subst M2' M3' M4'
    refine h h' tk _ t' fun b o e => M1 b o ?_ (Heap.get?_push_of_some _ e)
    have := Heap.lt_size e
    intro hb
    have hb' : b = s.heap.objs.size := by simpa using hb
    rw [hb'] at this
    exact Nat.lt_irrefl _ this
theorem law_low {g : Heap} {L Sx : Addr} {m : Str → Option Value} {vs : List Value} {ns : List Int} {x : List Nat} {tp : Tok} {n : Nat} {st : Stmt} {Q : Flow → Shared → Prop} (hst : some st = (fB 32)[5]?) (F : Fr g L s.heap m) (X : (Kx w.params).In g) (T : TopRead q lo mg mb g) (R : Rm (n + 2) A) (hA : A.handled = none) (hx : x.length ≤ 1000) (hL : s.heap.IsList Sx vs.toArray) (hI : IntsAre vs ns) (vS : m (S "script") = some (.ref Sx)) (vp : m (S "plain") = some (.str (ws x) tp))
    (fin : ∀ h' tk t (k : Nat), k < 16 → Fr g L h' (fun y => if y = S "low" then some (.str (ws (chF (x.take 4) (k : Int))) t) else m y) → Q .next { s with heap := h', toks := tk }) :
    wpAny (model pw w) A (exec st (envOf (S "law") (fS 32) L 346 (.ref 345))) Q E s := by
  have e : (fB 32)[5]? = some (fB 32)[5] := rfl
  rw [e] at hst
  cases hst
  obtain ⟨h, gens, drawn, toks, os⟩ := s
  (with_unfolding_all show wpAny _ _ (exec (Stmt.Assign [Expr.Name _ _] (Expr.Call _ _ _ _) _) _) _ _ _)
  refine wpAny_Assign_Name (Call_ (name_K F X T (by k_is) (PyProof.Rows.callWith_def (o := o_310 w.params) rfl (wpAny_items_cons (sliceT (ld F vp (wpAny_Constant_int (⟨x, tp, 4, _, rfl, rfl, hx, fun h1 t1 k1 kp => ?_⟩))))))))
  replace F := Frk F kp
  have hL1 : h1.IsList Sx vs.toArray := lst_of (kp Sx) hL
  refine wpAny_items_cons (wpAny_BinOp (wpAny_BinOp (wpAny_Constant_int (Call_Name1 (name_B F X T (by k_is) (by boot_fast) (by decide) (PySem.callWith_builtin1 (ld F vS (sum_any hA hL1 hI (fun h2 tk2 k2 t2 kp2 => ?_)))))))))
  replace F := Frk F kp2
  refine P.add_int (wpAny_Constant_int (mod_int' (by decide) ?_))
  have h0 : 0 ≤ (1 + k2 : Int).fmod 16 := Int.fmod_nonneg_of_pos _ (by decide)
  have h16 : (1 + k2 : Int).fmod 16 < 16 := Int.fmod_lt_of_pos _ (by decide)
  obtain ⟨j, hj⟩ : ∃ j : Nat, (1 + k2 : Int).fmod 16 = (j : Int) := ⟨((1 + k2 : Int).fmod 16).toNat, by omega⟩
  rw [hj] at h16 ⊢
  refine wpAny_items_nil (⟨F.keep _ _ (X _ _ rfl), ?_⟩)
  refine wpAny_mono (choice (E := E) (x := x.take 4) (Gd.keeps ⟨X, T⟩ F.keep) R hA (by rw [List.length_take]; omega) (by omega) (by omega)) (fun v s' hv => ?_) fun _ _ e => e
  obtain ⟨⟨t3, rfl⟩, h3, tk3, rfl, k3⟩ := hv
  replace F := Frk F k3
  refine stS F (fun h4 F s4 => ?_)
  exact fin h4 _ t3 j (by omega) F
end
end Mine
end

section
open PySem PySem.W PyProof.Rows PySem.Calls
set_option Elab.async false
set_option maxRecDepth 100000
set_option maxHeartbeats 4000000
namespace Mine
variable {w : World} {mg mb : Str → Option Value} {q : Program} {lo : List Str}
theorem fill33 : (fun (_ : OpenLaw) (_ : Params → Frag) => True) PySem.Challenge.rw_uq0030_01 Kx := by k_fill; trivial
noncomputable def PlainLaw : Prop := ∀ (x : List Nat) (k : Nat), SafeL x → k < 16 → numF (rowF x (chF x (k : Int))) = some (dueF x (chF x (k : Int))) ∧
  ∀ wd ∈ dueW (wordsF x (2 ^ x.length)) (x.length + 1), leftF (chF x (k : Int)) wd = [] → (valF (chF x (k : Int)) wd).natAbs ≤ 9
section
variable {A : Around} {E : Value → Shared → Prop} {s : Shared} {env : Env}
theorem law_run {n : Nat} {Sx : Addr} {vs : List Value} {ns : List Int} (PLw : PlainLaw) (G : Gd w q lo mg mb s.heap) (B : BMain mg s.heap) (h319 : s.heap.get? 319 = some (tabObj #[])) (h326 : s.heap.get? 326 = some (tabObj #[])) (R : Rm (n + 7) A) (hA : A.handled = none)
    (hL : s.heap.IsList Sx vs.toArray) (hI : IntsAre vs ns) (hlen : ns.length ≤ 63) :
    wpAny (model pw w) A (call (.ref 346) [.ref Sx]) (fun v s' => v = .bool true ∧ Lw s s') E s := by
  refine enter (f := 346) (name := S "law") (qual := S "law") (params := fA 32) (body := fB 32) (scope := fS 32) (binds := [(S "script", .ref Sx)]) G R rfl rfl (BindsTo.of_eq rfl) (locs rfl) ?_ rfl rfl rfl (by decide)
  intro L h₁ A' F N X T R' hh
  replace hh := hh.trans hA
  have hL1 : L ≠ 319 := fun e => by have := Heap.lt_size h319; have := F.above; subst e; exact absurd (Nat.lt_of_lt_of_le ‹319 < _› ‹_›) (Nat.lt_irrefl _)
  have hL2 : L ≠ 326 := fun e => by have := Heap.lt_size h326; have := F.above; subst e; exact absurd (Nat.lt_of_lt_of_le ‹326 < _› ‹_›) (Nat.lt_irrefl _)
  have hdl := drawn_len ns
  (with_unfolding_all show wpAny _ _ (execs (_ :: _) _) _ _ _)
  refine wpAny_execs_cons (law_drawn rfl F X T (lst_of (F.keep Sx) hL) hI hlen rfl (fun h2 tk2 D items F hD hd => ?_))
  refine wpAny_execs_cons (law_typedS rfl F X T (R'.le (by omega : n + 1 ≤ n + 6)) hh hD hd hdl rfl (fun h3 tk3 D3 ys F hP hE => ?_))
  refine wpAny_execs_cons (law_name rfl F X T (R'.le (by omega : n + 2 ≤ n + 6)) hh hP hE hdl rfl (fun h4 tk4 t4 F hP hE => ?_))
  refine wpAny_execs_cons (law_plain rfl F hh hP hE hdl rfl (fun h5 tk5 t5 F => ?_))
  refine wpAny_execs_cons (wpAny_If (wpAny_isTrue_Compare1 (ld F rfl (ld F rfl (PyProof.Rows.ne_str (wpAny_truthy_bool ?_))))))
  rw [if_neg (by simp)]
  refine wpAny_execs_nil ?_
  have hx : (meansF (drawnF ns)).length ≤ 1000 := by have := flat_len mean_len (drawnF ns); unfold meansF; omega
  refine wpAny_execs_cons (law_low rfl F X T (R'.le (by omega : n + 2 ≤ n + 6)) hh hx (lst_of (F.keep Sx) hL) hI rfl rfl (fun h6 tk6 t6 k hk F => ?_))
  have hsafe := means_safe (drawnF ns)
  obtain ⟨p1, p2⟩ := PLw _ k hsafe hk
  have Gh := Gd.hid ⟨X, T⟩
  have Bh : BMain mg (hid s.heap) := B.hid (fun o e => by rw [h319] at e; cases e; rfl) (fun o e => by rw [h326] at e; cases e; rfl)
  have Fh : Fr (hid s.heap) L h6 _ := ⟨F.ns, fun b o e => F.keep b o (hid_of b o e), by rw [hid_size]; exact F.above⟩
  refine wpAny_mono (law_ret (E := fun _ _ => False) Fh Gh.X Gh.T Bh (hid_none (.inl rfl)) (hid_none (.inr rfl)) (F.keep _ _ h319) (F.keep _ _ h326) hL1 hL2 R' hh hx hsafe (chF_safe hsafe _) rfl rfl rfl p1 p2) (fun fl s' hv => ?_) fun _ _ e => e
  obtain ⟨hv, h', tk', rfl, kp, t1, t2⟩ := hv
  refine ⟨?_, h', tk', rfl, fun b o b1 b2 e => kp b o b1 b2 (F.keep b o e), t1, t2⟩
  cases fl <;> exact hv
end
end Mine
end

section
open PySem PySem.W
set_option Elab.async false
set_option maxRecDepth 100000
namespace Mine
/-- the words over the three letters -/
noncomputable def wordN : Nat → List (List Nat)
  | 0 => [[]]
  | n + 1 => (wordN n).flatMap fun x => [102 :: x, 105 :: x, 108 :: x]
theorem wordN_mem : ∀ (x : List Nat), FIL x → x ∈ wordN x.length
  | [], _ => .head _
  | c :: x, h => by
    have ih := wordN_mem x fun d hd => h d (.tail _ hd)
    refine List.mem_flatMap.mpr ⟨x, ih, ?_⟩
    rcases h c (.head _) with rfl | rfl | rfl <;> simp
theorem words_mono {x z : List Nat} {n : Nat} (h : z ∈ wordsF x n) : z ∈ wordsF x (n + 1) := by
  rw [wordsF_succ]; unfold wordStep; split
  · exact h
  · exact List.mem_append_left _ h
theorem words_mem {x : List Nat} : ∀ {n k : Nat}, k < n → chF x (k : Int) ∈ wordsF x n
  | n + 1, k, h => by
    rcases Nat.lt_succ_iff_lt_or_eq.mp h with h | rfl
    · exact words_mono (words_mem h)
    · rw [wordsF_succ]; unfold wordStep; split
      · rename_i e
        obtain ⟨z, hz, e⟩ := List.any_eq_true.mp e
        rw [← eq_of_beq e]; exact hz
      · exact List.mem_append_right _ (.head _)
theorem num_bound {W : List (List Nat)} : ∀ (V : List (List Nat)) (st : Option (List (List Nat × Int))) (res : List (List Nat × Int)), (∀ r, st = some r → ∀ e ∈ r, e.2.natAbs ≤ 9) → V.foldl (numStep W) st = some res → ∀ e ∈ res, e.2.natAbs ≤ 9
  | [], st, res, h, e => h res e
  | v :: V, st, res, h, e => by
    refine num_bound V (numStep W st v) res (fun r hr => ?_) e
    unfold numStep at hr
    cases st with
    | none => cases hr
    | some ents =>
      simp only [Option.bind_some] at hr
      cases hb : belF ents v (W.take (cutN W v)) with
      | none => rw [hb] at hr; cases hr
      | some b =>
        rw [hb] at hr
        simp only [Option.bind_some] at hr
        by_cases h9 : (if v = W.headD [] then (1 : Int) else -b).natAbs ≤ 9
        · rw [if_pos h9] at hr
          cases hr
          intro e he
          rcases List.mem_append.mp he with he | he
          · exact h ents rfl e he
          · have : e = (v, if v = W.headD [] then (1 : Int) else -b) := by simpa using he
            rw [this]; exact h9
        · rw [if_neg h9] at hr; cases hr
theorem due_keep {y : List Nat} : ∀ (V : List (List Nat)) (acc : List (List Nat × Int)) {e}, e ∈ acc → e ∈ V.foldl (dueStep y) acc
  | [], _, _, h => h
  | v :: V, acc, _, h => by
    refine due_keep V _ ?_
    unfold dueStep; split
    · exact List.mem_append_left _ h
    · exact h
theorem due_mem {y : List Nat} : ∀ (V : List (List Nat)) (acc : List (List Nat × Int)) {wd : List Nat}, wd ∈ V → leftF y wd = [] → (wd, valF y wd) ∈ V.foldl (dueStep y) acc
  | v :: V, acc, wd, h, hl => by
    cases h with
    | head =>
      refine due_keep V _ ?_
      unfold dueStep; rw [if_pos hl]; exact List.mem_append_right _ (.head _)
    | tail _ h => exact due_mem V _ h hl
/-! the plain law without great letters -/
theorem low_fil : ∀ (z : List Nat), FIL z → lowL z = z
  | [], _ => rfl
  | c :: z, h => by
    have ih := low_fil z (fun x hx => h x (.tail _ hx))
    have hc := h c (.head _)
    unfold lowL at ih ⊢
    rcases hc with rfl | rfl | rfl <;> exact congrArg (List.cons _) ih
theorem low_up : ∀ (z : List Nat), FIL z → lowL (upL z) = z
  | [], _ => rfl
  | c :: z, h => by
    have ih := low_up z (fun x hx => h x (.tail _ hx))
    have hc := h c (.head _)
    unfold lowL upL at ih ⊢
    rcases hc with rfl | rfl | rfl <;> exact congrArg (List.cons _) ih
theorem piece_low {x : List Nat} (h : SafeL x) (k : Nat) : lowL (pieceF x k) = chF x k := by
  unfold pieceF; split
  · exact low_up _ (chF_safe h k).2
  · exact low_fil _ (chF_safe h k).2
theorem piece_fold {x : List Nat} (h : SafeL x) (k : Nat) : foldF (pieceF x k) = chF x k := by
  unfold pieceF; split
  · exact fold_up _ (chF_safe h k).2
  · exact fold_fil _ (chF_safe h k).2
noncomputable def rowQ (y : List Nat) (W : List (List Nat)) (p : List Nat) : List (List Nat) := if hidF y p then insortF W p else W
noncomputable def rowP (x y : List Nat) : List (List Nat) := (wordsF x (2 ^ x.length)).foldl (rowQ y) []
theorem pieces_words {x : List Nat} (h : SafeL x) : ∀ n, (piecesF x n).map (fun e => foldF e.1) = wordsF x n
  | 0 => rfl
  | n + 1 => by
    have ih := pieces_words h n
    rw [piecesF_succ, wordsF_succ]
    have e : (lookE (pieceF x n) (piecesF x n)).isNone = !((wordsF x n).any fun z => z == chF x n) := by
      rw [← ih, List.any_map]
      unfold lookE
      rw [Option.isNone_map, piece_low h]
      rw [← Option.not_isSome]
      congr 1
      rw [Bool.eq_iff_iff, List.find?_isSome, List.any_eq_true]
      refine exists_congr fun e => and_congr_right fun he => ?_
      obtain ⟨k, rfl⟩ := pieces_mem n he
      show (lowL (pieceF x k) == _) = true ↔ (foldF (pieceF x k) == _) = true
      rw [piece_low h, piece_fold h]
    unfold setE wordStep
    rw [e]
    cases (wordsF x n).any fun z => z == chF x n with
    | true => exact ih
    | false =>
      simp only [Bool.not_false, if_true, Bool.false_eq_true, if_false, List.map_append, List.map_cons, List.map_nil]
      rw [ih, piece_fold h]
theorem row_plain {x : List Nat} (h : SafeL x) (y : List Nat) : rowF x y = rowP x y := by
  unfold rowF rowFold rowP
  rw [← pieces_words h, List.foldl_map, List.foldl_map]
  rfl
noncomputable def lookP (x : List Nat) (e : List (List Nat × Int)) : Option Int := (e.find? fun e => e.1 == x).map (·.2)
noncomputable def belQ (ents : List (List Nat × Int)) (word : List Nat) (acc : Option Int) (o : List Nat) : Option Int := acc.bind fun b => if hidF o word then (lookP o ents).map (b + ·) else some b
noncomputable def belP (ents : List (List Nat × Int)) (word : List Nat) (others : List (List Nat)) : Option Int := others.foldl (belQ ents word) (some 0)
noncomputable def numQ2 (W : List (List Nat)) (st : Option (List (List Nat × Int))) (word : List Nat) : Option (List (List Nat × Int)) :=
  st.bind fun ents => (belP ents word (W.take (cutN W word))).bind fun b => if (if word = W.headD [] then 1 else -b).natAbs ≤ 9 then some (ents ++ [(word, if word = W.headD [] then 1 else -b)]) else none
noncomputable def numP (W : List (List Nat)) : Option (List (List Nat × Int)) := W.foldl (numQ2 W) (some [])
theorem find_congr {α : Type} {p r : α → Bool} : ∀ {l : List α}, (∀ a ∈ l, p a = r a) → l.find? p = l.find? r
  | [], _ => rfl
  | a :: l, h => by
    rw [List.find?_cons, List.find?_cons, h a (.head _), find_congr fun b hb => h b (.tail _ hb)]
theorem look_plain {o : List Nat} (ho : FIL o) {ents : List (List Nat × Int)} (he : ∀ e ∈ ents, FIL e.1) : lookI (upL o) ents = lookP o ents := by
  unfold lookI lookP
  rw [find_congr fun e h => ?_]
  show (lowL e.1 == lowL (upL o)) = (e.1 == o)
  rw [low_fil _ (he e h), low_up _ ho]
theorem bel_plain {ents : List (List Nat × Int)} (he : ∀ e ∈ ents, FIL e.1) (word : List Nat) : ∀ (l : List (List Nat)) (b : Option Int), (∀ z ∈ l, FIL z) → l.foldl (belStep ents word) b = l.foldl (belQ ents word) b
  | [], _, _ => rfl
  | o :: l, b, h => by
    rw [List.foldl_cons, List.foldl_cons, show belStep ents word b o = belQ ents word b o by unfold belStep belQ; rw [look_plain (h o (.head _)) he]]
    exact bel_plain he word l _ fun z hz => h z (.tail _ hz)
theorem num_plain' {W : List (List Nat)} (hW : ∀ z ∈ W, FIL z) : ∀ (V : List (List Nat)) (st : Option (List (List Nat × Int))), (∀ z ∈ V, FIL z) → (∀ r, st = some r → ∀ e ∈ r, FIL e.1) → V.foldl (numStep W) st = V.foldl (numQ2 W) st
  | [], _, _, _ => rfl
  | v :: V, st, hV, hs => by
    have e : numStep W st v = numQ2 W st v := by
      unfold numStep numQ2
      cases st with
      | none => rfl
      | some r =>
        simp only [Option.bind_some]
        unfold belF belP
        rw [bel_plain (hs r rfl) v _ _ fun z hz => hW z (List.mem_of_mem_take hz)]
    rw [List.foldl_cons, List.foldl_cons, e]
    refine num_plain' hW V _ (fun z hz => hV z (.tail _ hz)) fun r hr => ?_
    unfold numQ2 at hr
    cases st with
    | none => cases hr
    | some r0 =>
      simp only [Option.bind_some] at hr
      cases hb : belP r0 v (W.take (cutN W v)) with
      | none => rw [hb] at hr; cases hr
      | some b =>
        rw [hb] at hr
        simp only [Option.bind_some] at hr
        generalize (if v = W.headD [] then (1 : Int) else -b) = n at hr
        split at hr
        · cases hr
          intro e he
          rcases List.mem_append.mp he with he | he
          · exact hs r0 rfl e he
          · cases List.mem_singleton.mp he; exact hV v (.head _)
        · cases hr
theorem num_plain {W : List (List Nat)} (hW : ∀ z ∈ W, FIL z) : numF W = numP W := num_plain' hW W _ hW fun r hr e he => by cases hr; cases he
theorem rowP_fil {x : List Nat} (h : SafeL x) (y : List Nat) : ∀ z ∈ rowP x y, FIL z := by
  have key : ∀ (l V : List (List Nat)), (∀ z ∈ l, FIL z) → (∀ z ∈ V, FIL z) → ∀ z ∈ l.foldl (rowQ y) V, FIL z := by
    intro l
    induction l with
    | nil => intro V _ hV; exact hV
    | cons p l ih =>
      intro V hl hV
      refine ih _ (fun z hz => hl z (.tail _ hz)) fun z hz => ?_
      unfold rowQ at hz
      split at hz
      · unfold insortF insW at hz
        rcases List.mem_append.mp hz with hz | hz
        · exact hV z (List.mem_of_mem_take hz)
        · rcases List.mem_cons.mp hz with rfl | hz
          · exact hl _ (.head _)
          · exact hV z (List.mem_of_mem_drop hz)
      · exact hV z hz
  exact key _ _ (fun z hz => ((words_ok h _).2 z hz).2) fun z hz => by cases hz
/-! letters under another name -/
section
variable {f : Nat → Nat}
/-- a word's letters under another name, and an entry's -/
noncomputable def rnE (f : Nat → Nat) (e : List Nat × Int) : List Nat × Int := (e.1.map f, e.2)
theorem rn_eq (hf : ∀ a b, f a = f b → a = b) {x y : List Nat} : x.map f = y.map f ↔ x = y := List.map_inj_right hf
theorem rn_beq (hf : ∀ a b, f a = f b → a = b) (x y : List Nat) : (x.map f == y.map f) = (x == y) := by
  rw [Bool.eq_iff_iff, beq_iff_eq, beq_iff_eq, rn_eq hf]
theorem rn_get (h0 : f 0 = 0) (x : List Nat) (i : Nat) : (x.map f).getD i 0 = f (x.getD i 0) := by
  rw [List.getD_eq_getElem?_getD, List.getD_eq_getElem?_getD, List.getElem?_map]
  cases x[i]? with
  | none => exact h0.symm
  | some _ => rfl
theorem rn_ch (h0 : f 0 = 0) (x : List Nat) (k : Int) : chF (x.map f) k = (chF x k).map f := by
  unfold chF
  rw [List.length_map, List.map_map]
  exact List.map_congr_left fun i _ => rn_get h0 x i
theorem rn_strip (hf : ∀ a b, f a = f b → a = b) : ∀ (a b : List Nat), stripP (a.map f) (b.map f) = ((stripP a b).1.map f, (stripP a b).2.map f)
  | [], b => by rw [List.map_nil, stripP_nil, stripP_nil]; rfl
  | x :: a, [] => rfl
  | x :: a, y :: b => by
    rw [List.map_cons, List.map_cons]
    unfold stripP
    by_cases e : x = y
    · rw [if_pos e, if_pos (congrArg f e)]; exact rn_strip hf a b
    · rw [if_neg e, if_neg fun h => e (hf _ _ h)]; rfl
theorem rn_inner (hf : ∀ a b, f a = f b → a = b) (h0 : f 0 = 0) (bc : Nat) (a : List Nat) : innerStep (f bc) (a.map f) = innerStep bc a := by
  funext st k
  unfold innerStep
  rw [rn_get h0]
  by_cases e : bc = a.getD k 0
  · rw [if_pos e, if_pos (congrArg f e)]
  · rw [if_neg e, if_neg fun h => e (hf _ _ h)]
theorem rn_outer (hf : ∀ a b, f a = f b → a = b) (h0 : f 0 = 0) (a : List Nat) (c : Int) : ∀ (b : List Nat) (bi : Nat) (row : List Int) (res : Int), outerF (a.map f) c (b.map f) bi row res = outerF a c b bi row res
  | [], _, _, _ => rfl
  | bc :: b, bi, row, res => by
    have e : innerF (f bc) (a.map f) row ((bi : Int) * 2) (a.map f).length = innerF bc a row ((bi : Int) * 2) a.length := by
      unfold innerF; rw [rn_inner hf h0, List.length_map]
    rw [List.map_cons, outerF_cons, outerF_cons, e, rn_outer hf h0 a c b]
theorem rn_hid (hf : ∀ a b, f a = f b → a = b) (h0 : f 0 = 0) (l x : List Nat) : hidF (l.map f) (x.map f) = hidF l x := by
  have hg : ∀ a b c, levG (a.map f) (b.map f) c = levG a b c := fun a b c => by
    unfold levG; rw [List.length_map, List.length_map, rn_outer hf h0]
  have ht : ∀ a b c, levT (a.map f) (b.map f) c = levT a b c := fun a b c => by
    unfold levT; rw [List.length_map, List.length_map, List.isEmpty_map, List.isEmpty_map, hg, hg]
  have hl : ∀ a b c, levF (a.map f) (b.map f) c = levF a b c := fun a b c => by
    unfold levF
    rw [rn_strip hf]
    simp only [← List.map_reverse]
    rw [rn_strip hf]
    simp only [← List.map_reverse]
    rw [ht]
    by_cases e : a = b
    · rw [if_pos e, if_pos (congrArg _ e)]
    · rw [if_neg e, if_neg fun h => e ((rn_eq hf).mp h)]
  unfold hidF gapF
  rw [hl, List.length_map, List.length_map]
theorem rn_words (hf : ∀ a b, f a = f b → a = b) (h0 : f 0 = 0) (x : List Nat) : ∀ n, wordsF (x.map f) n = (wordsF x n).map (List.map f)
  | 0 => rfl
  | n + 1 => by
    rw [wordsF_succ, wordsF_succ, rn_words hf h0 x n]
    unfold wordStep
    rw [rn_ch h0, List.any_map]
    rw [show ((fun z => z == (chF x n).map f) ∘ List.map f) = fun z => z == chF x n from funext fun z => rn_beq hf z _]
    split
    · rfl
    · rw [List.map_append]; rfl
theorem rn_lens (W : List (List Nat)) : lensOf (W.map (List.map f)) = lensOf W := by
  unfold lensOf; rw [List.map_map]; exact List.map_congr_left fun z _ => List.length_map _
theorem rn_insort (W : List (List Nat)) (y : List Nat) : insortF (W.map (List.map f)) (y.map f) = (insortF W y).map (List.map f) := by
  unfold insortF insW
  rw [rn_lens, List.length_map, List.length_map, List.map_append, List.map_cons, List.map_take, List.map_drop]
theorem rn_row (hf : ∀ a b, f a = f b → a = b) (h0 : f 0 = 0) (x y : List Nat) : rowP (x.map f) (y.map f) = (rowP x y).map (List.map f) := by
  have key : ∀ (l V : List (List Nat)), (l.map (List.map f)).foldl (rowQ (y.map f)) (V.map (List.map f)) = (l.foldl (rowQ y) V).map (List.map f) := by
    intro l
    induction l with
    | nil => intro V; rfl
    | cons p l ih =>
      intro V
      rw [List.map_cons, List.foldl_cons, List.foldl_cons, ← ih]
      congr 1
      unfold rowQ
      rw [rn_hid hf h0]
      split
      · exact rn_insort V p
      · rfl
  unfold rowP
  rw [rn_words hf h0, List.length_map]
  exact key _ []
theorem rn_look (hf : ∀ a b, f a = f b → a = b) (o : List Nat) (ents : List (List Nat × Int)) : lookP (o.map f) (ents.map (rnE f)) = lookP o ents := by
  unfold lookP
  rw [List.find?_map, show ((fun e : List Nat × Int => e.1 == o.map f) ∘ rnE f) = fun e => e.1 == o from funext fun e => rn_beq hf e.1 o, Option.map_map]
  rfl
theorem rn_bel (hf : ∀ a b, f a = f b → a = b) (h0 : f 0 = 0) (ents : List (List Nat × Int)) (word : List Nat) (l : List (List Nat)) : belP (ents.map (rnE f)) (word.map f) (l.map (List.map f)) = belP ents word l := by
  unfold belP
  rw [List.foldl_map]
  congr 1
  funext acc o
  unfold belQ
  rw [rn_hid hf h0, rn_look hf]
theorem rn_num (hf : ∀ a b, f a = f b → a = b) (h0 : f 0 = 0) (W : List (List Nat)) : numP (W.map (List.map f)) = (numP W).map (List.map (rnE f)) := by
  have hh : (W.map (List.map f)).headD [] = (W.headD []).map f := by cases W <;> rfl
  have key : ∀ (V : List (List Nat)) (st : Option (List (List Nat × Int))), (V.map (List.map f)).foldl (numQ2 (W.map (List.map f))) (st.map (List.map (rnE f))) = (V.foldl (numQ2 W) st).map (List.map (rnE f)) := by
    intro V
    induction V with
    | nil => intro st; rfl
    | cons v V ih =>
      intro st
      rw [List.map_cons, List.foldl_cons, List.foldl_cons, ← ih]
      congr 1
      unfold numQ2
      cases st with
      | none => rfl
      | some ents =>
        simp only [Option.map_some, Option.bind_some]
        have hc : cutN (W.map (List.map f)) (v.map f) = cutN W v := by unfold cutN; rw [rn_lens, List.length_map, List.length_map]
        rw [hc, ← List.map_take, rn_bel hf h0, hh]
        cases belP ents v (W.take (cutN W v)) with
        | none => rfl
        | some b =>
          simp only [Option.bind_some]
          have e : (if v.map f = (W.headD []).map f then (1 : Int) else -b) = if v = W.headD [] then 1 else -b := by
            by_cases e : v = W.headD []
            · rw [if_pos e, if_pos (congrArg _ e)]
            · rw [if_neg e, if_neg fun h => e ((rn_eq hf).mp h)]
          rw [e]
          generalize (if v = W.headD [] then (1 : Int) else -b) = n
          split
          · rw [Option.map_some, List.map_append]; rfl
          · rfl
  exact key W (some [])
theorem rn_left (hf : ∀ a b, f a = f b → a = b) : ∀ (wd low : List Nat), leftF (low.map f) (wd.map f) = (leftF low wd).map f
  | [], _ => rfl
  | c :: wd, low => by
    have e : leftStep (low.map f) (f c) = (leftStep low c).map f := by
      unfold leftStep
      rw [← List.map_take, ← List.map_drop]
      by_cases e : low.take 1 = [c]
      · rw [if_pos e, if_pos (c := (low.take 1).map f = [f c]) (congrArg (List.map f) e)]
      · rw [if_neg e, if_neg (c := (low.take 1).map f = [f c]) fun h => e ((rn_eq (y := [c]) hf).mp h)]
    show leftF (leftStep (low.map f) (f c)) (wd.map f) = (leftF (leftStep low c) wd).map f
    rw [e, rn_left hf wd]
theorem rn_way (hf : ∀ a b, f a = f b → a = b) (h0 : f 0 = 0) (l x : List Nat) : wayF (l.map f) (x.map f) = wayF l x := by
  have ht : takF (l.map f) (x.map f) = takF l x := by
    funext p ways
    unfold takF
    rw [List.length_map]
    congr 1
    refine List.map_congr_left fun k _ => ?_
    rw [rn_get h0, rn_get h0]
    by_cases e : l.getD k 0 = x.getD p 0
    · rw [if_pos e, if_pos (congrArg f e)]
    · rw [if_neg e, if_neg fun h => e (hf _ _ h)]
  have hs : wayStep (l.map f) (x.map f) = wayStep l x := by
    funext ways p
    unfold wayStep
    rw [ht, rn_get h0, rn_get h0, List.length_map]
    by_cases e : 0 < p ∧ x.getD (p - 1) 0 = x.getD p 0
    · rw [if_pos e, if_pos ⟨e.1, congrArg f e.2⟩]
    · rw [if_neg e, if_neg fun h => e ⟨h.1, hf _ _ h.2⟩]
  unfold wayF wayG way0
  rw [hs, List.length_map, List.length_map]
theorem rn_due (hf : ∀ a b, f a = f b → a = b) (h0 : f 0 = 0) (x low : List Nat) : dueF (x.map f) (low.map f) = (dueF x low).map (rnE f) := by
  have hd : ∀ (W : List (List Nat)) n, dueW (W.map (List.map f)) n = (dueW W n).map (List.map f) := fun W n => by
    unfold dueW
    rw [List.map_flatMap]
    congr 1
    funext k
    rw [List.filter_map]
    congr 2
    funext z
    show ((z.map f).length == k) = _
    rw [List.length_map]
  have hv : ∀ wd, valF (low.map f) (wd.map f) = valF low wd := fun wd => by
    unfold valF; rw [rn_way hf h0, List.length_map, List.length_map]
  have key : ∀ (V : List (List Nat)) (acc : List (List Nat × Int)), (V.map (List.map f)).foldl (dueStep (low.map f)) (acc.map (rnE f)) = (V.foldl (dueStep low) acc).map (rnE f) := by
    intro V
    induction V with
    | nil => intro acc; rfl
    | cons v V ih =>
      intro acc
      rw [List.map_cons, List.foldl_cons, List.foldl_cons, ← ih]
      congr 1
      unfold dueStep
      rw [rn_left hf, hv]
      by_cases e : leftF low v = []
      · rw [if_pos e, if_pos (c := (leftF low v).map f = []) (congrArg (List.map f) e), List.map_append]; rfl
      · rw [if_neg e, if_neg (c := (leftF low v).map f = []) fun h => e (List.map_eq_nil_iff.mp h)]
  unfold dueF
  rw [rn_words hf h0, List.length_map, hd]
  exact key _ []
noncomputable def chkP (x : List Nat) : Bool := (wordsF x 16).all fun y => decide (numP (rowP x y) = some (dueF x y))
theorem rn_chk (hf : ∀ a b, f a = f b → a = b) (h0 : f 0 = 0) (x : List Nat) : chkP (x.map f) = chkP x := by
  unfold chkP
  rw [rn_words hf h0, List.all_map]
  congr 1
  funext y
  show decide (numP (rowP (x.map f) (y.map f)) = some (dueF (x.map f) (y.map f))) = _
  rw [rn_row hf h0, rn_num hf h0, rn_due hf h0]
  have hE : ∀ a b : List Nat × Int, rnE f a = rnE f b → a = b := fun a b h => by
    have h1 := congrArg Prod.fst h
    have h2 := congrArg Prod.snd h
    exact Prod.ext ((rn_eq hf).mp h1) h2
  refine decide_eq_decide.mpr ⟨fun h => ?_, fun h => by rw [h]; rfl⟩
  cases e : numP (rowP x y) with
  | none => rw [e] at h; cases h
  | some r =>
    rw [e] at h
    exact congrArg some ((List.map_inj_right hE).mp (Option.some.inj h))
end
/-- two letters change places -/
noncomputable def swp (a b c : Nat) : Nat := if c = a then b else if c = b then a else c
theorem swp_inj (a b : Nat) : ∀ c d, swp a b c = swp a b d → c = d := by
  intro c d h
  unfold swp at h
  repeat' split at h
  all_goals omega
noncomputable def prs : List (Nat × Nat) := [(102, 105), (102, 108), (105, 108), (102, 102)]
theorem swp_chk {p : Nat × Nat} (h : p ∈ prs) (x : List Nat) : chkP (x.map (swp p.1 p.2)) = chkP x := by
  refine rn_chk (swp_inj _ _) ?_ x
  revert p; decide
/-- of the words that are alike but for the letters' names, one each -/
noncomputable def one1 : List (List Nat) := [[], [102], [102, 102], [102, 105], [102, 102, 102], [102, 102, 105], [102, 105, 102], [105, 102, 102], [102, 105, 108], [102, 102, 102, 102], [102, 102, 102, 105], [102, 102, 105, 102], [102, 105, 102, 102], [105, 102, 102, 102]]
noncomputable def one2 : List (List Nat) := [[102, 102, 105, 105], [102, 105, 102, 105], [102, 105, 105, 102], [102, 102, 105, 108], [102, 105, 102, 108]]
noncomputable def one3 : List (List Nat) := [[102, 105, 108, 102], [105, 102, 102, 108], [105, 102, 108, 102], [105, 108, 102, 102]]
theorem one_chk1 : one1.all chkP = true := by decide +kernel
theorem one_chk2 : one2.all chkP = true := by decide +kernel
theorem one_chk3 : one3.all chkP = true := by decide +kernel
noncomputable def oneEach : List (List Nat) := one1 ++ (one2 ++ one3)
theorem one_chk : oneEach.all chkP = true := by unfold oneEach; rw [List.all_append, List.all_append, one_chk1, one_chk2, one_chk3]; rfl
theorem one_all : ((wordN 0 ++ wordN 1 ++ wordN 2 ++ wordN 3 ++ wordN 4).all fun x => prs.any fun p => prs.any fun r => oneEach.any fun z => (x.map (swp p.1 p.2)).map (swp r.1 r.2) == z) = true := by decide +kernel
theorem chk_all {x : List Nat} (h : SafeL x) : chkP x = true := by
  have hm : x ∈ wordN 0 ++ wordN 1 ++ wordN 2 ++ wordN 3 ++ wordN 4 := by
    have hw := wordN_mem x h.2
    have e : x.length = 0 ∨ x.length = 1 ∨ x.length = 2 ∨ x.length = 3 ∨ x.length = 4 := by have := h.1; omega
    simp only [List.mem_append]
    rcases e with e | e | e | e | e <;> rw [e] at hw <;> simp only [hw, true_or, or_true]
  obtain ⟨p, hp, h1⟩ := List.any_eq_true.mp (List.all_eq_true.mp one_all _ hm)
  obtain ⟨r, hr, h2⟩ := List.any_eq_true.mp h1
  obtain ⟨z, hz, e⟩ := List.any_eq_true.mp h2
  have e := eq_of_beq e
  have := List.all_eq_true.mp one_chk z hz
  rw [← e, swp_chk hr, swp_chk hp] at this
  exact this
theorem plain_law : PlainLaw := by
  intro x k hx hk
  have h := List.all_eq_true.mp (chk_all hx) _ (words_mem (x := x) hk)
  have e := of_decide_eq_true h
  rw [← num_plain (rowP_fil hx _), ← row_plain hx] at e
  refine ⟨e, fun wd hwd hl => ?_⟩
  exact num_bound _ (some []) _ (fun r hr e he => by cases hr; cases he) e _ (due_mem _ [] hwd hl)
end Mine
end

section
open PySem PySem.W PyProof.Rows PySem.Calls
set_option Elab.async false
set_option maxRecDepth 100000
namespace Mine
variable {w : World} {mg mb : Str → Option Value} {q : Program} {lo : List Str}
noncomputable def TabAt (mg : Str → Option Value) (h : Heap) (n : Str) : Prop := ∃ a o fd c P, mg n = some (.ref a) ∧ h.get? a = some o ∧ o.data = .func fd ∧ fd.code = .ref c ∧ h.IsCode c P #[] ∧ h.TableAt c P #[]
theorem tab_row {h : Heap} (X : (Kx w.params).In h) (hm : mg (S "_law_row") = some (.ref 324)) (t : TabAt mg h (S "_law_row")) : h.get? 319 = some (tabObj #[]) := by
  obtain ⟨a, o, fd, c, P, e1, e2, e3, e4, _, ⟨o', vs, f1, _, f3, f4⟩, f5⟩ := t
  rw [hm] at e1; cases e1
  rw [X 324 (o_324 w.params) rfl] at e2; cases e2
  cases e3
  cases e4
  rw [X 323 (o_323 w.params) rfl] at f1; cases f1
  cases f3
  cases f4
  exact f5
theorem tab_num {h : Heap} (X : (Kx w.params).In h) (hm : mg (S "_law_numbers") = some (.ref 331)) (t : TabAt mg h (S "_law_numbers")) : h.get? 326 = some (tabObj #[]) := by
  obtain ⟨a, o, fd, c, P, e1, e2, e3, e4, _, ⟨o', vs, f1, _, f3, f4⟩, f5⟩ := t
  rw [hm] at e1; cases e1
  rw [X 331 (o_331 w.params) rfl] at e2; cases e2
  cases e3
  cases e4
  rw [X 330 (o_330 w.params) rfl] at f1; cases f1
  cases f3
  cases f4
  exact f5
theorem isTab_row {h : Heap} (X : (Kx w.params).In h) : isCodeTable h 319 := ⟨323, _, _, X 323 (o_323 w.params) rfl, rfl, rfl, rfl⟩
theorem isTab_num {h : Heap} (X : (Kx w.params).In h) : isCodeTable h 326 := ⟨330, _, _, X 330 (o_330 w.params) rfl, rfl, rfl, rfl⟩
theorem tab_grew {h h' : Heap} {b : Addr} {o : Obj} {ps : Array Value} (t : isCodeTable h b) (e0 : h.get? b = some (tabObj #[])) (e : h.get? b = some o) (e' : h'.get? b = some (tabObj ps)) : asItWas h h' b o := by
  rw [e0] at e; cases e
  exact .inr (.inl ⟨t, rfl, #[], ps, rfl, by rw [e']; simp⟩)
theorem oldK_of {s s' : Shared} (X : (Kx w.params).In s.heap) (t1 : s.heap.get? 319 = some (tabObj #[])) (t2 : s.heap.get? 326 = some (tabObj #[])) (K : Lw s s') : OldK s.heap s'.heap ∧ s'.os = s.os ∧ s'.gens = s.gens := by
  obtain ⟨h', tk, rfl, k, ⟨ps, e1⟩, ⟨qs, e2⟩⟩ := K
  refine ⟨⟨fun b o e => ?_, fun b o e => ?_⟩, rfl, rfl⟩
  · by_cases b1 : b = 319
    · subst b1; exact tab_grew (isTab_row X) t1 e e1
    · by_cases b2 : b = 326
      · subst b2; exact tab_grew (isTab_num X) t2 e e2
      · exact .inl (k b o b1 b2 e)
  · by_cases b1 : b = 319
    · subst b1; exact ⟨_, e1⟩
    · by_cases b2 : b = 326
      · subst b2; exact ⟨_, e2⟩
      · exact ⟨_, k b o b1 b2 e⟩
theorem rm_caller : Rm (0 + 7) callerA := ⟨by decide, by decide⟩
theorem law_good {A : Around} {s : Shared} {Sx : Addr} {vs : List Value} {ns : List Int} {c : ClaimW} {cl : Str → Option Addr} {mean : ExcName → Option Value} {args : List WData} (X : (Kx w.params).In s.heap) (T : TopRead q lo mg mb s.heap) (B : BMain mg s.heap) (t1 : TabAt mg s.heap (S "_law_row")) (t2 : TabAt mg s.heap (S "_law_numbers"))
    (R : Rm (0 + 7) A) (hA : A.handled = none) (hL : s.heap.IsList Sx vs.toArray) (hI : IntsAre vs ns) (hlen : ns.length ≤ 63) (hg : s.gens = #[]) {fa : Addr} (hfa : mg (S "law") = some (.ref fa)) (hr : ∀ cls, c.raises args cls = false) (hp : c.post args (.bool true) args = true) :
    wpAny (model pw w) A (call (.ref fa) [.ref Sx]) (fun v s' => GoodWG c cl mean args s (.ok (.ret v)) s') (fun e s' => GoodWG c cl mean args s (.error e) s') s := by
  have m1 : mg (S "_law_row") = some (.ref 324) := mg_of (K := Kx w.params) X T.g (by kernel_rfl)
  have m2 : mg (S "_law_numbers") = some (.ref 331) := mg_of (K := Kx w.params) X T.g (by kernel_rfl)
  have m3 : mg (S "law") = some (.ref 346) := mg_of (K := Kx w.params) X T.g (by kernel_rfl)
  rw [m3] at hfa; cases hfa
  have h319 := tab_row X m1 t1
  have h326 := tab_num X m2 t2
  refine wpAny_mono (law_run plain_law ⟨X, T⟩ B h319 h326 R hA hL hI hlen) (fun v s' hv => ?_) fun _ _ e => e
  obtain ⟨rfl, K⟩ := hv
  obtain ⟨k1, k2, k3⟩ := oldK_of X h319 h326 K
  exact ⟨.inl ⟨_, _, [], rfl, hr, ReadsW.bool true, hp, fun _ => ⟨List.nodup_nil, fun _ hm => nomatch hm⟩⟩, k1, k2, .of_eq (k3.trans hg)⟩
end Mine
end

section
open PySem PySem.W PyProof.Rows
set_option Elab.async false
set_option maxRecDepth 100000
set_option maxHeartbeats 8000000
namespace Mine
theorem recs_row : ∃ d ∈ recsOf qv, d.name = S "_law_row" := by
  have h : ((recsOf qv).any fun d => d.name == S "_law_row") = true := by kernel_rfl
  obtain ⟨d, hd, e⟩ := List.any_eq_true.mp h
  exact ⟨d, hd, eq_of_beq e⟩
theorem recs_num : ∃ d ∈ recsOf qv, d.name = S "_law_numbers" := by
  have h : ((recsOf qv).any fun d => d.name == S "_law_numbers") = true := by kernel_rfl
  obtain ⟨d, hd, e⟩ := List.any_eq_true.mp h
  exact ⟨d, hd, eq_of_beq e⟩
theorem tabAt_of {mean : ExcName → Option Value} {mg mb : Str → Option Value} {h : Heap} {lo : List Str} (T : Top qv lo mean mg mb h) {n : Str} (e : ∃ d ∈ recsOf qv, d.name = n) : TabAt mg h n := by
  obtain ⟨d, hd, rfl⟩ := e
  exact T.tab d hd
/-- the look at the law's text; the kernel's work alone, in parts -/
theorem looks_said : looksOpen PySem.Challenge.rw_uq0030_01.row.prog = true := by
  unfold looksOpen
  refine look_both (look_both (look_both (look_both (look_both ?_ ?_) ?_) ?_) ?_) ?_ <;> decide +kernel
theorem part_said : PySem.Challenge.rw_uq0030_01.row.partSaid = true := by
  unfold OpenRow.partSaid
  rw [looks_said]
  decide +kernel
theorem said_row : PySem.Challenge.rw_uq0030_01.row.wellSaid = true := by
  unfold OpenRow.wellSaid
  rw [part_said]
  decide +kernel
theorem said_law : PySem.Challenge.rw_uq0030_01.wellSaid = true := by
  unfold OpenLaw.wellSaid
  rw [said_row]
  decide +kernel
end Mine
end

open Mine
set_option maxRecDepth 100000 in
set_option maxHeartbeats 8000000 in
theorem PySem.Challenge.cw_uq0030_01_holds : PySem.Challenge.rw_uq0030_01.Holds := by
  w_on
  refine holds_law said_law fun said => ?_
  refine holds_open (q := qv) (loose := loose0) (Xt := xt) (XP := XL qv []) (Yf := hk.obs) (Ya := hk.val) (YP := hk.says) (N := 40000) left hk.of hk.keeps (fun s e => xl_of s (Bool.and_eq_true_iff.mp e).1) XL.keeps (by rfl) (by rfl) (by rfl) (fun s e => recFacts_of (Bool.and_eq_true_iff.mp e).2) rfl (by first | assumption | decide +kernel) (by decide +kernel) ⟨rfl, rfl, rfl, rfl, rfl, by decide +kernel⟩ ?hw ?hc
  case hw => w_witness2
  case hc =>
    intro w s₀ s₁ mg mb G Y fa o pm cd doc dV kV ho hd hcd hD hmg hg args vals as hpre hlay hrd hwl hlo
    have KX := kIn_of Y
    refine Ground.open G ?_
    intro T B D TE TW
    wrow_args hpre hlay hrd hwl hlo
    all_goals (
      refine law_good KX (topRead_of T) T.bmain (tabAt_of T recs_row) (tabAt_of T recs_num) rm_caller rfl (by assumption) (by assumption) ?_ hg hmg (fun _ => rfl) ?_
      · omega
      · first | rfl | wrow_post)
