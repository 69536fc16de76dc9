import PyProof.Rows.All
import Wide.All
import OpenK.AllK
import Wide.FinOn
import PySem.Challenge.RW_tr0062_01
set_option Elab.async false
namespace Law62
open PySem PySem.W

section
variable {α β : Type} {p : Program} {w : World} {m₀ : Nat} {ann : Option Value} {code : Code} {B : List Frame}

theorem segGo_add {tb : String → Option Builtin} {b : Nat} : ∀ (n m : Nat) (s s' : Shared) (t t' : Thread) (r : Option (Shared × Thread)),
    segGo tb p w m₀ ann b n s t = some (s', t') → segGo tb p w m₀ ann b m s' t' = r → segGo tb p w m₀ ann b (n + m) s t = r
  | 0, m, s, s', t, t', r, h, k => by
    obtain ⟨rfl, rfl⟩ : s = s' ∧ t = t' := by simpa [segGo] using h
    rw [Nat.zero_add]; exact k
  | n + 1, m, s, s', t, t', r, h, k => by
    rw [show n + 1 + m = n + m + 1 by omega]
    unfold segGo at h ⊢
    cases he : endAt b t with
    | some f => rw [he] at h; cases h
    | none =>
      rw [he] at h
      cases hk : stepOk m₀ ann t with
      | false => rw [hk] at h; cases h
      | true =>
        rw [hk] at h
        cases hs : step (denote tb) p w s t with
        | halt o s₂ => rw [hs] at h; cases h
        | go s₂ t₂ => rw [hs] at h; exact segGo_add n m s₂ s' t₂ t' r h k

/-- one road: x, from s at q, hands on a in s' at q', by n steps, whatever stands around it -/
def Ev (p : Program) (w : World) (m₀ : Nat) (ann : Option Value) (code : Code) (B : List Frame) (n : Nat) (x : Sem α) (s : Shared) (q : Pos) (a : α) (s' : Shared) (q' : Pos) : Prop :=
  ∀ (K : α → Sem Fin) (H : Value → Sem Fin) (gd : Bool → Bool) (lv : List Value → List Value),
    segGo treeTable p w m₀ ann 1 n s ⟨x.wrap K H gd lv, code, q, B⟩ = some (s', ⟨K a, code, q', B⟩)

variable {s s₁ s₂ : Shared} {q q₁ q₂ : Pos}

theorem ev_pure (a : α) : Ev p w m₀ ann code B 0 (pure a) s q a s q := fun _ _ _ _ => rfl
theorem ev_bind {n m : Nat} {x : Sem α} {f : α → Sem β} {a : α} {b : β} (h : Ev p w m₀ ann code B n x s q a s₁ q₁) (k : Ev p w m₀ ann code B m (f a) s₁ q₁ b s₂ q₂) :
    Ev p w m₀ ann code B (n + m) (x >>= f) s q b s₂ q₂ := fun K H gd lv => by
  rw [Sem.bind_eq_wrap', Sem.wrap_wrap]
  exact segGo_add n m _ _ _ _ _ (h (fun a => (f a).wrap K H gd lv) (fun e => (Sem.raise e : Sem β).wrap K H gd lv) (fun g => gd (id g)) (fun l => lv (id l))) (k K H gd lv)
theorem ev_keep {n : Nat} {x : Sem α} {a : α} (vs : List Value) (h : Ev p w m₀ ann code B n x s q a s₁ q₁) : Ev p w m₀ ann code B n (x.keep vs) s q a s₁ q₁ := fun K H gd lv => by
  rw [Sem.keep_eq_wrap, Sem.wrap_wrap]
  exact h _ _ _ _
theorem ev_holding {n : Nat} {x : Sem α} {a : α} (vs : List Value) (h : Ev p w m₀ ann code B n x s q a s₁ q₁) : Ev p w m₀ ann code B n (holding vs x) s q a s₁ q₁ := by
  unfold PySem.holding
  split
  · exact h
  · exact ev_keep _ h
theorem ev_tryCatch {n : Nat} {x : Sem α} {a : α} {g : Value → Sem α} (h : Ev p w m₀ ann code B n x s q a s₁ q₁) : Ev p w m₀ ann code B n (x.tryCatch g) s q a s₁ q₁ := fun K H gd lv => by
  rw [Sem.tryCatch_eq_wrap, Sem.wrap_wrap]
  exact h _ _ _ _
theorem ev_onRaise {n : Nat} {x : Sem α} {a : α} {g : Value → Sem Unit} (h : Ev p w m₀ ann code B n x s q a s₁ q₁) : Ev p w m₀ ann code B n (x.onRaise g) s q a s₁ q₁ := fun K H gd lv => by
  rw [Sem.onRaise_eq_wrap, Sem.wrap_wrap]
  exact h _ _ _ _

theorem endAt_fresh {b : Nat} {k : Tok → Sem Fin} : endAt b ⟨.fresh k, code, q, B⟩ = none := by unfold endAt; cases (B.length == b) <;> rfl
theorem ev_fresh : Ev p w m₀ ann code B 1 fresh s q s.toks { s with toks := s.toks + 1 } q := fun K H gd lv => by
  obtain ⟨heap, gens, drawn, toks, os⟩ := s
  show segGo treeTable p w m₀ ann 1 1 _ ⟨.fresh fun y => K y, code, q, B⟩ = _
  unfold segGo
  rw [endAt_fresh]
  rfl
theorem ev_mkInt (i : Int) : Ev p w m₀ ann code B 1 (mkInt i) s q (.int i s.toks) { s with toks := s.toks + 1 } q := ev_bind (m := 0) ev_fresh (ev_pure _)
theorem ev_mkText (x : Str) : Ev p w m₀ ann code B 1 (mkText x) s q (.str x s.toks) { s with toks := s.toks + 1 } q := ev_bind (m := 0) ev_fresh (ev_pure _)
theorem ev_rule (t : String) : Ev p w m₀ ann code B 1 (PySem.rule t) s q () s q := fun K H gd lv => by
  obtain ⟨heap, gens, drawn, toks, os⟩ := s
  show segGo treeTable p w m₀ ann 1 1 _ ⟨.rule t fun y => K y, code, q, B⟩ = _
  unfold segGo
  rw [show endAt 1 ⟨.rule t fun y => K y, code, q, B⟩ = none by unfold endAt; cases (B.length == 1) <;> rfl]
  rfl
theorem ev_standAt (r : Pos) : Ev p w m₀ ann code B 1 (PySem.standAt r) s q () s r := fun K H gd lv => by
  obtain ⟨heap, gens, drawn, toks, os⟩ := s
  show segGo treeTable p w m₀ ann 1 1 _ ⟨.at r fun y => K y, code, q, B⟩ = _
  unfold segGo
  rw [show endAt 1 ⟨.at r fun y => K y, code, q, B⟩ = none by unfold endAt; cases (B.length == 1) <;> rfl]
  rfl
theorem ev_ask : Ev p w m₀ ann code B 1 PySem.ask s q ⟨p, w.params⟩ s q := fun K H gd lv => by
  obtain ⟨heap, gens, drawn, toks, os⟩ := s
  show segGo treeTable p w m₀ ann 1 1 _ ⟨.ask fun y => K y, code, q, B⟩ = _
  unfold segGo
  rw [show endAt 1 ⟨.ask fun y => K y, code, q, B⟩ = none by unfold endAt; cases (B.length == 1) <;> rfl]
  rfl
theorem ev_alloc (o : Obj) : Ev p w m₀ ann code B 1 (PySem.alloc o) s q s.heap.objs.size { s with heap := s.heap.push o } q := fun K H gd lv => by
  obtain ⟨heap, gens, drawn, toks, os⟩ := s
  show segGo treeTable p w m₀ ann 1 1 _ ⟨.alloc o fun y => K y, code, q, B⟩ = _
  unfold segGo
  rw [show endAt 1 ⟨.alloc o fun y => K y, code, q, B⟩ = none by unfold endAt; cases (B.length == 1) <;> rfl]
  rfl
theorem ev_loadPart {a : Addr} {o : Obj} (part : Option Value) (ho : s.heap.get? a = some o) : Ev p w m₀ ann code B 1 (PySem.loadPart a part) s q o s q := fun K H gd lv => by
  obtain ⟨heap, gens, drawn, toks, os⟩ := s
  show segGo treeTable p w m₀ ann 1 1 _ ⟨.load a part fun y => K y, code, q, B⟩ = _
  unfold segGo
  rw [show endAt 1 ⟨.load a part fun y => K y, code, q, B⟩ = none by unfold endAt; cases (B.length == 1) <;> rfl]
  show (match step (denote treeTable) p w ⟨heap, gens, drawn, toks, os⟩ ⟨.load a part fun y => K y, code, q, B⟩ with | .go s' t' => segGo treeTable p w m₀ ann 1 0 s' t' | .halt _ _ => none) = _
  have ho' : heap.get? a = some o := ho
  simp only [step, ho']
  rfl
theorem ev_load {a : Addr} {o : Obj} (ho : s.heap.get? a = some o) : Ev p w m₀ ann code B 1 (PySem.load a) s q o s q := ev_loadPart none ho
theorem ev_updatePart {a : Addr} {o : Obj} (part : Option Value) (f : Obj → Obj) (ho : s.heap.get? a = some o) (hm : m₀ ≤ a) : Ev p w m₀ ann code B 1 (PySem.updatePart a part f) s q () { s with heap := s.heap.update a f } q := fun K H gd lv => by
  obtain ⟨heap, gens, drawn, toks, os⟩ := s
  show segGo treeTable p w m₀ ann 1 1 _ ⟨.update a part f fun y => K y, code, q, B⟩ = _
  unfold segGo
  rw [show endAt 1 ⟨.update a part f fun y => K y, code, q, B⟩ = none by unfold endAt; cases (B.length == 1) <;> rfl]
  have hb : Nat.ble m₀ a = true := Nat.ble_eq_true_of_le hm
  have hok : stepOk m₀ ann ⟨.update a part f fun y => K y, code, q, B⟩ = true := by
    show (true && (Nat.ble m₀ a || a == mainNs || a == cStatics || ann == some (.ref a))) = true
    rw [hb]; rfl
  simp only [hok]
  have ho' : heap.get? a = some o := ho
  simp only [step, ho', Option.isSome_some, if_true]
  rfl
end
end Law62

namespace Law62
open PySem PySem.W

section
variable {α β : Type} {p : Program} {w : World} {m₀ : Nat} {ann : Option Value} {code : Code} {F : Frame}
variable {s s₁ s₂ : Shared} {q q₁ q₂ : Pos}

theorem hash_road (k : Int) (t : Tok) (s : Shared) (q : Pos) (p : Program) (m₀ : Nat) (ann : Option Value) (code : Code) (F : Frame) (K : Int → Sem Fin) (H : Value → Sem Fin) (gd : Bool → Bool) (lv : List Value → List Value) (w : World) :
    segGo treeTable p w m₀ ann 1 5 s ⟨(pyHash (.int k t)).wrap K H gd lv, code, q, [F]⟩ =
      some ({ s with toks := s.toks + 1 }, ⟨(pyHashByItsType.reduced (rawHash k)).wrap K H gd lv, code, q, [F]⟩) :=
  byRow2 "special-get-raises" (P := fun w => segGo treeTable p w m₀ ann 1 5 s ⟨(pyHash (.int k t)).wrap K H gd lv, code, q, [F]⟩ =
      some ({ s with toks := s.toks + 1 }, ⟨(pyHashByItsType.reduced (rawHash k)).wrap K H gd lv, code, q, [F]⟩)) (fun w => by kernel_rfl!) (fun w => by kernel_rfl!) w

theorem ev_pyHash (k : Int) (t : Tok) : Ev p w m₀ ann code [F] 5 (pyHash (.int k t)) s q (hashInt k) { s with toks := s.toks + 1 } q := fun K H gd lv => by
  rw [hash_road]
  have hr := rawHash_range k
  have e : pyHashByItsType.reduced (rawHash k) = pure (hashInt k) := by
    show (if (decide (-(2 : Int) ^ 63 ≤ rawHash k) && decide (rawHash k < 2 ^ 63)) = true then _ else _) = _
    rw [if_pos (by rw [decide_eq_true hr.1, decide_eq_true hr.2]; rfl)]
    rfl
  rw [e]
  rfl

/-- a heap with x behind pre -/
def HL (pre : List Obj) (x : Obj) (post : List Obj) (life : Life) : Heap := ⟨(pre ++ x :: post).toArray, life⟩
theorem HL_get {pre post : List Obj} {x : Obj} {life : Life} (h : x.isFreed = false) : (HL pre x post life).get? pre.length = some x := by
  unfold Heap.get? HL
  rw [List.getElem?_toArray, List.getElem?_append_right (Nat.le_refl _), Nat.sub_self]
  obtain ⟨c, d, dt, sl⟩ := x
  cases dt <;> first | rfl | cases h
theorem modify_mid {x : Obj} (f : Obj → Obj) (post : List Obj) : ∀ pre : List Obj, (pre ++ x :: post).modify pre.length f = pre ++ f x :: post
  | [] => rfl
  | y :: pre => by rw [List.length_cons, List.cons_append, List.modify_succ_cons, modify_mid f post pre, List.cons_append]
theorem HL_update {pre post : List Obj} {x : Obj} {life : Life} (f : Obj → Obj) : (HL pre x post life).update pre.length f = HL pre (f x) post life := by
  unfold Heap.update HL
  dsimp only
  rw [List.modify_toArray, modify_mid]
theorem HL_push {pre post : List Obj} {x o : Obj} {life : Life} : (HL pre x post life).push o = HL pre x (post ++ [o]) life := by
  unfold Heap.push HL
  simp
theorem HL_size {pre post : List Obj} {x : Obj} {life : Life} : (HL pre x post life).objs.size = pre.length + (post.length + 1) := by
  unfold HL
  simp

theorem ev_dictEntries {d : Addr} {o : Obj} {es : Array DictEntry} {ep : Nat} (part : Option Value) (ho : s.heap.get? d = some o) (hd : o.data = .dict es ep) :
    Ev p w m₀ ann code [F] 1 (dictEntries d part) s q es s q := by
  unfold dictEntries
  refine ev_bind (m := 0) (ev_loadPart part ho) ?_
  rw [hd]; exact ev_pure _
theorem ev_dictEpoch {d : Addr} {o : Obj} {es : Array DictEntry} {ep : Nat} (part : Option Value) (ho : s.heap.get? d = some o) (hd : o.data = .dict es ep) :
    Ev p w m₀ ann code [F] 1 (dictEpoch d part) s q ep s q := by
  unfold dictEpoch
  refine ev_bind (m := 0) (ev_loadPart part ho) ?_
  rw [hd]; exact ev_pure _

theorem no_places {es : Array DictEntry} {h : Int} (hn : ∀ e ∈ es, e.hash ≠ h) : placesWithHash es.size (fun i => es[i]?.map (·.hash)) h = [] := by
  unfold placesWithHash
  rw [List.filter_eq_nil_iff]
  intro i hi
  have hi' : i < es.size := List.mem_range.mp hi
  dsimp only
  rw [Array.getElem?_eq_getElem hi', Option.map_some]
  have := hn _ (Array.getElem_mem hi')
  simpa using this

theorem ev_dictFind {d : Addr} {o : Obj} {es : Array DictEntry} {ep : Nat} {k : Int} {t : Tok} {h : Int} (ho : s.heap.get? d = some o) (hd : o.data = .dict es ep) (hn : ∀ e ∈ es, e.hash ≠ h) :
    Ev p w m₀ ann code [F] 1 (dictFind d (.int k t) h) s q none s q := by
  unfold dictFind
  refine ev_holding _ (ev_bind (m := 0) (ev_dictEntries _ ho hd) ?_)
  dsimp only
  rw [no_places hn]
  exact ev_pure none

theorem ev_pushKey {pre post : List Obj} {es : List DictEntry} {ep : Nat} {life : Life} {gens : Array GenState} {drawn : Drawn} {toks : Nat} {os : OsState} (part : Option Value) (e : DictEntry) (hm : m₀ ≤ pre.length) (hz : es.length ≤ 1000) :
    Ev p w m₀ ann code [F] 3 (updateDictKeys pre.length (·.push e) part) ⟨HL pre (dictOf es ep) post life, gens, drawn, toks, os⟩ q () ⟨HL pre (dictOf (es ++ [e]) (ep + 1)) post life, gens, drawn, toks, os⟩ q := by
  unfold updateDictKeys
  refine ev_bind (n := 1) (m := 2) (ev_loadPart part (HL_get rfl)) ?_
  dsimp only
  refine ev_bind (n := 1) (m := 1) (ev_updatePart part _ (HL_get rfl) hm) ?_
  dsimp only
  rw [HL_update]
  have e1 : Obj.mapDictKeys (·.push e) (dictOf es ep) = dictOf (es ++ [e]) (ep + 1) := by
    show (⟨_, _, .dict (es.toArray.push e) (ep + 1), _⟩ : Obj) = ⟨_, _, .dict (es ++ [e]).toArray (ep + 1), _⟩
    simp
  rw [e1]
  unfold lookBehind
  refine ev_bind (n := 1) (m := 0) (ev_loadPart part (HL_get rfl)) ?_
  have e2 : (dictOf (es ++ [e]) (ep + 1)).data.pastItsLine = none := by
    show (if (es ++ [e]).toArray.size > sizeLine + 1 then some "dict:memory" else none) = none
    rw [if_neg]
    rw [List.size_toArray, List.length_append, List.length_singleton]
    have : sizeLine = 16777216 := rfl
    omega
  rw [e2]
  exact ev_pure ()

theorem ev_dictSet {pre post : List Obj} {es : List DictEntry} {ep : Nat} {life : Life} {gens : Array GenState} {drawn : Drawn} {toks : Nat} {os : OsState} (k : Int) (t : Tok) (v : Value) (hm : m₀ ≤ pre.length) (hz : es.length ≤ 1000)
    (hn : ∀ e ∈ es, e.hash ≠ hashInt k) :
    Ev p w m₀ ann code [F] 10 (dictSet pre.length (.int k t) v) ⟨HL pre (dictOf es ep) post life, gens, drawn, toks, os⟩ q () ⟨HL pre (dictOf (es ++ [⟨hashInt k, .int k t, v⟩]) (ep + 1)) post life, gens, drawn, toks + 1, os⟩ q := by
  unfold dictSet
  refine ev_holding _ (ev_bind (n := 5) (m := 5) (ev_pyHash k t) ?_)
  unfold dictSetHashed
  refine ev_holding _ (ev_bind (n := 1) (m := 4) (ev_dictFind (HL_get rfl) rfl (by simpa using hn)) ?_)
  exact ev_bind (n := 1) (m := 3) (ev_rule _) (ev_pushKey _ _ hm hz)

theorem ev_dictPut {pre post : List Obj} {es : List DictEntry} {ep : Nat} {life : Life} {gens : Array GenState} {drawn : Drawn} {toks : Nat} {os : OsState} (k : Int) (t : Tok) (h : Int) (v : Value) (hm : m₀ ≤ pre.length) (hz : es.length ≤ 1000)
    (hn : ∀ e ∈ es, e.hash ≠ h) :
    Ev p w m₀ ann code [F] 4 (dictPut pre.length h (.int k t) v) ⟨HL pre (dictOf es ep) post life, gens, drawn, toks, os⟩ q () ⟨HL pre (dictOf (es ++ [⟨h, .int k t, v⟩]) (ep + 1)) post life, gens, drawn, toks, os⟩ q := by
  unfold dictPut
  exact ev_bind (n := 1) (m := 3) (ev_dictFind (HL_get rfl) rfl (by simpa using hn)) (ev_pushKey _ _ hm hz)

/-- one pair of the display: an int and a text -/
def evPair (pos : Pos) (x : Int × Str) : Sem Value × Sem Value := (mkInt x.1, do let v ← mkText x.2; standAt pos; pure v)
/-- the entries that the long road makes, from token t on -/
def ents (t : Nat) : List (Int × Str) → List DictEntry
  | [] => []
  | x :: r => ⟨hashInt x.1, .int x.1 t, .str x.2 (t + 1)⟩ :: ents (t + 3) r
theorem ents_length (l : List (Int × Str)) : ∀ t, (ents t l).length = l.length := by
  induction l with
  | nil => intro t; rfl
  | cons x r ih => intro t; rw [ents, List.length_cons, ih, List.length_cons]
theorem ents_hash (l : List (Int × Str)) : ∀ t, (ents t l).map (·.hash) = l.map fun x => hashInt x.1 := by
  induction l with
  | nil => intro t; rfl
  | cons x r ih => intro t; rw [ents, List.map_cons, ih, List.map_cons]
theorem ents_append (l r : List (Int × Str)) : ∀ t, ents t (l ++ r) = ents t l ++ ents (t + 3 * l.length) r := by
  induction l with
  | nil => intro t; rfl
  | cons x l ih =>
    intro t
    rw [List.cons_append, ents, ih, ents, List.length_cons, List.cons_append]
    congr 2
    congr 1
    omega

/-- the keys are apart -/
def Apart : List (Int × Str) → Prop := fun l => (l.map fun x => hashInt x.1).Nodup

def lastP (pos : Pos) : Pos → List (Int × Str) → Pos
  | q, [] => q
  | _, _ :: r => lastP pos pos r
theorem lastP_pos (pos : Pos) : ∀ l, lastP pos pos l = pos
  | [] => rfl
  | _ :: r => lastP_pos pos r
theorem lastP_ne {pos q : Pos} {l : List (Int × Str)} (h : l ≠ []) : lastP pos q l = pos := by
  cases l with
  | nil => exact absurd rfl h
  | cons x r => exact lastP_pos pos r

theorem ev_long {pos : Pos} {pre post : List Obj} {life : Life} {gens : Array GenState} {drawn : Drawn} {os : OsState} (hm : m₀ ≤ pre.length) : ∀ (l : List (Int × Str)) (es : List DictEntry) (ep toks : Nat) (q : Pos),
    es.length + l.length ≤ 1000 → (es.map (·.hash) ++ l.map fun x => hashInt x.1).Nodup →
    Ev p w m₀ ann code [F] (13 * l.length) (forIn (l.map (evPair pos)) PUnit.unit fun (x : Sem Value × Sem Value) (_ : PUnit) => (do let kv ← x.1; let vv ← holding [kv] x.2; holding [kv, vv] (dictSet pre.length kv vv); pure (ForInStep.yield PUnit.unit) : Sem (ForInStep PUnit)))
      ⟨HL pre (dictOf es ep) post life, gens, drawn, toks, os⟩ q PUnit.unit ⟨HL pre (dictOf (es ++ ents toks l) (ep + l.length)) post life, gens, drawn, toks + 3 * l.length, os⟩ (lastP pos q l)
  | [], es, ep, toks, q, _, _ => by simpa [ents, lastP] using ev_pure _
  | x :: r, es, ep, toks, q, hz, hn => by
    rw [List.length_cons] at hz
    rw [List.map_cons, List.forIn_cons, show 13 * (x :: r).length = 13 + 13 * r.length by rw [List.length_cons]; omega]
    refine ev_bind (n := 13) (m := 13 * r.length) (a := ForInStep.yield PUnit.unit) (q₁ := pos) (s₁ := ⟨HL pre (dictOf (es ++ [⟨hashInt x.1, .int x.1 toks, .str x.2 (toks + 1)⟩]) (ep + 1)) post life, gens, drawn, toks + 3, os⟩) ?_ ?_
    · refine ev_bind (n := 1) (m := 12) (ev_mkInt _) ?_
      refine ev_bind (n := 2) (m := 10) (ev_holding _ (ev_bind (n := 1) (m := 1) (ev_mkText _) (ev_bind (n := 1) (m := 0) (ev_standAt pos) (ev_pure _)))) ?_
      refine ev_bind (n := 10) (m := 0) (ev_holding _ (ev_dictSet x.1 _ _ hm (by omega) ?_)) (ev_pure _)
      intro e he h
      rw [List.nodup_append] at hn
      exact hn.2.2 e.hash (List.mem_map_of_mem he) (hashInt x.1) (by simp) h
    · rw [show (es ++ ents toks (x :: r)) = es ++ [⟨hashInt x.1, .int x.1 toks, .str x.2 (toks + 1)⟩] ++ ents (toks + 3) r by simp [ents],
        show ep + (x :: r).length = ep + 1 + r.length by rw [List.length_cons]; omega, show toks + 3 * (x :: r).length = toks + 3 + 3 * r.length by rw [List.length_cons]; omega]
      exact ev_long hm r (es ++ [⟨hashInt x.1, .int x.1 toks, .str x.2 (toks + 1)⟩]) (ep + 1) (toks + 3) pos
        (by rw [List.length_append, List.length_singleton]; omega) (by simpa using hn)
end
end Law62

namespace Law62
open PySem PySem.W

theorem sub_dict : isSubtype (.type "dict") (.type "dict") = pure true := by kernel_rfl!
theorem look_iter : typeLookup (.type "dict") "__iter__" = pure (some (.builtin "dict.__iter__")) := by kernel_rfl!

section
variable {α β : Type} {p : Program} {w : World} {m₀ : Nat} {ann : Option Value} {code : Code} {F : Frame}
variable {s s₁ s₂ : Shared} {q q₁ q₂ : Pos}

theorem ev_eq {n n' : Nat} {x : Sem α} {a : α} {s₁' : Shared} {q₁' : Pos} (h : Ev p w m₀ ann code [F] n x s q a s₁ q₁) (hn : n = n' := by rfl) (hs : s₁ = s₁' := by rfl) (hq : q₁ = q₁' := by rfl) :
    Ev p w m₀ ann code [F] n' x s q a s₁' q₁' := by subst hn hs hq; exact h

theorem ev_subLong {pos : Pos} {L : List Obj} {life : Life} {gens : Array GenState} {drawn : Drawn} {os : OsState} (l : List (Int × Str)) (toks : Nat) (q : Pos) (hm : m₀ ≤ L.length)
    (h15 : 15 < l.length) (hz : l.length ≤ 1000) (hn : (l.map fun x => hashInt x.1).Nodup) :
    Ev p w m₀ ann code [F] (2 + 13 * l.length) (subDict (l.map (evPair pos))) ⟨⟨L.toArray, life⟩, gens, drawn, toks, os⟩ q L.length ⟨HL L (dictOf (ents toks l) l.length) [] life, gens, drawn, toks + 3 * l.length, os⟩ pos := by
  unfold subDict
  rw [show 2 + 13 * l.length = 1 + (1 + 13 * l.length) by omega]
  have e0 : (⟨L.toArray, life⟩ : Heap).objs.size = L.length := by simp
  refine ev_bind (a := L.length) (s₁ := ⟨HL L (dictOf [] 0) [] life, gens, drawn, toks, os⟩) (q₁ := q) ?_ ?_
  · have := ev_alloc (p := p) (w := w) (m₀ := m₀) (ann := ann) (code := code) (B := [F]) (s := ⟨⟨L.toArray, life⟩, gens, drawn, toks, os⟩) (q := q) { cls := .type "dict", data := .dict #[] }
    rw [e0] at this
    refine ev_eq this rfl ?_ rfl
    show (⟨Heap.push ⟨L.toArray, life⟩ _, gens, drawn, toks, os⟩ : Shared) = _
    congr 1
    show (⟨L.toArray.push _, life⟩ : Heap) = ⟨_, life⟩
    congr 1
    simp
  · refine ev_bind (m := 0) (a := ()) (q₁ := pos) (s₁ := ⟨HL L (dictOf (ents toks l) l.length) [] life, gens, drawn, toks + 3 * l.length, os⟩) (ev_holding _ ?_) (ev_pure _)
    have hlen : ¬ (l.map (evPair pos)).length ≤ 15 := by rw [List.length_map]; omega
    rw [if_neg hlen]
    refine ev_bind (n := 1) (m := 13 * l.length) (ev_rule _) ?_
    have h := ev_long (p := p) (w := w) (ann := ann) (code := code) (F := F) (pos := pos) (pre := L) (post := []) (life := life) (gens := gens) (drawn := drawn) (os := os) hm l [] 0 toks q (by simpa using hz) (by simpa using hn)
    rw [lastP_ne (by rintro rfl; simp at h15)] at h
    refine ev_bind (m := 0) (n := 13 * l.length) (a := PUnit.unit) ?_ (ev_pure _)
    simpa using h

theorem HL_last {pre post : List Obj} {x y : Obj} {life : Life} : HL pre x (post ++ [y]) life = HL (pre ++ x :: post) y [] life := by
  unfold HL; simp
theorem get_last {pre post : List Obj} {x y : Obj} {life : Life} (h : y.isFreed = false) : (HL pre x (post ++ [y]) life).get? (pre.length + (post.length + 1)) = some y := by
  rw [HL_last]
  have := HL_get (pre := pre ++ x :: post) (post := []) (life := life) h
  rwa [List.length_append, List.length_cons] at this

/-- the entries of E as the merge puts them -/
theorem ev_mergeLoop {pre post : List Obj} {E : List DictEntry} {N : Nat} {life : Life} {gens : Array GenState} {drawn : Drawn} {toks : Nat} {os : OsState} (hm : m₀ ≤ pre.length)
    (hk : ∀ e ∈ E, ∃ k t, e.key = .int k t) (f : Nat → PUnit → Sem (ForInStep PUnit))
    (hf : ∀ i, f i PUnit.unit = (do
      let some e := (← dictEntries (pre.length + (post.length + 1)))[i]? | unsupported "dict.changed-during-merge"
      holding [e.key, e.val] do
        if false = true then
          if (← dictFind pre.length e.key e.hash).isSome then PySem.rule "dict.merge.duplicate-key"; raiseNew (← newExc (.type "KeyError") [e.key])
        dictPut pre.length e.hash e.key e.val
      if (← dictEpoch (pre.length + (post.length + 1))) != N then unsupported "dict.changed-during-merge"
      pure (ForInStep.yield PUnit.unit))) : ∀ (n i : Nat) (es : List DictEntry) (ep : Nat), i + n = E.length → es.length + n ≤ 1000 → (es.map (·.hash) ++ (E.drop i).map (·.hash)).Nodup →
    Ev p w m₀ ann code [F] (6 * n) (forIn (List.range' i n) PUnit.unit f) ⟨HL pre (dictOf es ep) (post ++ [dictOf E N]) life, gens, drawn, toks, os⟩ q PUnit.unit
      ⟨HL pre (dictOf (es ++ E.drop i) (ep + n)) (post ++ [dictOf E N]) life, gens, drawn, toks, os⟩ q
  | 0, i, es, ep, hi, _, _ => by
    rw [List.drop_of_length_le (by omega)]
    simpa using ev_pure _
  | n + 1, i, es, ep, hi, hz, hn => by
    have hlt : i < E.length := by omega
    rw [List.range'_succ, List.forIn_cons, hf, show 6 * (n + 1) = 6 + 6 * n by omega]
    rw [List.drop_eq_getElem_cons hlt] at hn ⊢
    rw [List.map_cons] at hn
    obtain ⟨k, t, hkey⟩ := hk E[i] (List.getElem_mem hlt)
    refine ev_bind (n := 6) (m := 6 * n) (a := ForInStep.yield PUnit.unit) (q₁ := q) (s₁ := ⟨HL pre (dictOf (es ++ [E[i]]) (ep + 1)) (post ++ [dictOf E N]) life, gens, drawn, toks, os⟩) ?_ ?_
    · refine ev_bind (n := 1) (m := 5) (ev_dictEntries none (get_last rfl) rfl) ?_
      have e1 : E.toArray[i]? = some E[i] := by rw [List.getElem?_toArray, List.getElem?_eq_getElem hlt]
      rw [e1]
      dsimp only
      refine ev_bind (n := 4) (m := 1) (a := ()) (s₁ := ⟨HL pre (dictOf (es ++ [E[i]]) (ep + 1)) (post ++ [dictOf E N]) life, gens, drawn, toks, os⟩) (q₁ := q) (ev_holding _ ?_) ?_
      · rw [if_neg (by simp)]
        have h := ev_dictPut (p := p) (w := w) (ann := ann) (code := code) (F := F) (q := q) (pre := pre) (post := post ++ [dictOf E N]) (es := es) (ep := ep) (life := life) (gens := gens) (drawn := drawn) (toks := toks) (os := os) k t E[i].hash E[i].val hm (by omega) (by
          intro e he h
          rw [List.nodup_append] at hn
          exact hn.2.2 e.hash (List.mem_map_of_mem he) E[i].hash (by simp) h)
        rw [← hkey] at h
        exact h
      · refine ev_bind (n := 1) (m := 0) (ev_dictEpoch none (get_last rfl) rfl) ?_
        rw [if_neg (by simp)]
        exact ev_pure _
    · rw [show es ++ E[i] :: E.drop (i + 1) = (es ++ [E[i]]) ++ E.drop (i + 1) by simp, show ep + (n + 1) = ep + 1 + n by omega]
      exact ev_mergeLoop hm hk f hf n (i + 1) (es ++ [E[i]]) (ep + 1) (by omega) (by rw [List.length_append, List.length_singleton]; omega) (by simpa using hn)

theorem ev_specialIter {a : Addr} {o : Obj} (ho : s.heap.get? a = some o) (hc : o.cls = .type "dict") : Ev p w m₀ ann code [F] 1 (specialOf (.ref a) "__iter__") s q (some (.builtin "dict.__iter__")) s q := by
  unfold specialOf
  refine ev_bind (n := 1) (m := 0) (a := .type "dict") (s₁ := s) (q₁ := q) ?_ (by rw [look_iter]; exact ev_pure _)
  show Ev _ _ _ _ _ _ _ (do return (← loadPart a (some headPart)).cls) _ _ _ _ _
  refine ev_bind (n := 1) (m := 0) (ev_loadPart _ ho) ?_
  rw [hc]; exact ev_pure _
theorem ev_isDict {a : Addr} {o : Obj} (ho : s.heap.get? a = some o) (hc : o.cls = .type "dict") : Ev p w m₀ ann code [F] 1 (isInstance (.ref a) (.type "dict")) s q true s q := by
  unfold isInstance
  refine ev_bind (n := 1) (m := 0) (a := .type "dict") (s₁ := s) (q₁ := q) ?_ (by rw [sub_dict]; exact ev_pure _)
  show Ev _ _ _ _ _ _ _ (do return (← loadPart a (some headPart)).cls) _ _ _ _ _
  refine ev_bind (n := 1) (m := 0) (ev_loadPart _ ho) ?_
  rw [hc]; exact ev_pure _

theorem ev_merge {pre post : List Obj} {E es : List DictEntry} {ep N : Nat} {life : Life} {gens : Array GenState} {drawn : Drawn} {toks : Nat} {os : OsState} (hm : m₀ ≤ pre.length) (h1 : 1 < pre.length)
    (hk : ∀ e ∈ E, ∃ k t, e.key = .int k t) (hne : es ≠ []) (hz : es.length + E.length ≤ 1000) (hn : (es.map (·.hash) ++ E.map (·.hash)).Nodup) :
    Ev p w m₀ ann code [F] (5 + 6 * E.length) (mergeMapping pre.length (.ref (pre.length + (post.length + 1))) false) ⟨HL pre (dictOf es ep) (post ++ [dictOf E N]) life, gens, drawn, toks, os⟩ q ()
      ⟨HL pre (dictOf (es ++ E) (ep + E.length)) (post ++ [dictOf E N]) life, gens, drawn, toks, os⟩ q := by
  unfold mergeMapping
  rw [show 5 + 6 * E.length = 2 + (1 + (1 + (1 + 6 * E.length))) by omega]
  rw [show 2 + (1 + (1 + (1 + 6 * E.length))) = 1 + (1 + (0 + (1 + (1 + (1 + 6 * E.length))))) by omega]
  refine ev_bind (n := 1) (ev_isDict (get_last rfl) rfl) ?_
  rw [if_pos rfl]
  refine ev_bind (n := 1) (ev_specialIter (get_last rfl) rfl) ?_
  refine ev_bind (n := 0) (ev_pure _) ?_
  · dsimp only
    rw [show ((some (Value.builtin "dict.__iter__") == some (Value.builtin "dict.__iter__")) = true) from by rw [beq_iff_eq]]
    dsimp only
    rw [if_neg (by rw [beq_iff_eq]; show ¬ (pre.length + (post.length + 1) = 1); omega)]
    refine ev_bind (n := 1) (ev_dictEntries none (HL_get rfl) rfl) ?_
    rw [if_neg (by simpa using hne)]
    refine ev_bind (n := 1) (ev_dictEntries none (get_last rfl) rfl) ?_
    refine ev_bind (n := 1) (ev_dictEpoch none (get_last rfl) rfl) ?_
    rw [List.size_toArray, List.range_eq_range']
    refine ev_bind (m := 0) (n := 6 * E.length) (a := PUnit.unit) (q₁ := q) (s₁ := ⟨HL pre (dictOf (es ++ E) (ep + E.length)) (post ++ [dictOf E N]) life, gens, drawn, toks, os⟩) ?_ (ev_pure _)
    exact ev_mergeLoop (E := E) hm hk _ (fun i => rfl) E.length 0 es ep (by omega) hz (by simpa using hn)
end
end Law62

namespace Law62
open PySem PySem.W

section
variable {α β : Type} {p : Program} {w : World} {m₀ : Nat} {ann : Option Value} {code : Code} {F : Frame}
variable {s s₁ s₂ : Shared} {q q₁ q₂ : Pos}

def valsS (t : Nat) : List (Int × Str) → List (Value × Value)
  | [] => []
  | x :: r => (.int x.1 t, .str x.2 (t + 1)) :: valsS (t + 2) r
def entsS (t : Nat) : List (Int × Str) → List DictEntry
  | [] => []
  | x :: r => ⟨hashInt x.1, .int x.1 t, .str x.2 (t + 1)⟩ :: entsS (t + 2) r
theorem entsS_length (l : List (Int × Str)) : ∀ t, (entsS t l).length = l.length := by
  induction l with
  | nil => intro t; rfl
  | cons x r ih => intro t; rw [entsS, List.length_cons, ih, List.length_cons]
theorem entsS_hash (l : List (Int × Str)) : ∀ t, (entsS t l).map (·.hash) = l.map fun x => hashInt x.1 := by
  induction l with
  | nil => intro t; rfl
  | cons x r ih => intro t; rw [entsS, List.map_cons, ih, List.map_cons]
theorem entsS_keys (l : List (Int × Str)) : ∀ t, ∀ e ∈ entsS t l, ∃ k u, e.key = .int k u := by
  induction l with
  | nil => intro t e he; cases he
  | cons x r ih =>
    intro t e he
    rcases List.mem_cons.mp he with rfl | he
    · exact ⟨_, _, rfl⟩
    · exact ih _ e he
theorem ents_keys (l : List (Int × Str)) : ∀ t, ∀ e ∈ ents t l, ∃ k u, e.key = .int k u := by
  induction l with
  | nil => intro t e he; cases he
  | cons x r ih =>
    intro t e he
    rcases List.mem_cons.mp he with rfl | he
    · exact ⟨_, _, rfl⟩
    · exact ih _ e he

theorem ev_evalPairs {pos : Pos} : ∀ (l : List (Int × Str)) (s : Shared) (q : Pos), Ev p w m₀ ann code [F] (3 * l.length) (evalPairs (l.map (evPair pos))) s q (valsS s.toks l) { s with toks := s.toks + 2 * l.length } (lastP pos q l)
  | [], s, q => ev_pure _
  | x :: r, s, q => by
    rw [List.map_cons, show 3 * (x :: r).length = 1 + (2 + 3 * r.length) by rw [List.length_cons]; omega]
    show Ev _ _ _ _ _ _ _ (evalPairs ((mkInt x.1, do let v ← mkText x.2; standAt pos; pure v) :: r.map (evPair pos))) _ _ _ _ _
    rw [evalPairs]
    refine ev_bind (n := 1) (ev_mkInt _) ?_
    refine ev_bind (n := 2) (ev_holding _ (ev_bind (n := 1) (m := 1) (ev_mkText _) (ev_bind (n := 1) (m := 0) (ev_standAt pos) (ev_pure _)))) ?_
    refine ev_bind (m := 0) (ev_holding _ (ev_evalPairs r _ pos)) ?_
    rw [show s.toks + 2 * (x :: r).length = s.toks + 1 + 1 + 2 * r.length by rw [List.length_cons]; omega]
    exact ev_pure _

theorem ev_storeS {pre post : List Obj} {life : Life} {gens : Array GenState} {drawn : Drawn} {os : OsState} (hm : m₀ ≤ pre.length) (f : Value × Value → PUnit → Sem (ForInStep PUnit))
    (hf : ∀ x, f x PUnit.unit = (do dictSet pre.length x.1 x.2; pure (ForInStep.yield PUnit.unit))) : ∀ (l : List (Int × Str)) (t : Nat) (es : List DictEntry) (ep toks : Nat),
    es.length + l.length ≤ 1000 → (es.map (·.hash) ++ l.map fun x => hashInt x.1).Nodup →
    Ev p w m₀ ann code [F] (10 * l.length) (forIn (valsS t l) PUnit.unit f)
      ⟨HL pre (dictOf es ep) post life, gens, drawn, toks, os⟩ q PUnit.unit ⟨HL pre (dictOf (es ++ entsS t l) (ep + l.length)) post life, gens, drawn, toks + l.length, os⟩ q
  | [], t, es, ep, toks, _, _ => by simpa [entsS, valsS] using ev_pure _
  | x :: r, t, es, ep, toks, hz, hn => by
    rw [List.length_cons] at hz
    rw [valsS, List.forIn_cons, hf, show 10 * (x :: r).length = 10 + 10 * r.length by rw [List.length_cons]; omega]
    refine ev_bind (n := 10) (m := 10 * r.length) (a := ForInStep.yield PUnit.unit) (q₁ := q) (s₁ := ⟨HL pre (dictOf (es ++ [⟨hashInt x.1, .int x.1 t, .str x.2 (t + 1)⟩]) (ep + 1)) post life, gens, drawn, toks + 1, os⟩) ?_ ?_
    · refine ev_bind (n := 10) (m := 0) (ev_dictSet x.1 _ _ hm (by omega) ?_) (ev_pure _)
      intro e he h
      rw [List.nodup_append] at hn
      exact hn.2.2 e.hash (List.mem_map_of_mem he) (hashInt x.1) (by simp) h
    · rw [show (es ++ entsS t (x :: r)) = es ++ [⟨hashInt x.1, .int x.1 t, .str x.2 (t + 1)⟩] ++ entsS (t + 2) r by simp [entsS],
        show ep + (x :: r).length = ep + 1 + r.length by rw [List.length_cons]; omega, show toks + (x :: r).length = toks + 1 + r.length by rw [List.length_cons]; omega]
      exact ev_storeS hm f hf r (t + 2) (es ++ [⟨hashInt x.1, .int x.1 t, .str x.2 (t + 1)⟩]) (ep + 1) (toks + 1)
        (by rw [List.length_append, List.length_singleton]; omega) (by simpa using hn)

theorem ev_subShort {pos : Pos} {L : List Obj} {life : Life} {gens : Array GenState} {drawn : Drawn} {os : OsState} (l : List (Int × Str)) (toks : Nat) (q : Pos) (hm : m₀ ≤ L.length)
    (h15 : l.length ≤ 15) (hn : (l.map fun x => hashInt x.1).Nodup) :
    Ev p w m₀ ann code [F] (1 + (3 * l.length + 10 * l.length)) (subDict (l.map (evPair pos))) ⟨⟨L.toArray, life⟩, gens, drawn, toks, os⟩ q L.length
      ⟨HL L (dictOf (entsS toks l) l.length) [] life, gens, drawn, toks + 3 * l.length, os⟩ (lastP pos q l) := by
  unfold subDict
  have e0 : (⟨L.toArray, life⟩ : Heap).objs.size = L.length := by simp
  refine ev_bind (a := L.length) (s₁ := ⟨HL L (dictOf [] 0) [] life, gens, drawn, toks, os⟩) (q₁ := q) ?_ ?_
  · have := ev_alloc (p := p) (w := w) (m₀ := m₀) (ann := ann) (code := code) (B := [F]) (s := ⟨⟨L.toArray, life⟩, gens, drawn, toks, os⟩) (q := q) { cls := .type "dict", data := .dict #[] }
    rw [e0] at this
    refine ev_eq this rfl ?_ rfl
    show (⟨Heap.push ⟨L.toArray, life⟩ _, gens, drawn, toks, os⟩ : Shared) = _
    congr 1
    show (⟨L.toArray.push _, life⟩ : Heap) = ⟨_, life⟩
    congr 1
    simp
  · refine ev_bind (m := 0) (a := ()) (q₁ := lastP pos q l) (s₁ := ⟨HL L (dictOf (entsS toks l) l.length) [] life, gens, drawn, toks + 3 * l.length, os⟩) (ev_holding _ ?_) (ev_pure _)
    rw [if_pos (by rw [List.length_map]; exact h15)]
    refine ev_bind (n := 3 * l.length) (ev_evalPairs l _ q) ?_
    refine ev_holding _ ?_
    refine ev_bind (n := 10 * l.length) (m := 0) (a := PUnit.unit) (q₁ := lastP pos q l) (s₁ := ⟨HL L (dictOf (entsS toks l) l.length) [] life, gens, drawn, toks + 3 * l.length, os⟩) ?_ (ev_pure _)
    have h := ev_storeS (p := p) (w := w) (ann := ann) (code := code) (F := F) (q := lastP pos q l) (pre := L) (post := []) (life := life) (gens := gens) (drawn := drawn) (os := os) hm
      (fun x _ => (do dictSet L.length x.1 x.2; pure (ForInStep.yield PUnit.unit))) (fun x => rfl) l toks [] 0 (toks + 2 * l.length) (by simp; omega) (by simpa using hn)
    rw [show toks + 2 * l.length + l.length = toks + 3 * l.length by omega, List.nil_append, Nat.zero_add] at h
    exact h
end
end Law62

namespace Law62
open PySem PySem.W

def flushD (run : List (Sem Value × Sem Value)) (main : Option Addr) : Sem (Option Addr) := do
  if run.isEmpty then return main
  match main with
  | none => return some (← subDict run)
  | some d =>
    let sub ← holding [.ref d] (subDict run)
    (holding [.ref d, .ref sub] (mergeMapping d (.ref sub) false)).onRaise fun x => do let _ ← holding [.ref d, x] (runValue (.builtin "proto.let_go" {}))
    return some d

section
variable {α β : Type} {p : Program} {w : World} {m₀ : Nat} {ann : Option Value} {code : Code} {F : Frame}
variable {s s₁ s₂ : Shared} {q q₁ q₂ : Pos}

abbrev LoopF := (Option (Sem Value) × Sem Value) → (Option Addr × List (Sem Value × Sem Value)) → Sem (ForInStep (Option Addr × List (Sem Value × Sem Value)))
def Gathers (f : LoopF) : Prop := ∀ (x : Sem Value × Sem Value) (main : Option Addr) (run : List (Sem Value × Sem Value)), f (some x.1, x.2) (main, run) =
  if (run ++ [x]).length == 17 then (do let m ← flushD (run ++ [x]) main; pure (.yield (m, []))) else pure (.yield (main, run ++ [x]))
def gv (x : Sem Value × Sem Value) : Option (Sem Value) × Sem Value := (some x.1, x.2)

theorem ev_gather {f : LoopF} (hf : Gathers f) {n : Nat} {rest : List (Option (Sem Value) × Sem Value)} {main : Option Addr} {r : Option Addr × List (Sem Value × Sem Value)} :
    ∀ (xs run : List (Sem Value × Sem Value)), run.length + xs.length < 17 → Ev p w m₀ ann code [F] n (forIn rest (main, run ++ xs) f) s q r s₁ q₁ →
      Ev p w m₀ ann code [F] n (forIn (xs.map gv ++ rest) (main, run) f) s q r s₁ q₁
  | [], run, _, h => by rw [List.append_nil] at h; exact h
  | x :: xs, run, hl, h => by
    rw [List.length_cons] at hl
    rw [List.map_cons, List.cons_append, List.forIn_cons, show gv x = (some x.1, x.2) from rfl, hf, if_neg (by simp; omega)]
    refine ev_eq (n := 0 + n) (ev_bind (n := 0) (ev_pure _) ?_) (Nat.zero_add n) rfl rfl
    exact ev_gather hf xs (run ++ [x]) (by rw [List.length_append, List.length_singleton]; omega) (by rw [List.append_assoc, List.singleton_append]; exact h)

theorem ev_chunk {f : LoopF} (hf : Gathers f) {n m : Nat} {rest : List (Option (Sem Value) × Sem Value)} {main : Option Addr} {d : Addr} {r : Option Addr × List (Sem Value × Sem Value)} (c : List (Sem Value × Sem Value)) (hc : c.length = 17)
    (h : Ev p w m₀ ann code [F] n (flushD c main) s q (some d) s₁ q₁) (k : Ev p w m₀ ann code [F] m (forIn rest (some d, []) f) s₁ q₁ r s₂ q₂) :
    Ev p w m₀ ann code [F] (n + m) (forIn (c.map gv ++ rest) (main, []) f) s q r s₂ q₂ := by
  obtain ⟨c', x, rfl⟩ : ∃ c' x, c = c' ++ [x] := ⟨c.dropLast, c.getLast (by rintro rfl; simp at hc), (List.dropLast_concat_getLast _).symm⟩
  rw [List.map_append, List.append_assoc]
  rw [List.length_append, List.length_singleton] at hc
  refine ev_gather hf c' [] (by rw [List.length_nil]; omega) ?_
  rw [List.nil_append, List.map_singleton, List.singleton_append, List.forIn_cons, show gv x = (some x.1, x.2) from rfl, hf, if_pos (by simp; omega)]
  exact ev_bind (ev_bind (m := 0) h (ev_pure _)) k

theorem ev_flushFirst {pos : Pos} {L : List Obj} {life : Life} {gens : Array GenState} {drawn : Drawn} {os : OsState} (l : List (Int × Str)) (toks : Nat) (q : Pos) (hm : m₀ ≤ L.length)
    (h15 : 15 < l.length) (hz : l.length ≤ 1000) (hn : (l.map fun x => hashInt x.1).Nodup) :
    Ev p w m₀ ann code [F] (2 + 13 * l.length) (flushD (l.map (evPair pos)) none) ⟨⟨L.toArray, life⟩, gens, drawn, toks, os⟩ q (some L.length) ⟨HL L (dictOf (ents toks l) l.length) [] life, gens, drawn, toks + 3 * l.length, os⟩ pos := by
  unfold flushD
  rw [if_neg (by cases l with | nil => simp at h15 | cons x r => simp)]
  exact ev_bind (m := 0) (ev_subLong l toks q hm h15 hz hn) (ev_pure _)

theorem ev_flushMerge {pre post : List Obj} {es E : List DictEntry} {ep N n : Nat} {l : List (Int × Str)} {pos : Pos} {life : Life} {gens : Array GenState} {drawn : Drawn} {os : OsState} {toks toks' : Nat} {q q' : Pos} (hl : l ≠ []) (hm : m₀ ≤ pre.length) (h1 : 1 < pre.length)
    (hs : Ev p w m₀ ann code [F] n (subDict (l.map (evPair pos))) ⟨⟨(pre ++ dictOf es ep :: post).toArray, life⟩, gens, drawn, toks, os⟩ q (pre ++ dictOf es ep :: post).length ⟨HL (pre ++ dictOf es ep :: post) (dictOf E N) [] life, gens, drawn, toks', os⟩ q')
    (hk : ∀ e ∈ E, ∃ k t, e.key = .int k t) (hne : es ≠ []) (hz : es.length + E.length ≤ 1000) (hn : (es.map (·.hash) ++ E.map (·.hash)).Nodup) :
    Ev p w m₀ ann code [F] (n + (5 + 6 * E.length)) (flushD (l.map (evPair pos)) (some pre.length)) ⟨HL pre (dictOf es ep) post life, gens, drawn, toks, os⟩ q (some pre.length)
      ⟨HL pre (dictOf (es ++ E) (ep + E.length)) (post ++ [dictOf E N]) life, gens, drawn, toks', os⟩ q' := by
  unfold flushD
  rw [if_neg (by cases l with | nil => exact absurd rfl hl | cons x r => simp)]
  refine ev_bind (ev_holding _ hs) ?_
  rw [← HL_last, List.length_append, List.length_cons]
  exact ev_bind (m := 0) (ev_onRaise (ev_holding _ (ev_merge hm h1 hk hne hz hn))) (ev_pure _)

/-- the sub-dicts that whole chunks leave behind -/
def subsOf (t : Nat) : List (List (Int × Str)) → List Obj
  | [] => []
  | c :: r => dictOf (ents t c) c.length :: subsOf (t + 3 * c.length) r

theorem ev_chunks {f : LoopF} (hf : Gathers f) {pos : Pos} {pre : List Obj} {life : Life} {gens : Array GenState} {drawn : Drawn} {os : OsState} (hm : m₀ ≤ pre.length) (h1 : 1 < pre.length) (rest : List (Option (Sem Value) × Sem Value)) (r : Option Addr × List (Sem Value × Sem Value)) :
    ∀ (cs : List (List (Int × Str))) (es : List DictEntry) (ep toks m : Nat) (post : List Obj), (∀ c ∈ cs, c.length = 17) → es ≠ [] → es.length + cs.flatten.length ≤ 1000 → (es.map (·.hash) ++ cs.flatten.map fun x => hashInt x.1).Nodup →
    Ev p w m₀ ann code [F] m (forIn rest (some pre.length, []) f) ⟨HL pre (dictOf (es ++ ents toks cs.flatten) (ep + cs.flatten.length)) (post ++ subsOf toks cs) life, gens, drawn, toks + 3 * cs.flatten.length, os⟩ pos r s₁ q₁ →
    Ev p w m₀ ann code [F] (330 * cs.length + m) (forIn ((cs.flatten.map (evPair pos)).map gv ++ rest) (some pre.length, []) f) ⟨HL pre (dictOf es ep) post life, gens, drawn, toks, os⟩ pos r s₁ q₁
  | [], es, ep, toks, m, post, _, _, _, _, h => by simpa [ents, subsOf] using h
  | c :: cs, es, ep, toks, m, post, hc, hne, hz, hn, h => by
    have hc0 := hc c List.mem_cons_self
    rw [List.flatten_cons, List.length_append] at hz
    rw [List.flatten_cons, List.map_append] at hn
    rw [List.flatten_cons, List.map_append, List.map_append, List.append_assoc, show 330 * (c :: cs).length + m = (2 + 13 * c.length + (5 + 6 * (ents toks c).length)) + (330 * cs.length + m) by rw [ents_length, hc0, List.length_cons]; omega]
    refine ev_chunk hf (c.map (evPair pos)) (by rw [List.length_map]; exact hc0) (s₁ := ⟨HL pre (dictOf (es ++ ents toks c) (ep + (ents toks c).length)) (post ++ [dictOf (ents toks c) c.length]) life, gens, drawn, toks + 3 * c.length, os⟩) (q₁ := pos) (d := pre.length) ?_ ?_
    · refine ev_flushMerge (by rintro rfl; simp at hc0) hm h1 (ev_subLong c toks pos (by rw [List.length_append]; omega) (by omega) (by omega) ?_) (ents_keys _ _) hne (by rw [ents_length]; omega) ?_
      · exact ((List.nodup_append.mp (List.nodup_append.mp hn).2.1).1)
      · rw [ents_hash]
        rw [← List.append_assoc] at hn
        exact (List.nodup_append.mp hn).1
    · refine ev_chunks hf hm h1 rest r cs (es ++ ents toks c) (ep + (ents toks c).length) (toks + 3 * c.length) m (post ++ [dictOf (ents toks c) c.length]) (fun c' h' => hc c' (List.mem_cons_of_mem _ h')) (by simp [hne]) (by rw [List.length_append, ents_length]; omega) (by rw [List.map_append, ents_hash, List.append_assoc]; exact hn) ?_
      rw [List.flatten_cons, ents_append, List.length_append, subsOf] at h
      rw [ents_length, show ep + c.length + cs.flatten.length = ep + (c.length + cs.flatten.length) by omega, show toks + 3 * c.length + 3 * cs.flatten.length = toks + 3 * (c.length + cs.flatten.length) by omega, List.append_assoc, List.append_assoc, List.singleton_append]
      exact h

theorem ev_display {pos : Pos} {L : List Obj} {life : Life} {gens : Array GenState} {drawn : Drawn} {os : OsState} (hm : m₀ ≤ L.length) (h1 : 1 < L.length) (c0 : List (Int × Str)) (cs : List (List (Int × Str))) (lst : List (Int × Str)) (toks : Nat) (q : Pos)
    (h0 : c0.length = 17) (hc : ∀ c ∈ cs, c.length = 17) (hl : lst ≠ []) (hl15 : lst.length ≤ 15) (hz : c0.length + (cs.flatten.length + lst.length) ≤ 1000) (hn : ((c0 ++ (cs.flatten ++ lst)).map fun x => hashInt x.1).Nodup) :
    Ev p w m₀ ann code [F] (2 + 13 * c0.length + (330 * cs.length + (1 + (3 * lst.length + 10 * lst.length) + (5 + 6 * lst.length))))
      (dictDisplay (((c0 ++ (cs.flatten ++ lst)).map (evPair pos)).map gv)) ⟨⟨L.toArray, life⟩, gens, drawn, toks, os⟩ q (.ref L.length)
      ⟨HL L (dictOf (ents toks c0 ++ ents (toks + 3 * c0.length) cs.flatten ++ entsS (toks + 3 * c0.length + 3 * cs.flatten.length) lst) (c0.length + cs.flatten.length + lst.length))
        (subsOf (toks + 3 * c0.length) cs ++ [dictOf (entsS (toks + 3 * c0.length + 3 * cs.flatten.length) lst) lst.length]) life, gens, drawn, toks + 3 * c0.length + 3 * cs.flatten.length + 3 * lst.length, os⟩ pos := by
  have hn' := hn
  rw [List.map_append, List.map_append] at hn'
  have n0 : (c0.map fun x => hashInt x.1).Nodup := (List.nodup_append.mp hn').1
  have n1 : ((cs.flatten.map fun x => hashInt x.1) ++ (lst.map fun x => hashInt x.1)).Nodup := (List.nodup_append.mp hn').2.1
  have n2 : (lst.map fun x => hashInt x.1).Nodup := (List.nodup_append.mp n1).2.1
  have n3 : ((c0.map fun x => hashInt x.1) ++ (cs.flatten.map fun x => hashInt x.1)).Nodup := by rw [← List.append_assoc] at hn'; exact (List.nodup_append.mp hn').1
  unfold dictDisplay
  dsimp only
  rw [List.map_append, List.map_append, List.map_append, List.map_append]
  rw [show 2 + 13 * c0.length + (330 * cs.length + (1 + (3 * lst.length + 10 * lst.length) + (5 + 6 * lst.length))) = (2 + 13 * c0.length + (330 * cs.length + 0)) + (1 + (3 * lst.length + 10 * lst.length) + (5 + 6 * lst.length)) by omega]
  refine ev_bind (a := (some L.length, lst.map (evPair pos))) (q₁ := pos)
    (s₁ := ⟨HL L (dictOf (ents toks c0 ++ ents (toks + 3 * c0.length) cs.flatten) (c0.length + cs.flatten.length)) (subsOf (toks + 3 * c0.length) cs) life, gens, drawn, toks + 3 * c0.length + 3 * cs.flatten.length, os⟩) ?_ ?_
  · refine ev_chunk (d := L.length) (fun x main run => rfl) (c0.map (evPair pos)) (by rw [List.length_map]; exact h0) (ev_flushFirst c0 toks q hm (by omega) (by omega) n0) ?_
    refine ev_chunks (fun x main run => rfl) hm h1 _ _ cs (ents toks c0) c0.length (toks + 3 * c0.length) 0 [] hc (by cases c0 with | nil => simp at h0 | cons x r => simp [ents]) (by rw [ents_length]; omega) (by rw [ents_hash]; exact n3) ?_
    rw [← List.append_nil ((lst.map (evPair pos)).map gv)]
    refine ev_gather (fun x main run => rfl) (lst.map (evPair pos)) [] (by simp; omega) ?_
    rw [List.nil_append, List.nil_append]
    exact ev_pure _
  · refine ev_bind (m := 0) (a := some L.length) (q₁ := pos)
      (s₁ := ⟨HL L (dictOf (ents toks c0 ++ ents (toks + 3 * c0.length) cs.flatten ++ entsS (toks + 3 * c0.length + 3 * cs.flatten.length) lst) (c0.length + cs.flatten.length + lst.length))
        (subsOf (toks + 3 * c0.length) cs ++ [dictOf (entsS (toks + 3 * c0.length + 3 * cs.flatten.length) lst) lst.length]) life, gens, drawn, toks + 3 * c0.length + 3 * cs.flatten.length + 3 * lst.length, os⟩) ?_ (ev_pure _)
    have h := ev_flushMerge (p := p) (w := w) (m₀ := m₀) (ann := ann) (code := code) (F := F) (pre := L) (post := subsOf (toks + 3 * c0.length) cs) (es := ents toks c0 ++ ents (toks + 3 * c0.length) cs.flatten) (ep := c0.length + cs.flatten.length) hl hm h1
      (ev_subShort (pos := pos) (gens := gens) (drawn := drawn) (os := os) (life := life) lst (toks + 3 * c0.length + 3 * cs.flatten.length) pos (by rw [List.length_append]; omega) hl15 n2)
      (entsS_keys _ _) (by cases c0 with | nil => simp at h0 | cons x r => simp [ents]) (by rw [entsS_length, List.length_append, ents_length, ents_length]; omega)
      (by rw [List.map_append, ents_hash, ents_hash, entsS_hash, List.append_assoc]; exact hn')
    rw [lastP_pos, entsS_length] at h
    exact h
end
end Law62

set_option maxRecDepth 100000
namespace Law62
open PySem PySem.W PySem.Calls PyProof.Rows

abbrev pw : Program := PySem.Challenge.pw_tr0062_01
def stAt (i : Nat) : Stmt := pw.main.body.getD i (.Pass default)
def sts (a n : Nat) : List Stmt := (pw.main.body.drop a).take n
def recOf : Stmt → Obj
  | .FunctionDef n a b _ _ _ sc _ _ _ => { cls := .none, data := .func { name := n, qualname := n, params := a, body := .stmts b, scope := sc, globals := 0, closure := [], defaults := .none, kwdefaults := .none } }
  | _ => default
def fnOfSt (m : Str) (t : Tok) (c : Addr) : Stmt → Obj
  | .FunctionDef n a b _ _ _ sc _ _ _ => { cls := .type "function", data := .func { name := n, qualname := n, params := a, body := .stmts b, scope := sc, globals := 3, closure := [], defaults := .none, kwdefaults := .none, pyModule := .str m t, code := .ref c } }
  | _ => default
def recO (i : Nat) : Obj := recOf (stAt i)
def fnO (i : Nat) (m : Str) (t : Tok) (c : Addr) : Obj := fnOfSt m t c (stAt i)
def o_11 (_ : Params) : Obj := { cls := Value.type "tuple", data := Data.seq #[] }
def o_12 (_ : Params) : Obj := { cls := Value.none, data := Data.fields #[] }
def o_13 (_ : Params) : Obj := { cls := Value.type "code", data := Data.fields #[Value.str (Str.ofString "<module>") 182, Value.str (Str.ofString "<module>") 183, Value.str (Str.ofString "/claim/cut.py") 184, Value.int 1 0, Value.int 0 0, Value.int 0 0, Value.int 0 0, Value.int 0 0, Value.ref 11, Value.bool false, Value.int 181 0, Value.ref 12, Value.none, Value.none, Value.none, Value.none, Value.int 185 0, Value.int 1 0, Value.str (Str.ofString "/claim/cut.py") 186] }
def o_14 (_ : Params) : Obj := { cls := Value.type "frame", slots := #[some (Value.ref 13), some (Value.ref 3), some (Value.ref 3), none, some (Value.str (Str.ofString "__main__") 164), none, some (Value.ref 0)] }
def o_3 (P : Params) : Obj := { cls := Value.type "dict", data := Data.dict #[{ hash := PyData.keyHash P (Str.ofString "__name__"), key := Value.str (Str.ofString "__name__") 165, val := Value.str (Str.ofString "cpy313.stringprep") 243 }, { hash := PyData.keyHash P (Str.ofString "__doc__"), key := Value.str (Str.ofString "__doc__") 166, val := Value.none }, { hash := PyData.keyHash P (Str.ofString "__package__"), key := Value.str (Str.ofString "__package__") 167, val := Value.none }, { hash := PyData.keyHash P (Str.ofString "__loader__"), key := Value.str (Str.ofString "__loader__") 168, val := Value.builtin "__main__.__loader__#opaque" }, { hash := PyData.keyHash P (Str.ofString "__spec__"), key := Value.str (Str.ofString "__spec__") 169, val := Value.none }, { hash := PyData.keyHash P (Str.ofString "__annotations__"), key := Value.str (Str.ofString "__annotations__") 170, val := Value.ref 6 }, { hash := PyData.keyHash P (Str.ofString "__builtins__"), key := Value.str (Str.ofString "__builtins__") 171, val := Value.ref 4 }, { hash := PyData.keyHash P (Str.ofString "__file__"), key := Value.str (Str.ofString "__file__") 173, val := Value.str (Str.ofString "/claim/cut.py") 172 }, { hash := PyData.keyHash P (Str.ofString "__cached__"), key := Value.str (Str.ofString "__cached__") 174, val := Value.none }, { hash := PyData.keyHash P (Str.ofString "_raise_serialization_error"), key := Value.str (Str.ofString "_raise_serialization_error") 195, val := Value.ref 21 }, { hash := PyData.keyHash P (Str.ofString "_escape_cdata"), key := Value.str (Str.ofString "_escape_cdata") 202, val := Value.ref 28 }, { hash := PyData.keyHash P (Str.ofString "_escape_attrib"), key := Value.str (Str.ofString "_escape_attrib") 209, val := Value.ref 35 }, { hash := PyData.keyHash P (Str.ofString "_escape_attrib_html"), key := Value.str (Str.ofString "_escape_attrib_html") 216, val := Value.ref 42 }, { hash := PyData.keyHash P (Str.ofString "_escape_cdata_c14n"), key := Value.str (Str.ofString "_escape_cdata_c14n") 223, val := Value.ref 49 }, { hash := PyData.keyHash P (Str.ofString "_escape_attrib_c14n"), key := Value.str (Str.ofString "_escape_attrib_c14n") 230, val := Value.ref 56 }, { hash := PyData.keyHash P (Str.ofString "Int2AP"), key := Value.str (Str.ofString "Int2AP") 242, val := Value.ref 63 }] 16 }
def o_12_1 (_ : Params) : Obj := { cls := Value.none, data := Data.fields #[Value.int 2 0, Value.int 0 0, Value.ref 20, Value.int 4 0, Value.int 0 0, Value.ref 27, Value.int 15 0, Value.int 0 0, Value.ref 34, Value.int 34 0, Value.int 0 0, Value.ref 41, Value.int 45 0, Value.int 0 0, Value.ref 48, Value.int 58 0, Value.int 0 0, Value.ref 55, Value.int 76 0, Value.int 0 0, Value.ref 62] }
def o_15 (_ : Params) : Obj := { cls := Value.type "tuple", data := Data.seq #[] }
def o_16 (_ : Params) : Obj := { cls := Value.none, data := Data.fields #[] }
def o_17 (_ : Params) : Obj := { cls := Value.type "tuple", data := Data.seq #[Value.str (Str.ofString "text") 192] }
def o_18 (_ : Params) : Obj := { cls := Value.type "tuple", data := Data.seq #[] }
def o_19 (_ : Params) : Obj := recO 1
def o_20 (_ : Params) : Obj := { cls := Value.type "code", data := Data.fields #[Value.str (Str.ofString "_raise_serialization_error") 189, Value.str (Str.ofString "_raise_serialization_error") 190, Value.str (Str.ofString "/claim/cut.py") 191, Value.int 2 0, Value.int 1 0, Value.int 0 0, Value.int 0 0, Value.int 3 0, Value.ref 15, Value.bool true, Value.int 181 0, Value.ref 16, Value.none, Value.ref 17, Value.ref 18, Value.ref 19, Value.int 193 0, Value.int 2 0, Value.str (Str.ofString "/claim/cut.py") 194] }
def o_21 (_ : Params) : Obj := fnO 1 "cpy313.xml.etree.ElementTree" 187 20
def o_22 (_ : Params) : Obj := { cls := Value.type "tuple", data := Data.seq #[] }
def o_23 (_ : Params) : Obj := { cls := Value.none, data := Data.fields #[] }
def o_24 (_ : Params) : Obj := { cls := Value.type "tuple", data := Data.seq #[Value.str (Str.ofString "text") 199] }
def o_25 (_ : Params) : Obj := { cls := Value.type "tuple", data := Data.seq #[] }
def o_26 (_ : Params) : Obj := recO 2
def o_27 (_ : Params) : Obj := { cls := Value.type "code", data := Data.fields #[Value.str (Str.ofString "_escape_cdata") 196, Value.str (Str.ofString "_escape_cdata") 197, Value.str (Str.ofString "/claim/cut.py") 198, Value.int 4 0, Value.int 1 0, Value.int 0 0, Value.int 0 0, Value.int 3 0, Value.ref 22, Value.bool true, Value.int 181 0, Value.ref 23, Value.none, Value.ref 24, Value.ref 25, Value.ref 26, Value.int 200 0, Value.int 4 0, Value.str (Str.ofString "/claim/cut.py") 201] }
def o_28 (_ : Params) : Obj := fnO 2 "cpy313.xml.etree.ElementTree" 187 27
def o_29 (_ : Params) : Obj := { cls := Value.type "tuple", data := Data.seq #[] }
def o_30 (_ : Params) : Obj := { cls := Value.none, data := Data.fields #[] }
def o_31 (_ : Params) : Obj := { cls := Value.type "tuple", data := Data.seq #[Value.str (Str.ofString "text") 206] }
def o_32 (_ : Params) : Obj := { cls := Value.type "tuple", data := Data.seq #[] }
def o_33 (_ : Params) : Obj := recO 3
def o_34 (_ : Params) : Obj := { cls := Value.type "code", data := Data.fields #[Value.str (Str.ofString "_escape_attrib") 203, Value.str (Str.ofString "_escape_attrib") 204, Value.str (Str.ofString "/claim/cut.py") 205, Value.int 15 0, Value.int 1 0, Value.int 0 0, Value.int 0 0, Value.int 3 0, Value.ref 29, Value.bool true, Value.int 181 0, Value.ref 30, Value.none, Value.ref 31, Value.ref 32, Value.ref 33, Value.int 207 0, Value.int 15 0, Value.str (Str.ofString "/claim/cut.py") 208] }
def o_35 (_ : Params) : Obj := fnO 3 "cpy313.xml.etree.ElementTree" 187 34
def o_36 (_ : Params) : Obj := { cls := Value.type "tuple", data := Data.seq #[] }
def o_37 (_ : Params) : Obj := { cls := Value.none, data := Data.fields #[] }
def o_38 (_ : Params) : Obj := { cls := Value.type "tuple", data := Data.seq #[Value.str (Str.ofString "text") 213] }
def o_39 (_ : Params) : Obj := { cls := Value.type "tuple", data := Data.seq #[] }
def o_40 (_ : Params) : Obj := recO 4
def o_41 (_ : Params) : Obj := { cls := Value.type "code", data := Data.fields #[Value.str (Str.ofString "_escape_attrib_html") 210, Value.str (Str.ofString "_escape_attrib_html") 211, Value.str (Str.ofString "/claim/cut.py") 212, Value.int 34 0, Value.int 1 0, Value.int 0 0, Value.int 0 0, Value.int 3 0, Value.ref 36, Value.bool true, Value.int 181 0, Value.ref 37, Value.none, Value.ref 38, Value.ref 39, Value.ref 40, Value.int 214 0, Value.int 34 0, Value.str (Str.ofString "/claim/cut.py") 215] }
def o_42 (_ : Params) : Obj := fnO 4 "cpy313.xml.etree.ElementTree" 187 41
def o_43 (_ : Params) : Obj := { cls := Value.type "tuple", data := Data.seq #[] }
def o_44 (_ : Params) : Obj := { cls := Value.none, data := Data.fields #[] }
def o_45 (_ : Params) : Obj := { cls := Value.type "tuple", data := Data.seq #[Value.str (Str.ofString "text") 220] }
def o_46 (_ : Params) : Obj := { cls := Value.type "tuple", data := Data.seq #[] }
def o_47 (_ : Params) : Obj := recO 5
def o_48 (_ : Params) : Obj := { cls := Value.type "code", data := Data.fields #[Value.str (Str.ofString "_escape_cdata_c14n") 217, Value.str (Str.ofString "_escape_cdata_c14n") 218, Value.str (Str.ofString "/claim/cut.py") 219, Value.int 45 0, Value.int 1 0, Value.int 0 0, Value.int 0 0, Value.int 3 0, Value.ref 43, Value.bool true, Value.int 181 0, Value.ref 44, Value.none, Value.ref 45, Value.ref 46, Value.ref 47, Value.int 221 0, Value.int 45 0, Value.str (Str.ofString "/claim/cut.py") 222] }
def o_49 (_ : Params) : Obj := fnO 5 "cpy313.xml.etree.ElementTree" 187 48
def o_50 (_ : Params) : Obj := { cls := Value.type "tuple", data := Data.seq #[] }
def o_51 (_ : Params) : Obj := { cls := Value.none, data := Data.fields #[] }
def o_52 (_ : Params) : Obj := { cls := Value.type "tuple", data := Data.seq #[Value.str (Str.ofString "text") 227] }
def o_53 (_ : Params) : Obj := { cls := Value.type "tuple", data := Data.seq #[] }
def o_54 (_ : Params) : Obj := recO 6
def o_55 (_ : Params) : Obj := { cls := Value.type "code", data := Data.fields #[Value.str (Str.ofString "_escape_attrib_c14n") 224, Value.str (Str.ofString "_escape_attrib_c14n") 225, Value.str (Str.ofString "/claim/cut.py") 226, Value.int 58 0, Value.int 1 0, Value.int 0 0, Value.int 0 0, Value.int 3 0, Value.ref 50, Value.bool true, Value.int 181 0, Value.ref 51, Value.none, Value.ref 52, Value.ref 53, Value.ref 54, Value.int 228 0, Value.int 58 0, Value.str (Str.ofString "/claim/cut.py") 229] }
def o_56 (_ : Params) : Obj := fnO 6 "cpy313.xml.etree.ElementTree" 187 55
def o_57 (_ : Params) : Obj := { cls := Value.type "tuple", data := Data.seq #[] }
def o_58 (_ : Params) : Obj := { cls := Value.none, data := Data.fields #[] }
def o_59 (_ : Params) : Obj := { cls := Value.type "tuple", data := Data.seq #[Value.str (Str.ofString "num") 236, Value.str (Str.ofString "val") 237, Value.str (Str.ofString "AP") 238, Value.str (Str.ofString "mod") 239] }
def o_60 (_ : Params) : Obj := { cls := Value.type "tuple", data := Data.seq #[] }
def o_61 (_ : Params) : Obj := recO 8
def o_62 (_ : Params) : Obj := { cls := Value.type "code", data := Data.fields #[Value.str (Str.ofString "Int2AP") 233, Value.str (Str.ofString "Int2AP") 234, Value.str (Str.ofString "/claim/cut.py") 235, Value.int 76 0, Value.int 1 0, Value.int 0 0, Value.int 0 0, Value.int 3 0, Value.ref 57, Value.bool true, Value.int 181 0, Value.ref 58, Value.none, Value.ref 59, Value.ref 60, Value.ref 61, Value.int 240 0, Value.int 76 0, Value.str (Str.ofString "/claim/cut.py") 241] }
def o_63 (_ : Params) : Obj := fnO 8 "cpy313.imaplib" 231 62
def o_3_1 (P : Params) : Obj := { cls := Value.type "dict", data := Data.dict #[{ hash := PyData.keyHash P (Str.ofString "__name__"), key := Value.str (Str.ofString "__name__") 165, val := Value.str (Str.ofString "cpy313.stringprep") 243 }, { hash := PyData.keyHash P (Str.ofString "__doc__"), key := Value.str (Str.ofString "__doc__") 166, val := Value.none }, { hash := PyData.keyHash P (Str.ofString "__package__"), key := Value.str (Str.ofString "__package__") 167, val := Value.none }, { hash := PyData.keyHash P (Str.ofString "__loader__"), key := Value.str (Str.ofString "__loader__") 168, val := Value.builtin "__main__.__loader__#opaque" }, { hash := PyData.keyHash P (Str.ofString "__spec__"), key := Value.str (Str.ofString "__spec__") 169, val := Value.none }, { hash := PyData.keyHash P (Str.ofString "__annotations__"), key := Value.str (Str.ofString "__annotations__") 170, val := Value.ref 6 }, { hash := PyData.keyHash P (Str.ofString "__builtins__"), key := Value.str (Str.ofString "__builtins__") 171, val := Value.ref 4 }, { hash := PyData.keyHash P (Str.ofString "__file__"), key := Value.str (Str.ofString "__file__") 173, val := Value.str (Str.ofString "/claim/cut.py") 172 }, { hash := PyData.keyHash P (Str.ofString "__cached__"), key := Value.str (Str.ofString "__cached__") 174, val := Value.none }, { hash := PyData.keyHash P (Str.ofString "_raise_serialization_error"), key := Value.str (Str.ofString "_raise_serialization_error") 195, val := Value.ref 21 }, { hash := PyData.keyHash P (Str.ofString "_escape_cdata"), key := Value.str (Str.ofString "_escape_cdata") 202, val := Value.ref 28 }, { hash := PyData.keyHash P (Str.ofString "_escape_attrib"), key := Value.str (Str.ofString "_escape_attrib") 209, val := Value.ref 35 }, { hash := PyData.keyHash P (Str.ofString "_escape_attrib_html"), key := Value.str (Str.ofString "_escape_attrib_html") 216, val := Value.ref 42 }, { hash := PyData.keyHash P (Str.ofString "_escape_cdata_c14n"), key := Value.str (Str.ofString "_escape_cdata_c14n") 223, val := Value.ref 49 }, { hash := PyData.keyHash P (Str.ofString "_escape_attrib_c14n"), key := Value.str (Str.ofString "_escape_attrib_c14n") 230, val := Value.ref 56 }, { hash := PyData.keyHash P (Str.ofString "Int2AP"), key := Value.str (Str.ofString "Int2AP") 242, val := Value.ref 63 }, { hash := PyData.keyHash P (Str.ofString "b1_set"), key := Value.str (Str.ofString "b1_set") 304, val := Value.ref 71 }] 17 }
def o_64 (_ : Params) : Obj := { cls := Value.type "list", data := Data.seq #[Value.int 173 245, Value.int 847 246, Value.int 6150 247, Value.int 6155 248, Value.int 6156 249, Value.int 6157 250, Value.int 8203 251, Value.int 8204 252, Value.int 8205 253, Value.int 8288 254, Value.int 65279 255] }
def o_65 (_ : Params) : Obj := { cls := Value.type "range", data := Data.fields #[Value.int 65024 256, Value.int 65040 257, Value.int 1 258] }
def o_66 (_ : Params) : Obj := { cls := Value.type "list", data := Data.seq #[Value.int 65024 261, Value.int 65025 262, Value.int 65026 263, Value.int 65027 264, Value.int 65028 265, Value.int 65029 266, Value.int 65030 267, Value.int 65031 268, Value.int 65032 269, Value.int 65033 270, Value.int 65034 271, Value.int 65035 272, Value.int 65036 273, Value.int 65037 274, Value.int 65038 275, Value.int 65039 276] 18 }
def o_67 (_ : Params) : Obj := { cls := Value.type "range_iterator", data := Data.fields #[Value.int 65040 0, Value.int 0 0, Value.int 1 0] }
def o_68 (_ : Params) : Obj := { cls := Value.type "tuple", data := Data.seq #[] }
def o_69 (_ : Params) : Obj := { cls := Value.type "StopIteration", data := Data.fields #[Value.ref 68, Value.none, Value.none, Value.none, Value.bool false, Value.none] }
def o_70 (_ : Params) : Obj := { cls := Value.type "list", data := Data.seq #[Value.int 173 245, Value.int 847 246, Value.int 6150 247, Value.int 6155 248, Value.int 6156 249, Value.int 6157 250, Value.int 8203 251, Value.int 8204 252, Value.int 8205 253, Value.int 8288 254, Value.int 65279 255, Value.int 65024 261, Value.int 65025 262, Value.int 65026 263, Value.int 65027 264, Value.int 65028 265, Value.int 65029 266, Value.int 65030 267, Value.int 65031 268, Value.int 65032 269, Value.int 65033 270, Value.int 65034 271, Value.int 65035 272, Value.int 65036 273, Value.int 65037 274, Value.int 65038 275, Value.int 65039 276] }
def o_71 (P : Params) : Obj := { cls := .type "set", data := .set (#[(65024, Value.int 65024 261), (65025, Value.int 65025 262), (65026, Value.int 65026 263), (65027, Value.int 65027 264), (65028, Value.int 65028 265), (65029, Value.int 65029 266), (6150, Value.int 6150 247), (65030, Value.int 65030 267), (65031, Value.int 65031 268), (65032, Value.int 65032 269), (65033, Value.int 65033 270), (6155, Value.int 6155 248), (6156, Value.int 6156 249), (6157, Value.int 6157 250), (8203, Value.int 8203 251), (8204, Value.int 8204 252), (8205, Value.int 8205 253), (65034, Value.int 65034 271), (65035, Value.int 65035 272), (65036, Value.int 65036 273), (65037, Value.int 65037 274), (65038, Value.int 65038 275), (65039, Value.int 65039 276), (173, Value.int 173 245), (847, Value.int 847 246), (8288, Value.int 8288 254), (65279, Value.int 65279 255)]) 29 { mask := 127, place := #[0, 1, 2, 3, 4, 5, 6, 7, 8, 9, 10, 11, 12, 13, 14, 15, 16, 17, 18, 19, 20, 21, 22, 45, 79, 96, 127], dummies := #[], finger := 0, led := !(P.followText "set-order"), moves := 2, plain := true } }
def o_72 (_ : Params) : Obj := { cls := Value.type "list_iterator", data := Data.fields #[Value.none, Value.int 27 0] }
def o_73 (_ : Params) : Obj := { cls := Value.type "tuple", data := Data.seq #[] }
def o_74 (_ : Params) : Obj := { cls := Value.type "StopIteration", data := Data.fields #[Value.ref 73, Value.none, Value.none, Value.none, Value.bool false, Value.none] }
def o_3_2 (P : Params) : Obj := { cls := Value.type "dict", data := Data.dict #[{ hash := PyData.keyHash P (Str.ofString "__name__"), key := Value.str (Str.ofString "__name__") 165, val := Value.str (Str.ofString "cpy313.stringprep") 243 }, { hash := PyData.keyHash P (Str.ofString "__doc__"), key := Value.str (Str.ofString "__doc__") 166, val := Value.none }, { hash := PyData.keyHash P (Str.ofString "__package__"), key := Value.str (Str.ofString "__package__") 167, val := Value.none }, { hash := PyData.keyHash P (Str.ofString "__loader__"), key := Value.str (Str.ofString "__loader__") 168, val := Value.builtin "__main__.__loader__#opaque" }, { hash := PyData.keyHash P (Str.ofString "__spec__"), key := Value.str (Str.ofString "__spec__") 169, val := Value.none }, { hash := PyData.keyHash P (Str.ofString "__annotations__"), key := Value.str (Str.ofString "__annotations__") 170, val := Value.ref 6 }, { hash := PyData.keyHash P (Str.ofString "__builtins__"), key := Value.str (Str.ofString "__builtins__") 171, val := Value.ref 4 }, { hash := PyData.keyHash P (Str.ofString "__file__"), key := Value.str (Str.ofString "__file__") 173, val := Value.str (Str.ofString "/claim/cut.py") 172 }, { hash := PyData.keyHash P (Str.ofString "__cached__"), key := Value.str (Str.ofString "__cached__") 174, val := Value.none }, { hash := PyData.keyHash P (Str.ofString "_raise_serialization_error"), key := Value.str (Str.ofString "_raise_serialization_error") 195, val := Value.ref 21 }, { hash := PyData.keyHash P (Str.ofString "_escape_cdata"), key := Value.str (Str.ofString "_escape_cdata") 202, val := Value.ref 28 }, { hash := PyData.keyHash P (Str.ofString "_escape_attrib"), key := Value.str (Str.ofString "_escape_attrib") 209, val := Value.ref 35 }, { hash := PyData.keyHash P (Str.ofString "_escape_attrib_html"), key := Value.str (Str.ofString "_escape_attrib_html") 216, val := Value.ref 42 }, { hash := PyData.keyHash P (Str.ofString "_escape_cdata_c14n"), key := Value.str (Str.ofString "_escape_cdata_c14n") 223, val := Value.ref 49 }, { hash := PyData.keyHash P (Str.ofString "_escape_attrib_c14n"), key := Value.str (Str.ofString "_escape_attrib_c14n") 230, val := Value.ref 56 }, { hash := PyData.keyHash P (Str.ofString "Int2AP"), key := Value.str (Str.ofString "Int2AP") 242, val := Value.ref 63 }, { hash := PyData.keyHash P (Str.ofString "b1_set"), key := Value.str (Str.ofString "b1_set") 304, val := Value.ref 71 }, { hash := PyData.keyHash P (Str.ofString "in_table_b1"), key := Value.str (Str.ofString "in_table_b1") 311, val := Value.ref 81 }] 18 }
def o_12_2 (_ : Params) : Obj := { cls := Value.none, data := Data.fields #[Value.int 2 0, Value.int 0 0, Value.ref 20, Value.int 4 0, Value.int 0 0, Value.ref 27, Value.int 15 0, Value.int 0 0, Value.ref 34, Value.int 34 0, Value.int 0 0, Value.ref 41, Value.int 45 0, Value.int 0 0, Value.ref 48, Value.int 58 0, Value.int 0 0, Value.ref 55, Value.int 76 0, Value.int 0 0, Value.ref 62, Value.int 86 0, Value.int 0 0, Value.ref 80] }
def o_75 (_ : Params) : Obj := { cls := Value.type "tuple", data := Data.seq #[] }
def o_76 (_ : Params) : Obj := { cls := Value.none, data := Data.fields #[] }
def o_77 (_ : Params) : Obj := { cls := Value.type "tuple", data := Data.seq #[Value.str (Str.ofString "code") 308] }
def o_78 (_ : Params) : Obj := { cls := Value.type "tuple", data := Data.seq #[] }
def o_79 (_ : Params) : Obj := recO 11
def o_80 (_ : Params) : Obj := { cls := Value.type "code", data := Data.fields #[Value.str (Str.ofString "in_table_b1") 305, Value.str (Str.ofString "in_table_b1") 306, Value.str (Str.ofString "/claim/cut.py") 307, Value.int 86 0, Value.int 1 0, Value.int 0 0, Value.int 0 0, Value.int 3 0, Value.ref 75, Value.bool true, Value.int 181 0, Value.ref 76, Value.none, Value.ref 77, Value.ref 78, Value.ref 79, Value.int 309 0, Value.int 86 0, Value.str (Str.ofString "/claim/cut.py") 310] }
def o_81 (_ : Params) : Obj := fnO 11 "cpy313.stringprep" 243 80
def o_3_3 (P : Params) : Obj := { cls := Value.type "dict", data := Data.dict #[{ hash := PyData.keyHash P (Str.ofString "__name__"), key := Value.str (Str.ofString "__name__") 165, val := Value.str (Str.ofString "cpy313.stringprep") 243 }, { hash := PyData.keyHash P (Str.ofString "__doc__"), key := Value.str (Str.ofString "__doc__") 166, val := Value.none }, { hash := PyData.keyHash P (Str.ofString "__package__"), key := Value.str (Str.ofString "__package__") 167, val := Value.none }, { hash := PyData.keyHash P (Str.ofString "__loader__"), key := Value.str (Str.ofString "__loader__") 168, val := Value.builtin "__main__.__loader__#opaque" }, { hash := PyData.keyHash P (Str.ofString "__spec__"), key := Value.str (Str.ofString "__spec__") 169, val := Value.none }, { hash := PyData.keyHash P (Str.ofString "__annotations__"), key := Value.str (Str.ofString "__annotations__") 170, val := Value.ref 6 }, { hash := PyData.keyHash P (Str.ofString "__builtins__"), key := Value.str (Str.ofString "__builtins__") 171, val := Value.ref 4 }, { hash := PyData.keyHash P (Str.ofString "__file__"), key := Value.str (Str.ofString "__file__") 173, val := Value.str (Str.ofString "/claim/cut.py") 172 }, { hash := PyData.keyHash P (Str.ofString "__cached__"), key := Value.str (Str.ofString "__cached__") 174, val := Value.none }, { hash := PyData.keyHash P (Str.ofString "_raise_serialization_error"), key := Value.str (Str.ofString "_raise_serialization_error") 195, val := Value.ref 21 }, { hash := PyData.keyHash P (Str.ofString "_escape_cdata"), key := Value.str (Str.ofString "_escape_cdata") 202, val := Value.ref 28 }, { hash := PyData.keyHash P (Str.ofString "_escape_attrib"), key := Value.str (Str.ofString "_escape_attrib") 209, val := Value.ref 35 }, { hash := PyData.keyHash P (Str.ofString "_escape_attrib_html"), key := Value.str (Str.ofString "_escape_attrib_html") 216, val := Value.ref 42 }, { hash := PyData.keyHash P (Str.ofString "_escape_cdata_c14n"), key := Value.str (Str.ofString "_escape_cdata_c14n") 223, val := Value.ref 49 }, { hash := PyData.keyHash P (Str.ofString "_escape_attrib_c14n"), key := Value.str (Str.ofString "_escape_attrib_c14n") 230, val := Value.ref 56 }, { hash := PyData.keyHash P (Str.ofString "Int2AP"), key := Value.str (Str.ofString "Int2AP") 242, val := Value.ref 63 }, { hash := PyData.keyHash P (Str.ofString "b1_set"), key := Value.str (Str.ofString "b1_set") 304, val := Value.ref 71 }, { hash := PyData.keyHash P (Str.ofString "in_table_b1"), key := Value.str (Str.ofString "in_table_b1") 311, val := Value.ref 81 }, { hash := PyData.keyHash P (Str.ofString "b3_exceptions"), key := Value.str (Str.ofString "b3_exceptions") 2262, val := Value.ref 82 }] 19 }
def o_3_4 (P : Params) : Obj := { cls := Value.type "dict", data := Data.dict #[{ hash := PyData.keyHash P (Str.ofString "__name__"), key := Value.str (Str.ofString "__name__") 165, val := Value.str (Str.ofString "law_tr0062_01") 2271 }, { hash := PyData.keyHash P (Str.ofString "__doc__"), key := Value.str (Str.ofString "__doc__") 166, val := Value.none }, { hash := PyData.keyHash P (Str.ofString "__package__"), key := Value.str (Str.ofString "__package__") 167, val := Value.none }, { hash := PyData.keyHash P (Str.ofString "__loader__"), key := Value.str (Str.ofString "__loader__") 168, val := Value.builtin "__main__.__loader__#opaque" }, { hash := PyData.keyHash P (Str.ofString "__spec__"), key := Value.str (Str.ofString "__spec__") 169, val := Value.none }, { hash := PyData.keyHash P (Str.ofString "__annotations__"), key := Value.str (Str.ofString "__annotations__") 170, val := Value.ref 6 }, { hash := PyData.keyHash P (Str.ofString "__builtins__"), key := Value.str (Str.ofString "__builtins__") 171, val := Value.ref 4 }, { hash := PyData.keyHash P (Str.ofString "__file__"), key := Value.str (Str.ofString "__file__") 173, val := Value.str (Str.ofString "/claim/cut.py") 172 }, { hash := PyData.keyHash P (Str.ofString "__cached__"), key := Value.str (Str.ofString "__cached__") 174, val := Value.none }, { hash := PyData.keyHash P (Str.ofString "_raise_serialization_error"), key := Value.str (Str.ofString "_raise_serialization_error") 195, val := Value.ref 21 }, { hash := PyData.keyHash P (Str.ofString "_escape_cdata"), key := Value.str (Str.ofString "_escape_cdata") 202, val := Value.ref 28 }, { hash := PyData.keyHash P (Str.ofString "_escape_attrib"), key := Value.str (Str.ofString "_escape_attrib") 209, val := Value.ref 35 }, { hash := PyData.keyHash P (Str.ofString "_escape_attrib_html"), key := Value.str (Str.ofString "_escape_attrib_html") 216, val := Value.ref 42 }, { hash := PyData.keyHash P (Str.ofString "_escape_cdata_c14n"), key := Value.str (Str.ofString "_escape_cdata_c14n") 223, val := Value.ref 49 }, { hash := PyData.keyHash P (Str.ofString "_escape_attrib_c14n"), key := Value.str (Str.ofString "_escape_attrib_c14n") 230, val := Value.ref 56 }, { hash := PyData.keyHash P (Str.ofString "Int2AP"), key := Value.str (Str.ofString "Int2AP") 242, val := Value.ref 63 }, { hash := PyData.keyHash P (Str.ofString "b1_set"), key := Value.str (Str.ofString "b1_set") 304, val := Value.ref 71 }, { hash := PyData.keyHash P (Str.ofString "in_table_b1"), key := Value.str (Str.ofString "in_table_b1") 311, val := Value.ref 81 }, { hash := PyData.keyHash P (Str.ofString "b3_exceptions"), key := Value.str (Str.ofString "b3_exceptions") 2262, val := Value.ref 82 }, { hash := PyData.keyHash P (Str.ofString "map_table_b3"), key := Value.str (Str.ofString "map_table_b3") 2270, val := Value.ref 127 }, { hash := PyData.keyHash P (Str.ofString "_law_page"), key := Value.str (Str.ofString "_law_page") 2278, val := Value.ref 132 }, { hash := PyData.keyHash P (Str.ofString "_law_read"), key := Value.str (Str.ofString "_law_read") 2290, val := Value.ref 139 }, { hash := PyData.keyHash P (Str.ofString "_law_plain"), key := Value.str (Str.ofString "_law_plain") 2296, val := Value.ref 144 }, { hash := PyData.keyHash P (Str.ofString "_law_lengths"), key := Value.str (Str.ofString "_law_lengths") 2303, val := Value.ref 151 }, { hash := PyData.keyHash P (Str.ofString "_law_rows"), key := Value.str (Str.ofString "_law_rows") 2309, val := Value.ref 156 }, { hash := PyData.keyHash P (Str.ofString "_law_numbers"), key := Value.str (Str.ofString "_law_numbers") 2315, val := Value.ref 161 }, { hash := PyData.keyHash P (Str.ofString "_law_sums"), key := Value.str (Str.ofString "_law_sums") 2321, val := Value.ref 166 }, { hash := PyData.keyHash P (Str.ofString "_law_product"), key := Value.str (Str.ofString "_law_product") 2337, val := Value.ref 173 }, { hash := PyData.keyHash P (Str.ofString "law"), key := Value.str (Str.ofString "law") 2343, val := Value.ref 178 }] 29 }
def o_12_3 (_ : Params) : Obj := { cls := Value.none, data := Data.fields #[Value.int 2 0, Value.int 0 0, Value.ref 20, Value.int 4 0, Value.int 0 0, Value.ref 27, Value.int 15 0, Value.int 0 0, Value.ref 34, Value.int 34 0, Value.int 0 0, Value.ref 41, Value.int 45 0, Value.int 0 0, Value.ref 48, Value.int 58 0, Value.int 0 0, Value.ref 55, Value.int 76 0, Value.int 0 0, Value.ref 62, Value.int 86 0, Value.int 0 0, Value.ref 80, Value.int 89 0, Value.int 0 0, Value.ref 126, Value.int 95 0, Value.int 0 0, Value.ref 131, Value.int 108 0, Value.int 0 0, Value.ref 138, Value.int 114 0, Value.int 0 0, Value.ref 143, Value.int 120 0, Value.int 0 0, Value.ref 150, Value.int 130 0, Value.int 0 0, Value.ref 155, Value.int 139 0, Value.int 0 0, Value.ref 160, Value.int 144 0, Value.int 0 0, Value.ref 165, Value.int 151 0, Value.int 0 0, Value.ref 172, Value.int 162 0, Value.int 0 0, Value.ref 177] }
def o_121 (_ : Params) : Obj := { cls := Value.type "tuple", data := Data.seq #[] }
def o_122 (_ : Params) : Obj := { cls := Value.none, data := Data.fields #[] }
def o_123 (_ : Params) : Obj := { cls := Value.type "tuple", data := Data.seq #[Value.str (Str.ofString "code") 2266, Value.str (Str.ofString "r") 2267] }
def o_124 (_ : Params) : Obj := { cls := Value.type "tuple", data := Data.seq #[] }
def o_125 (_ : Params) : Obj := recO 13
def o_126 (_ : Params) : Obj := { cls := Value.type "code", data := Data.fields #[Value.str (Str.ofString "map_table_b3") 2263, Value.str (Str.ofString "map_table_b3") 2264, Value.str (Str.ofString "/claim/cut.py") 2265, Value.int 89 0, Value.int 1 0, Value.int 0 0, Value.int 0 0, Value.int 3 0, Value.ref 121, Value.bool true, Value.int 181 0, Value.ref 122, Value.none, Value.ref 123, Value.ref 124, Value.ref 125, Value.int 2268 0, Value.int 89 0, Value.str (Str.ofString "/claim/cut.py") 2269] }
def o_127 (_ : Params) : Obj := fnO 13 "cpy313.stringprep" 243 126
def o_128 (_ : Params) : Obj := { cls := Value.type "tuple", data := Data.seq #[] }
def o_129 (_ : Params) : Obj := { cls := Value.none, data := Data.fields #[] }
def o_130 (_ : Params) : Obj := recO 15
def o_131 (_ : Params) : Obj := { cls := Value.type "code", data := Data.fields #[Value.str (Str.ofString "_law_page") 2273, Value.str (Str.ofString "_law_page") 2274, Value.str (Str.ofString "/claim/cut.py") 2275, Value.int 95 0, Value.int 2 0, Value.int 0 0, Value.int 0 0, Value.int 3 0, Value.ref 128, Value.bool true, Value.int 181 0, Value.ref 129, Value.none, Value.none, Value.none, Value.ref 130, Value.int 2276 0, Value.int 95 0, Value.str (Str.ofString "/claim/cut.py") 2277] }
def o_132 (_ : Params) : Obj := fnO 15 "law_tr0062_01" 2271 131
def o_133 (_ : Params) : Obj := { cls := Value.type "tuple", data := Data.seq #[] }
def o_134 (_ : Params) : Obj := { cls := Value.none, data := Data.fields #[] }
def o_135 (_ : Params) : Obj := { cls := Value.type "tuple", data := Data.seq #[Value.str (Str.ofString "pages") 2282, Value.str (Str.ofString "hand") 2283, Value.str (Str.ofString "controls") 2284, Value.str (Str.ofString "text") 2285, Value.str (Str.ofString "written") 2286, Value.str (Str.ofString "sign") 2287] }
def o_136 (_ : Params) : Obj := { cls := Value.type "tuple", data := Data.seq #[] }
def o_137 (_ : Params) : Obj := recO 16
def o_138 (_ : Params) : Obj := { cls := Value.type "code", data := Data.fields #[Value.str (Str.ofString "_law_read") 2279, Value.str (Str.ofString "_law_read") 2280, Value.str (Str.ofString "/claim/cut.py") 2281, Value.int 108 0, Value.int 2 0, Value.int 0 0, Value.int 0 0, Value.int 3 0, Value.ref 133, Value.bool true, Value.int 181 0, Value.ref 134, Value.none, Value.ref 135, Value.ref 136, Value.ref 137, Value.int 2288 0, Value.int 108 0, Value.str (Str.ofString "/claim/cut.py") 2289] }
def o_139 (_ : Params) : Obj := fnO 16 "law_tr0062_01" 2271 138
def o_140 (_ : Params) : Obj := { cls := Value.type "tuple", data := Data.seq #[] }
def o_141 (_ : Params) : Obj := { cls := Value.none, data := Data.fields #[] }
def o_142 (_ : Params) : Obj := recO 17
def o_143 (_ : Params) : Obj := { cls := Value.type "code", data := Data.fields #[Value.str (Str.ofString "_law_plain") 2291, Value.str (Str.ofString "_law_plain") 2292, Value.str (Str.ofString "/claim/cut.py") 2293, Value.int 114 0, Value.int 2 0, Value.int 0 0, Value.int 0 0, Value.int 3 0, Value.ref 140, Value.bool true, Value.int 181 0, Value.ref 141, Value.none, Value.none, Value.none, Value.ref 142, Value.int 2294 0, Value.int 114 0, Value.str (Str.ofString "/claim/cut.py") 2295] }
def o_144 (_ : Params) : Obj := fnO 17 "law_tr0062_01" 2271 143
def o_145 (_ : Params) : Obj := { cls := Value.type "tuple", data := Data.seq #[] }
def o_146 (_ : Params) : Obj := { cls := Value.none, data := Data.fields #[] }
def o_147 (_ : Params) : Obj := { cls := Value.type "tuple", data := Data.seq #[Value.str (Str.ofString "hand") 2300] }
def o_148 (_ : Params) : Obj := { cls := Value.type "tuple", data := Data.seq #[] }
def o_149 (_ : Params) : Obj := recO 18
def o_150 (_ : Params) : Obj := { cls := Value.type "code", data := Data.fields #[Value.str (Str.ofString "_law_lengths") 2297, Value.str (Str.ofString "_law_lengths") 2298, Value.str (Str.ofString "/claim/cut.py") 2299, Value.int 120 0, Value.int 1 0, Value.int 0 0, Value.int 0 0, Value.int 3 0, Value.ref 145, Value.bool true, Value.int 181 0, Value.ref 146, Value.none, Value.ref 147, Value.ref 148, Value.ref 149, Value.int 2301 0, Value.int 120 0, Value.str (Str.ofString "/claim/cut.py") 2302] }
def o_151 (_ : Params) : Obj := fnO 18 "law_tr0062_01" 2271 150
def o_152 (_ : Params) : Obj := { cls := Value.type "tuple", data := Data.seq #[] }
def o_153 (_ : Params) : Obj := { cls := Value.none, data := Data.fields #[] }
def o_154 (_ : Params) : Obj := recO 19
def o_155 (_ : Params) : Obj := { cls := Value.type "code", data := Data.fields #[Value.str (Str.ofString "_law_rows") 2304, Value.str (Str.ofString "_law_rows") 2305, Value.str (Str.ofString "/claim/cut.py") 2306, Value.int 130 0, Value.int 3 0, Value.int 0 0, Value.int 0 0, Value.int 3 0, Value.ref 152, Value.bool true, Value.int 181 0, Value.ref 153, Value.none, Value.none, Value.none, Value.ref 154, Value.int 2307 0, Value.int 130 0, Value.str (Str.ofString "/claim/cut.py") 2308] }
def o_156 (_ : Params) : Obj := fnO 19 "law_tr0062_01" 2271 155
def o_157 (_ : Params) : Obj := { cls := Value.type "tuple", data := Data.seq #[] }
def o_158 (_ : Params) : Obj := { cls := Value.none, data := Data.fields #[] }
def o_159 (_ : Params) : Obj := recO 20
def o_160 (_ : Params) : Obj := { cls := Value.type "code", data := Data.fields #[Value.str (Str.ofString "_law_numbers") 2310, Value.str (Str.ofString "_law_numbers") 2311, Value.str (Str.ofString "/claim/cut.py") 2312, Value.int 139 0, Value.int 2 0, Value.int 0 0, Value.int 0 0, Value.int 3 0, Value.ref 157, Value.bool true, Value.int 181 0, Value.ref 158, Value.none, Value.none, Value.none, Value.ref 159, Value.int 2313 0, Value.int 139 0, Value.str (Str.ofString "/claim/cut.py") 2314] }
def o_161 (_ : Params) : Obj := fnO 20 "law_tr0062_01" 2271 160
def o_162 (_ : Params) : Obj := { cls := Value.type "tuple", data := Data.seq #[] }
def o_163 (_ : Params) : Obj := { cls := Value.none, data := Data.fields #[] }
def o_164 (_ : Params) : Obj := recO 21
def o_165 (_ : Params) : Obj := { cls := Value.type "code", data := Data.fields #[Value.str (Str.ofString "_law_sums") 2316, Value.str (Str.ofString "_law_sums") 2317, Value.str (Str.ofString "/claim/cut.py") 2318, Value.int 144 0, Value.int 4 0, Value.int 0 0, Value.int 0 0, Value.int 3 0, Value.ref 162, Value.bool true, Value.int 181 0, Value.ref 163, Value.none, Value.none, Value.none, Value.ref 164, Value.int 2319 0, Value.int 144 0, Value.str (Str.ofString "/claim/cut.py") 2320] }
def o_166 (_ : Params) : Obj := fnO 21 "law_tr0062_01" 2271 165
def o_167 (_ : Params) : Obj := { cls := Value.type "tuple", data := Data.seq #[] }
def o_168 (_ : Params) : Obj := { cls := Value.none, data := Data.fields #[] }
def o_169 (_ : Params) : Obj := { cls := Value.type "tuple", data := Data.seq #[Value.str (Str.ofString "heap") 2325, Value.str (Str.ofString "heaps") 2326, Value.str (Str.ofString "rows") 2327, Value.str (Str.ofString "dial") 2328, Value.str (Str.ofString "place") 2329, Value.str (Str.ofString "row") 2330, Value.str (Str.ofString "worth") 2331, Value.str (Str.ofString "turned") 2332, Value.str (Str.ofString "one") 2333, Value.str (Str.ofString "other") 2334] }
def o_170 (_ : Params) : Obj := { cls := Value.type "tuple", data := Data.seq #[] }
def o_171 (_ : Params) : Obj := recO 22
def o_172 (_ : Params) : Obj := { cls := Value.type "code", data := Data.fields #[Value.str (Str.ofString "_law_product") 2322, Value.str (Str.ofString "_law_product") 2323, Value.str (Str.ofString "/claim/cut.py") 2324, Value.int 151 0, Value.int 3 0, Value.int 0 0, Value.int 0 0, Value.int 3 0, Value.ref 167, Value.bool true, Value.int 181 0, Value.ref 168, Value.none, Value.ref 169, Value.ref 170, Value.ref 171, Value.int 2335 0, Value.int 151 0, Value.str (Str.ofString "/claim/cut.py") 2336] }
def o_173 (_ : Params) : Obj := fnO 22 "law_tr0062_01" 2271 172
def o_174 (_ : Params) : Obj := { cls := Value.type "tuple", data := Data.seq #[] }
def o_175 (_ : Params) : Obj := { cls := Value.none, data := Data.fields #[] }
def o_176 (_ : Params) : Obj := recO 23
def o_177 (_ : Params) : Obj := { cls := Value.type "code", data := Data.fields #[Value.str (Str.ofString "law") 2338, Value.str (Str.ofString "law") 2339, Value.str (Str.ofString "/claim/cut.py") 2340, Value.int 162 0, Value.int 1 0, Value.int 0 0, Value.int 0 0, Value.int 3 0, Value.ref 174, Value.bool true, Value.int 181 0, Value.ref 175, Value.none, Value.none, Value.none, Value.ref 176, Value.int 2341 0, Value.int 162 0, Value.str (Str.ofString "/claim/cut.py") 2342] }
def o_178 (_ : Params) : Obj := fnO 23 "law_tr0062_01" 2271 177
noncomputable def listA0 (P : Params) (X : Nat → Obj) : List Obj := [boot_o_0 P, boot_o_1 P, boot_o_2 P, boot_o_3 P, boot_o_4 P, boot_o_5 P, boot_o_6 P, boot_o_7 P, boot_o_8 P, boot_o_9 P, boot_o_10 P, o_11 P, o_12 P, o_13 P, o_14 P]
noncomputable def treeA0 (P : Params) (X : Nat → Obj) : BT := (.node (boot_o_0 P) (.node (boot_o_1 P) (.node (boot_o_3 P) (.node (boot_o_7 P) .nil .nil) (.node (o_11 P) .nil .nil)) (.node (boot_o_5 P) (.node (boot_o_9 P) .nil .nil) (.node (o_13 P) .nil .nil))) (.node (boot_o_2 P) (.node (boot_o_4 P) (.node (boot_o_8 P) .nil .nil) (.node (o_12 P) .nil .nil)) (.node (boot_o_6 P) (.node (boot_o_10 P) .nil .nil) (.node (o_14 P) .nil .nil))))
noncomputable def listA (P : Params) (X : Nat → Obj) : List Obj := [boot_o_0 P, boot_o_1 P, boot_o_2 P, o_3 P, boot_o_4 P, boot_o_5 P, boot_o_6 P, boot_o_7 P, boot_o_8 P, boot_o_9 P, boot_o_10 P, o_11 P, o_12_1 P, o_13 P, o_14 P, o_15 P, o_16 P, o_17 P, o_18 P, o_19 P, o_20 P, o_21 P, o_22 P, o_23 P, o_24 P, o_25 P, o_26 P, o_27 P, o_28 P, o_29 P, o_30 P, o_31 P, o_32 P, o_33 P, o_34 P, o_35 P, o_36 P, o_37 P, o_38 P, o_39 P, o_40 P, o_41 P, o_42 P, o_43 P, o_44 P, o_45 P, o_46 P, o_47 P, o_48 P, o_49 P, o_50 P, o_51 P, o_52 P, o_53 P, o_54 P, o_55 P, o_56 P, o_57 P, o_58 P, o_59 P, o_60 P, o_61 P, o_62 P, o_63 P]
noncomputable def treeA (P : Params) (X : Nat → Obj) : BT := (.node (boot_o_0 P) (.node (boot_o_1 P) (.node (o_3 P) (.node (boot_o_7 P) (.node (o_15 P) (.node (o_31 P) (.node (o_63 P) .nil .nil) .nil) (.node (o_47 P) .nil .nil)) (.node (o_23 P) (.node (o_39 P) .nil .nil) (.node (o_55 P) .nil .nil))) (.node (o_11 P) (.node (o_19 P) (.node (o_35 P) .nil .nil) (.node (o_51 P) .nil .nil)) (.node (o_27 P) (.node (o_43 P) .nil .nil) (.node (o_59 P) .nil .nil)))) (.node (boot_o_5 P) (.node (boot_o_9 P) (.node (o_17 P) (.node (o_33 P) .nil .nil) (.node (o_49 P) .nil .nil)) (.node (o_25 P) (.node (o_41 P) .nil .nil) (.node (o_57 P) .nil .nil))) (.node (o_13 P) (.node (o_21 P) (.node (o_37 P) .nil .nil) (.node (o_53 P) .nil .nil)) (.node (o_29 P) (.node (o_45 P) .nil .nil) (.node (o_61 P) .nil .nil))))) (.node (boot_o_2 P) (.node (boot_o_4 P) (.node (boot_o_8 P) (.node (o_16 P) (.node (o_32 P) .nil .nil) (.node (o_48 P) .nil .nil)) (.node (o_24 P) (.node (o_40 P) .nil .nil) (.node (o_56 P) .nil .nil))) (.node (o_12_1 P) (.node (o_20 P) (.node (o_36 P) .nil .nil) (.node (o_52 P) .nil .nil)) (.node (o_28 P) (.node (o_44 P) .nil .nil) (.node (o_60 P) .nil .nil)))) (.node (boot_o_6 P) (.node (boot_o_10 P) (.node (o_18 P) (.node (o_34 P) .nil .nil) (.node (o_50 P) .nil .nil)) (.node (o_26 P) (.node (o_42 P) .nil .nil) (.node (o_58 P) .nil .nil))) (.node (o_14 P) (.node (o_22 P) (.node (o_38 P) .nil .nil) (.node (o_54 P) .nil .nil)) (.node (o_30 P) (.node (o_46 P) .nil .nil) (.node (o_62 P) .nil .nil))))))
noncomputable def listB (P : Params) (X : Nat → Obj) : List Obj := [boot_o_0 P, boot_o_1 P, boot_o_2 P, o_3_1 P, boot_o_4 P, boot_o_5 P, boot_o_6 P, boot_o_7 P, boot_o_8 P, boot_o_9 P, boot_o_10 P, o_11 P, o_12_1 P, o_13 P, o_14 P, o_15 P, o_16 P, o_17 P, o_18 P, o_19 P, o_20 P, o_21 P, o_22 P, o_23 P, o_24 P, o_25 P, o_26 P, o_27 P, o_28 P, o_29 P, o_30 P, o_31 P, o_32 P, o_33 P, o_34 P, o_35 P, o_36 P, o_37 P, o_38 P, o_39 P, o_40 P, o_41 P, o_42 P, o_43 P, o_44 P, o_45 P, o_46 P, o_47 P, o_48 P, o_49 P, o_50 P, o_51 P, o_52 P, o_53 P, o_54 P, o_55 P, o_56 P, o_57 P, o_58 P, o_59 P, o_60 P, o_61 P, o_62 P, o_63 P, o_64 P, o_65 P, o_66 P, o_67 P, o_68 P, o_69 P, o_70 P, o_71 P, o_72 P, o_73 P, o_74 P]
noncomputable def treeB (P : Params) (X : Nat → Obj) : BT := (.node (boot_o_0 P) (.node (boot_o_1 P) (.node (o_3_1 P) (.node (boot_o_7 P) (.node (o_15 P) (.node (o_31 P) (.node (o_63 P) .nil .nil) .nil) (.node (o_47 P) .nil .nil)) (.node (o_23 P) (.node (o_39 P) (.node (o_71 P) .nil .nil) .nil) (.node (o_55 P) .nil .nil))) (.node (o_11 P) (.node (o_19 P) (.node (o_35 P) (.node (o_67 P) .nil .nil) .nil) (.node (o_51 P) .nil .nil)) (.node (o_27 P) (.node (o_43 P) .nil .nil) (.node (o_59 P) .nil .nil)))) (.node (boot_o_5 P) (.node (boot_o_9 P) (.node (o_17 P) (.node (o_33 P) (.node (o_65 P) .nil .nil) .nil) (.node (o_49 P) .nil .nil)) (.node (o_25 P) (.node (o_41 P) (.node (o_73 P) .nil .nil) .nil) (.node (o_57 P) .nil .nil))) (.node (o_13 P) (.node (o_21 P) (.node (o_37 P) (.node (o_69 P) .nil .nil) .nil) (.node (o_53 P) .nil .nil)) (.node (o_29 P) (.node (o_45 P) .nil .nil) (.node (o_61 P) .nil .nil))))) (.node (boot_o_2 P) (.node (boot_o_4 P) (.node (boot_o_8 P) (.node (o_16 P) (.node (o_32 P) (.node (o_64 P) .nil .nil) .nil) (.node (o_48 P) .nil .nil)) (.node (o_24 P) (.node (o_40 P) (.node (o_72 P) .nil .nil) .nil) (.node (o_56 P) .nil .nil))) (.node (o_12_1 P) (.node (o_20 P) (.node (o_36 P) (.node (o_68 P) .nil .nil) .nil) (.node (o_52 P) .nil .nil)) (.node (o_28 P) (.node (o_44 P) .nil .nil) (.node (o_60 P) .nil .nil)))) (.node (boot_o_6 P) (.node (boot_o_10 P) (.node (o_18 P) (.node (o_34 P) (.node (o_66 P) .nil .nil) .nil) (.node (o_50 P) .nil .nil)) (.node (o_26 P) (.node (o_42 P) (.node (o_74 P) .nil .nil) .nil) (.node (o_58 P) .nil .nil))) (.node (o_14 P) (.node (o_22 P) (.node (o_38 P) (.node (o_70 P) .nil .nil) .nil) (.node (o_54 P) .nil .nil)) (.node (o_30 P) (.node (o_46 P) .nil .nil) (.node (o_62 P) .nil .nil))))))
noncomputable def listC (P : Params) (X : Nat → Obj) : List Obj := [boot_o_0 P, boot_o_1 P, boot_o_2 P, o_3_2 P, boot_o_4 P, boot_o_5 P, boot_o_6 P, boot_o_7 P, boot_o_8 P, boot_o_9 P, boot_o_10 P, o_11 P, o_12_2 P, o_13 P, o_14 P, o_15 P, o_16 P, o_17 P, o_18 P, o_19 P, o_20 P, o_21 P, o_22 P, o_23 P, o_24 P, o_25 P, o_26 P, o_27 P, o_28 P, o_29 P, o_30 P, o_31 P, o_32 P, o_33 P, o_34 P, o_35 P, o_36 P, o_37 P, o_38 P, o_39 P, o_40 P, o_41 P, o_42 P, o_43 P, o_44 P, o_45 P, o_46 P, o_47 P, o_48 P, o_49 P, o_50 P, o_51 P, o_52 P, o_53 P, o_54 P, o_55 P, o_56 P, o_57 P, o_58 P, o_59 P, o_60 P, o_61 P, o_62 P, o_63 P, o_64 P, o_65 P, o_66 P, o_67 P, o_68 P, o_69 P, o_70 P, o_71 P, o_72 P, o_73 P, o_74 P, o_75 P, o_76 P, o_77 P, o_78 P, o_79 P, o_80 P, o_81 P]
noncomputable def treeC (P : Params) (X : Nat → Obj) : BT := (.node (boot_o_0 P) (.node (boot_o_1 P) (.node (o_3_2 P) (.node (boot_o_7 P) (.node (o_15 P) (.node (o_31 P) (.node (o_63 P) .nil .nil) .nil) (.node (o_47 P) (.node (o_79 P) .nil .nil) .nil)) (.node (o_23 P) (.node (o_39 P) (.node (o_71 P) .nil .nil) .nil) (.node (o_55 P) .nil .nil))) (.node (o_11 P) (.node (o_19 P) (.node (o_35 P) (.node (o_67 P) .nil .nil) .nil) (.node (o_51 P) .nil .nil)) (.node (o_27 P) (.node (o_43 P) (.node (o_75 P) .nil .nil) .nil) (.node (o_59 P) .nil .nil)))) (.node (boot_o_5 P) (.node (boot_o_9 P) (.node (o_17 P) (.node (o_33 P) (.node (o_65 P) .nil .nil) .nil) (.node (o_49 P) (.node (o_81 P) .nil .nil) .nil)) (.node (o_25 P) (.node (o_41 P) (.node (o_73 P) .nil .nil) .nil) (.node (o_57 P) .nil .nil))) (.node (o_13 P) (.node (o_21 P) (.node (o_37 P) (.node (o_69 P) .nil .nil) .nil) (.node (o_53 P) .nil .nil)) (.node (o_29 P) (.node (o_45 P) (.node (o_77 P) .nil .nil) .nil) (.node (o_61 P) .nil .nil))))) (.node (boot_o_2 P) (.node (boot_o_4 P) (.node (boot_o_8 P) (.node (o_16 P) (.node (o_32 P) (.node (o_64 P) .nil .nil) .nil) (.node (o_48 P) (.node (o_80 P) .nil .nil) .nil)) (.node (o_24 P) (.node (o_40 P) (.node (o_72 P) .nil .nil) .nil) (.node (o_56 P) .nil .nil))) (.node (o_12_2 P) (.node (o_20 P) (.node (o_36 P) (.node (o_68 P) .nil .nil) .nil) (.node (o_52 P) .nil .nil)) (.node (o_28 P) (.node (o_44 P) (.node (o_76 P) .nil .nil) .nil) (.node (o_60 P) .nil .nil)))) (.node (boot_o_6 P) (.node (boot_o_10 P) (.node (o_18 P) (.node (o_34 P) (.node (o_66 P) .nil .nil) .nil) (.node (o_50 P) .nil .nil)) (.node (o_26 P) (.node (o_42 P) (.node (o_74 P) .nil .nil) .nil) (.node (o_58 P) .nil .nil))) (.node (o_14 P) (.node (o_22 P) (.node (o_38 P) (.node (o_70 P) .nil .nil) .nil) (.node (o_54 P) .nil .nil)) (.node (o_30 P) (.node (o_46 P) (.node (o_78 P) .nil .nil) .nil) (.node (o_62 P) .nil .nil))))))
noncomputable def listD (P : Params) (X : Nat → Obj) : List Obj := [boot_o_0 P, boot_o_1 P, boot_o_2 P, o_3_3 P, boot_o_4 P, boot_o_5 P, boot_o_6 P, boot_o_7 P, boot_o_8 P, boot_o_9 P, boot_o_10 P, o_11 P, o_12_2 P, o_13 P, o_14 P, o_15 P, o_16 P, o_17 P, o_18 P, o_19 P, o_20 P, o_21 P, o_22 P, o_23 P, o_24 P, o_25 P, o_26 P, o_27 P, o_28 P, o_29 P, o_30 P, o_31 P, o_32 P, o_33 P, o_34 P, o_35 P, o_36 P, o_37 P, o_38 P, o_39 P, o_40 P, o_41 P, o_42 P, o_43 P, o_44 P, o_45 P, o_46 P, o_47 P, o_48 P, o_49 P, o_50 P, o_51 P, o_52 P, o_53 P, o_54 P, o_55 P, o_56 P, o_57 P, o_58 P, o_59 P, o_60 P, o_61 P, o_62 P, o_63 P, o_64 P, o_65 P, o_66 P, o_67 P, o_68 P, o_69 P, o_70 P, o_71 P, o_72 P, o_73 P, o_74 P, o_75 P, o_76 P, o_77 P, o_78 P, o_79 P, o_80 P, o_81 P, X 0, X 1, X 2, X 3, X 4, X 5, X 6, X 7, X 8, X 9, X 10, X 11, X 12, X 13, X 14, X 15, X 16, X 17, X 18, X 19, X 20, X 21, X 22, X 23, X 24, X 25, X 26, X 27, X 28, X 29, X 30, X 31, X 32, X 33, X 34, X 35, X 36, X 37, X 38]
noncomputable def treeD (P : Params) (X : Nat → Obj) : BT := (.node (boot_o_0 P) (.node (boot_o_1 P) (.node (o_3_3 P) (.node (boot_o_7 P) (.node (o_15 P) (.node (o_31 P) (.node (o_63 P) .nil .nil) (.node (X 13) .nil .nil)) (.node (o_47 P) (.node (o_79 P) .nil .nil) (.node (X 29) .nil .nil))) (.node (o_23 P) (.node (o_39 P) (.node (o_71 P) .nil .nil) (.node (X 21) .nil .nil)) (.node (o_55 P) (.node (X 5) .nil .nil) (.node (X 37) .nil .nil)))) (.node (o_11 P) (.node (o_19 P) (.node (o_35 P) (.node (o_67 P) .nil .nil) (.node (X 17) .nil .nil)) (.node (o_51 P) (.node (X 1) .nil .nil) (.node (X 33) .nil .nil))) (.node (o_27 P) (.node (o_43 P) (.node (o_75 P) .nil .nil) (.node (X 25) .nil .nil)) (.node (o_59 P) (.node (X 9) .nil .nil) .nil)))) (.node (boot_o_5 P) (.node (boot_o_9 P) (.node (o_17 P) (.node (o_33 P) (.node (o_65 P) .nil .nil) (.node (X 15) .nil .nil)) (.node (o_49 P) (.node (o_81 P) .nil .nil) (.node (X 31) .nil .nil))) (.node (o_25 P) (.node (o_41 P) (.node (o_73 P) .nil .nil) (.node (X 23) .nil .nil)) (.node (o_57 P) (.node (X 7) .nil .nil) .nil))) (.node (o_13 P) (.node (o_21 P) (.node (o_37 P) (.node (o_69 P) .nil .nil) (.node (X 19) .nil .nil)) (.node (o_53 P) (.node (X 3) .nil .nil) (.node (X 35) .nil .nil))) (.node (o_29 P) (.node (o_45 P) (.node (o_77 P) .nil .nil) (.node (X 27) .nil .nil)) (.node (o_61 P) (.node (X 11) .nil .nil) .nil))))) (.node (boot_o_2 P) (.node (boot_o_4 P) (.node (boot_o_8 P) (.node (o_16 P) (.node (o_32 P) (.node (o_64 P) .nil .nil) (.node (X 14) .nil .nil)) (.node (o_48 P) (.node (o_80 P) .nil .nil) (.node (X 30) .nil .nil))) (.node (o_24 P) (.node (o_40 P) (.node (o_72 P) .nil .nil) (.node (X 22) .nil .nil)) (.node (o_56 P) (.node (X 6) .nil .nil) (.node (X 38) .nil .nil)))) (.node (o_12_2 P) (.node (o_20 P) (.node (o_36 P) (.node (o_68 P) .nil .nil) (.node (X 18) .nil .nil)) (.node (o_52 P) (.node (X 2) .nil .nil) (.node (X 34) .nil .nil))) (.node (o_28 P) (.node (o_44 P) (.node (o_76 P) .nil .nil) (.node (X 26) .nil .nil)) (.node (o_60 P) (.node (X 10) .nil .nil) .nil)))) (.node (boot_o_6 P) (.node (boot_o_10 P) (.node (o_18 P) (.node (o_34 P) (.node (o_66 P) .nil .nil) (.node (X 16) .nil .nil)) (.node (o_50 P) (.node (X 0) .nil .nil) (.node (X 32) .nil .nil))) (.node (o_26 P) (.node (o_42 P) (.node (o_74 P) .nil .nil) (.node (X 24) .nil .nil)) (.node (o_58 P) (.node (X 8) .nil .nil) .nil))) (.node (o_14 P) (.node (o_22 P) (.node (o_38 P) (.node (o_70 P) .nil .nil) (.node (X 20) .nil .nil)) (.node (o_54 P) (.node (X 4) .nil .nil) (.node (X 36) .nil .nil))) (.node (o_30 P) (.node (o_46 P) (.node (o_78 P) .nil .nil) (.node (X 28) .nil .nil)) (.node (o_62 P) (.node (X 12) .nil .nil) .nil))))))
noncomputable def listE (P : Params) (X : Nat → Obj) : List Obj := [boot_o_0 P, boot_o_1 P, boot_o_2 P, o_3_4 P, boot_o_4 P, boot_o_5 P, boot_o_6 P, boot_o_7 P, boot_o_8 P, boot_o_9 P, boot_o_10 P, o_11 P, o_12_3 P, o_13 P, o_14 P, o_15 P, o_16 P, o_17 P, o_18 P, o_19 P, o_20 P, o_21 P, o_22 P, o_23 P, o_24 P, o_25 P, o_26 P, o_27 P, o_28 P, o_29 P, o_30 P, o_31 P, o_32 P, o_33 P, o_34 P, o_35 P, o_36 P, o_37 P, o_38 P, o_39 P, o_40 P, o_41 P, o_42 P, o_43 P, o_44 P, o_45 P, o_46 P, o_47 P, o_48 P, o_49 P, o_50 P, o_51 P, o_52 P, o_53 P, o_54 P, o_55 P, o_56 P, o_57 P, o_58 P, o_59 P, o_60 P, o_61 P, o_62 P, o_63 P, o_64 P, o_65 P, o_66 P, o_67 P, o_68 P, o_69 P, o_70 P, o_71 P, o_72 P, o_73 P, o_74 P, o_75 P, o_76 P, o_77 P, o_78 P, o_79 P, o_80 P, o_81 P, X 0, X 1, X 2, X 3, X 4, X 5, X 6, X 7, X 8, X 9, X 10, X 11, X 12, X 13, X 14, X 15, X 16, X 17, X 18, X 19, X 20, X 21, X 22, X 23, X 24, X 25, X 26, X 27, X 28, X 29, X 30, X 31, X 32, X 33, X 34, X 35, X 36, X 37, X 38, o_121 P, o_122 P, o_123 P, o_124 P, o_125 P, o_126 P, o_127 P, o_128 P, o_129 P, o_130 P, o_131 P, o_132 P, o_133 P, o_134 P, o_135 P, o_136 P, o_137 P, o_138 P, o_139 P, o_140 P, o_141 P, o_142 P, o_143 P, o_144 P, o_145 P, o_146 P, o_147 P, o_148 P, o_149 P, o_150 P, o_151 P, o_152 P, o_153 P, o_154 P, o_155 P, o_156 P, o_157 P, o_158 P, o_159 P, o_160 P, o_161 P, o_162 P, o_163 P, o_164 P, o_165 P, o_166 P, o_167 P, o_168 P, o_169 P, o_170 P, o_171 P, o_172 P, o_173 P, o_174 P, o_175 P, o_176 P, o_177 P, o_178 P]
noncomputable def treeE (P : Params) (X : Nat → Obj) : BT := (.node (boot_o_0 P) (.node (boot_o_1 P) (.node (o_3_4 P) (.node (boot_o_7 P) (.node (o_15 P) (.node (o_31 P) (.node (o_63 P) (.node (o_127 P) .nil .nil) .nil) (.node (X 13) (.node (o_159 P) .nil .nil) .nil)) (.node (o_47 P) (.node (o_79 P) (.node (o_143 P) .nil .nil) .nil) (.node (X 29) (.node (o_175 P) .nil .nil) .nil))) (.node (o_23 P) (.node (o_39 P) (.node (o_71 P) (.node (o_135 P) .nil .nil) .nil) (.node (X 21) (.node (o_167 P) .nil .nil) .nil)) (.node (o_55 P) (.node (X 5) (.node (o_151 P) .nil .nil) .nil) (.node (X 37) .nil .nil)))) (.node (o_11 P) (.node (o_19 P) (.node (o_35 P) (.node (o_67 P) (.node (o_131 P) .nil .nil) .nil) (.node (X 17) (.node (o_163 P) .nil .nil) .nil)) (.node (o_51 P) (.node (X 1) (.node (o_147 P) .nil .nil) .nil) (.node (X 33) .nil .nil))) (.node (o_27 P) (.node (o_43 P) (.node (o_75 P) (.node (o_139 P) .nil .nil) .nil) (.node (X 25) (.node (o_171 P) .nil .nil) .nil)) (.node (o_59 P) (.node (X 9) (.node (o_155 P) .nil .nil) .nil) (.node (o_123 P) .nil .nil))))) (.node (boot_o_5 P) (.node (boot_o_9 P) (.node (o_17 P) (.node (o_33 P) (.node (o_65 P) (.node (o_129 P) .nil .nil) .nil) (.node (X 15) (.node (o_161 P) .nil .nil) .nil)) (.node (o_49 P) (.node (o_81 P) (.node (o_145 P) .nil .nil) .nil) (.node (X 31) (.node (o_177 P) .nil .nil) .nil))) (.node (o_25 P) (.node (o_41 P) (.node (o_73 P) (.node (o_137 P) .nil .nil) .nil) (.node (X 23) (.node (o_169 P) .nil .nil) .nil)) (.node (o_57 P) (.node (X 7) (.node (o_153 P) .nil .nil) .nil) (.node (o_121 P) .nil .nil)))) (.node (o_13 P) (.node (o_21 P) (.node (o_37 P) (.node (o_69 P) (.node (o_133 P) .nil .nil) .nil) (.node (X 19) (.node (o_165 P) .nil .nil) .nil)) (.node (o_53 P) (.node (X 3) (.node (o_149 P) .nil .nil) .nil) (.node (X 35) .nil .nil))) (.node (o_29 P) (.node (o_45 P) (.node (o_77 P) (.node (o_141 P) .nil .nil) .nil) (.node (X 27) (.node (o_173 P) .nil .nil) .nil)) (.node (o_61 P) (.node (X 11) (.node (o_157 P) .nil .nil) .nil) (.node (o_125 P) .nil .nil)))))) (.node (boot_o_2 P) (.node (boot_o_4 P) (.node (boot_o_8 P) (.node (o_16 P) (.node (o_32 P) (.node (o_64 P) (.node (o_128 P) .nil .nil) .nil) (.node (X 14) (.node (o_160 P) .nil .nil) .nil)) (.node (o_48 P) (.node (o_80 P) (.node (o_144 P) .nil .nil) .nil) (.node (X 30) (.node (o_176 P) .nil .nil) .nil))) (.node (o_24 P) (.node (o_40 P) (.node (o_72 P) (.node (o_136 P) .nil .nil) .nil) (.node (X 22) (.node (o_168 P) .nil .nil) .nil)) (.node (o_56 P) (.node (X 6) (.node (o_152 P) .nil .nil) .nil) (.node (X 38) .nil .nil)))) (.node (o_12_3 P) (.node (o_20 P) (.node (o_36 P) (.node (o_68 P) (.node (o_132 P) .nil .nil) .nil) (.node (X 18) (.node (o_164 P) .nil .nil) .nil)) (.node (o_52 P) (.node (X 2) (.node (o_148 P) .nil .nil) .nil) (.node (X 34) .nil .nil))) (.node (o_28 P) (.node (o_44 P) (.node (o_76 P) (.node (o_140 P) .nil .nil) .nil) (.node (X 26) (.node (o_172 P) .nil .nil) .nil)) (.node (o_60 P) (.node (X 10) (.node (o_156 P) .nil .nil) .nil) (.node (o_124 P) .nil .nil))))) (.node (boot_o_6 P) (.node (boot_o_10 P) (.node (o_18 P) (.node (o_34 P) (.node (o_66 P) (.node (o_130 P) .nil .nil) .nil) (.node (X 16) (.node (o_162 P) .nil .nil) .nil)) (.node (o_50 P) (.node (X 0) (.node (o_146 P) .nil .nil) .nil) (.node (X 32) (.node (o_178 P) .nil .nil) .nil))) (.node (o_26 P) (.node (o_42 P) (.node (o_74 P) (.node (o_138 P) .nil .nil) .nil) (.node (X 24) (.node (o_170 P) .nil .nil) .nil)) (.node (o_58 P) (.node (X 8) (.node (o_154 P) .nil .nil) .nil) (.node (o_122 P) .nil .nil)))) (.node (o_14 P) (.node (o_22 P) (.node (o_38 P) (.node (o_70 P) (.node (o_134 P) .nil .nil) .nil) (.node (X 20) (.node (o_166 P) .nil .nil) .nil)) (.node (o_54 P) (.node (X 4) (.node (o_150 P) .nil .nil) .nil) (.node (X 36) .nil .nil))) (.node (o_30 P) (.node (o_46 P) (.node (o_78 P) (.node (o_142 P) .nil .nil) .nil) (.node (X 28) (.node (o_174 P) .nil .nil) .nil)) (.node (o_62 P) (.node (X 12) (.node (o_158 P) .nil .nil) .nil) (.node (o_126 P) .nil .nil)))))))
def envT : Env := { scope := pw.main.scope, locals := mainNs, globals := mainNs, cells := [], code := .ref 13, frame := some 14 }
def codeT : Code := .body (behindTheImports pw) envT
def q0 : Pos := ⟨0, 0, 0, 0⟩
def BT0 : List Frame := [topFrame q0]
def annT : Option Value := some (.ref 6)
def shL (l : List Obj) (tk : Nat) (os : OsState) : Shared := ⟨⟨l.toArray, {}⟩, #[], {}, tk, os⟩
def shT (t : BT) (n tk : Nat) (os : OsState) : SharedT := ⟨t, n, {}, #[], {}, tk, os⟩

theorem pre_run (w : World) (os : OsState) (X : Nat → Obj) : topGo treeTable pw w 11 annT 12 ⟨boot_heap w.params, Array.mk [], boot_drawn, boot_toks, os⟩ (topStub pw) =
    some (shL (listA0 w.params X) 187 os, ⟨denote treeTable codeT, codeT, q0, BT0⟩) := by kernel_rfl!
theorem block_run (w : World) (os : OsState) (X : Nat → Obj) : segRun treeTable pw w 11 annT 1 1 (shL (listA0 w.params X) 187 os) (blockOf (behindTheImports pw) envT codeT q0 BT0) =
    some (.next, (shT (treeA0 w.params X) 15 187 os).abs, codeT, q0) := by kernel_rfl!
theorem runA (w : World) (os : OsState) (X : Nat → Obj) : segRunT treeTable pw w 11 annT 1 234 (shT (treeA0 w.params X) 15 187 os) (piecesOf (sts 0 10) envT codeT q0 BT0) =
    some (.next, shT (treeA w.params X) 64 245 os, codeT, ⟨84, 0, 84, 8⟩) := by kernel_rfl!
theorem runC (w : World) (os : OsState) (X : Nat → Obj) : segRunT treeTable pw w 11 annT 1 30 (shT (treeB w.params X) 75 305 os) (piecesOf (sts 11 1) envT codeT ⟨85, 0, 85, 6⟩ BT0) =
    some (.next, shT (treeC w.params X) 82 312 os, codeT, ⟨86, 0, 87, 30⟩) := by kernel_rfl!
theorem runE (w : World) (os : OsState) (X : Nat → Obj) : segRunT treeTable pw w 11 annT 1 297 (shT (treeD w.params X) 121 2263 os) (piecesOf (sts 13 11) envT codeT ⟨88, 0, 88, 13⟩ BT0) =
    some (.next, shT (treeE w.params X) 179 2344 os, codeT, ⟨162, 0, 176, 57⟩) := by kernel_rfl!
theorem fin_run (w : World) (os : OsState) (X : Nat → Obj) : topRun treeTable pw w 11 annT 2 (shT (treeE w.params X) 179 2344 os).abs ⟨doneF .next, codeT, ⟨162, 0, 176, 57⟩, BT0⟩ =
    some (shL (listE w.params X) 2344 os) := by kernel_rfl!
end Law62

set_option maxRecDepth 100000
namespace Law62
open PySem PySem.W PySem.Calls PyProof.Rows

abbrev runBP (os : OsState) (X : Nat → Obj) (w : World) : Prop := PySem.W.Fast.tw10110043849684766642 PySem.W.Fast.tw14364793385576792824 pw w 11 annT 1 999 (shT (treeA w.params X) 64 245 os)
      ⟨(PySem.W.Fast.tw12563942051412417395 (sts 10 1) envT).wrap doneF deadEnd id id, codeT, ⟨84, 0, 84, 8⟩, BT0⟩ =
    some (.next, shT (treeB w.params X) 75 305 os, codeT, ⟨85, 0, 85, 6⟩)
theorem runB_f (os : OsState) (X : Nat → Obj) (w : World) : runBP os X (w.withFollow "special-get-raises" false) := by unfold runBP; kernel_rfl!
theorem runB_t (os : OsState) (X : Nat → Obj) (w : World) : runBP os X (w.withFollow "special-get-raises" true) := by unfold runBP; kernel_rfl!
theorem runB (w : World) (os : OsState) (X : Nat → Obj) : segRunT treeTable pw w 11 annT 1 999 (shT (treeA w.params X) 64 245 os) (piecesOf (sts 10 1) envT codeT ⟨84, 0, 84, 8⟩ BT0) =
    some (.next, shT (treeB w.params X) 75 305 os, codeT, ⟨85, 0, 85, 6⟩) := by
  have h : runBP os X w := byRow2 "special-get-raises" (runB_f os X) (runB_t os X) w
  unfold runBP at h
  unfold piecesOf
  rw [PySem.W.Fast.te10110043849684766642, PySem.W.Fast.te14364793385576792824, PySem.W.Fast.te12563942051412417395]
  exact h
end Law62

set_option maxRecDepth 100000
namespace Law62
open PySem PySem.W PySem.Calls PyProof.Rows

/-- the pairs of the table, read off the text -/
def data12 : List (Int × Str) := match stAt 12 with
  | .Assign _ (.Dict ks vs _) _ => (ks.zip vs).filterMap fun x => match x with
      | (some (.Constant (.int i) _ _), .Constant (.str s) _ _) => some (i, s)
      | _ => none
  | _ => []
def first12 : List (Int × Str) := data12.take 17
def mid12 : List (List (Int × Str)) := (List.range 37).map fun j => (data12.drop (17 * (j + 1))).take 17
def last12 : List (Int × Str) := data12.drop 646
theorem data12_cut : data12 = first12 ++ (mid12.flatten ++ last12) := by kernel_rfl!
def rising : List (Int × Str) → Bool
  | [] => true
  | [x] => decide (hashInt x.1 = x.1)
  | x :: y :: r => decide (hashInt x.1 = x.1) && decide (x.1 < y.1) && rising (y :: r)
theorem rising_spec : ∀ (l : List (Int × Str)), rising l = true → (∀ x ∈ l, hashInt x.1 = x.1) ∧ (l.map (·.1)).Pairwise (· < ·)
  | [], _ => ⟨fun _ h => (nomatch h), .nil⟩
  | [x], h => ⟨fun y hy => by rw [List.mem_singleton.mp hy]; exact of_decide_eq_true h, List.pairwise_singleton ..⟩
  | x :: y :: r, h => by
    unfold rising at h
    simp only [Bool.and_eq_true, decide_eq_true_eq] at h
    obtain ⟨⟨h1, h2⟩, h3⟩ := h
    obtain ⟨i1, i2⟩ := rising_spec (y :: r) h3
    refine ⟨fun z hz => ?_, ?_⟩
    · rcases List.mem_cons.mp hz with rfl | hz
      · exact h1
      · exact i1 z hz
    · rw [List.map_cons, List.pairwise_cons]
      refine ⟨fun z hz => ?_, i2⟩
      rw [List.map_cons] at hz i2
      rcases List.mem_cons.mp hz with rfl | hz
      · exact h2
      · exact Int.lt_trans h2 ((List.pairwise_cons.mp i2).1 z hz)
theorem data12_rising : rising data12 = true := by kernel_rfl!
theorem data12_apart : (data12.map fun x => hashInt x.1).Nodup := by
  obtain ⟨h1, h2⟩ := rising_spec _ data12_rising
  rw [List.map_congr_left (g := fun x => x.1) (fun x hx => h1 x hx)]
  exact h2.imp fun h => Int.ne_of_lt h
theorem first12_len : first12.length = 17 := by kernel_rfl!
theorem mid12_len : ∀ c ∈ mid12, c.length = 17 := by
  have h : (mid12.all fun c => c.length == 17) = true := by kernel_rfl!
  intro c hc
  exact beq_iff_eq.mp (List.all_eq_true.mp h c hc)
theorem mid12_flat : mid12.flatten.length = 629 := by kernel_rfl!
theorem mid12_count : mid12.length = 37 := by kernel_rfl!
theorem last12_len : last12.length = 4 := by kernel_rfl!

def d12 : Expr := match stAt 12 with | .Assign _ v _ => v | _ => .Constant .none 0 default
def p12 : Pos := match stAt 12 with | .Assign _ (.Dict _ _ p) _ => p | _ => default
theorem eval12 : eval d12 envT = (do standAt p12; dictDisplay ((data12.map (evPair p12)).map gv)) := by kernel_rfl!
end Law62

set_option maxRecDepth 100000
namespace Law62
open PySem PySem.W PySem.Calls PyProof.Rows

def listX (X : Nat → Obj) : List Obj := (List.range 39).map X
theorem map_getD {α : Type} (d : α) : ∀ l : List α, (List.range l.length).map (fun i => l.getD i d) = l := fun l => by
  apply List.ext_getElem
  · simp
  · intro i h1 h2
    simp [List.getElem?_eq_getElem h2]
theorem absC (P : Params) (X : Nat → Obj) (os : OsState) : (shT (treeC P X) 82 312 os).abs = shL (listC P X) 312 os := by kernel_rfl!
theorem absD (P : Params) (X : Nat → Obj) (os : OsState) : (shT (treeD P X) 121 2263 os).abs = shL (listD P X) 2263 os := by kernel_rfl!
theorem listC_len (P : Params) (X : Nat → Obj) : (listC P X).length = 82 := by kernel_rfl!
theorem bind12 (w : World) (os : OsState) (X : Nat → Obj) (q : Pos) (K : Unit → Sem Fin) (H : Value → Sem Fin) (gd : Bool → Bool) (lv : List Value → List Value) :
    segGo treeTable pw w 11 annT 1 6 ⟨⟨(listC w.params X ++ listX X).toArray, {}⟩, #[], {}, 2262, os⟩ ⟨(bindName envT "b3_exceptions" (.ref 82)).wrap K H gd lv, codeT, q, BT0⟩ =
      some (shL (listD w.params X) 2263 os, ⟨K (), codeT, q, BT0⟩) := by kernel_rfl!
def n12 : Str := match stAt 12 with | .Assign [.Name n _] _ _ => n | _ => default
def t12 : Pos := match stAt 12 with | .Assign [.Name _ p] _ _ => p | _ => default
def a12 : Pos := match stAt 12 with | .Assign _ _ p => p | _ => default
theorem st12 : sts 12 1 = [.Assign [.Name n12 t12] d12 a12] := by kernel_rfl!
theorem n12_is : n12 = "b3_exceptions" := by kernel_rfl!
theorem sw12 : swapsWith d12 (some (.Name n12 t12)) a12.line envT = pure false := by kernel_rfl!
theorem t12_is : t12 = ⟨88, 0, 88, 13⟩ := by kernel_rfl!

def big12 : Obj := dictOf (ents 312 first12 ++ ents (312 + 3 * first12.length) mid12.flatten ++ entsS (312 + 3 * first12.length + 3 * mid12.flatten.length) last12) (first12.length + mid12.flatten.length + last12.length)
def subs12 : List Obj := subsOf (312 + 3 * first12.length) mid12 ++ [dictOf (entsS (312 + 3 * first12.length + 3 * mid12.flatten.length) last12) last12.length]
def X12 (i : Nat) : Obj := (big12 :: subs12).getD i default
theorem subsOf_len : ∀ (l : List (List (Int × Str))) (t : Nat), (subsOf t l).length = l.length
  | [], _ => rfl
  | _ :: r, t => by rw [subsOf, List.length_cons, subsOf_len r, List.length_cons]
theorem listX12 : listX X12 = big12 :: subs12 := by
  have h : (big12 :: subs12).length = 39 := by
    rw [List.length_cons]; unfold subs12; rw [List.length_append, subsOf_len, mid12_count]; rfl
  unfold listX X12
  rw [← h]
  exact map_getD default _

theorem ev12 (w : World) (os : OsState) : Ev pw w 11 annT codeT BT0 12524 (execs (sts 12 1) envT) (shL (listC w.params X12) 312 os) ⟨86, 0, 87, 30⟩ .next (shL (listD w.params X12) 2263 os) ⟨88, 0, 88, 13⟩ := by
  rw [st12, execs_cons, exec_Assign_Name _ _ _ _ _ sw12]
  refine ev_bind (n := 12524) (m := 0) (a := .next) (s₁ := shL (listD w.params X12) 2263 os) (q₁ := ⟨88, 0, 88, 13⟩) ?_ (ev_pure _)
  refine ev_bind (n := 1) (m := 12523) (ev_standAt a12) ?_
  refine ev_bind (n := 12516) (m := 7) (a := .ref 82) (s₁ := ⟨⟨(listC w.params X12 ++ listX X12).toArray, {}⟩, #[], {}, 2262, os⟩) (q₁ := p12) ?_ ?_
  · rw [eval12]
    refine ev_bind (n := 1) (m := 12515) (ev_standAt p12) ?_
    rw [data12_cut]
    have h := ev_display (p := pw) (w := w) (ann := annT) (code := codeT) (F := topFrame q0) (pos := p12) (L := listC w.params X12) (life := {}) (gens := #[]) (drawn := {}) (os := os) (m₀ := 11) (by rw [listC_len]; omega) (by rw [listC_len]; omega) first12 mid12 last12 312 p12
      first12_len mid12_len (by intro e; have := last12_len; rw [e] at this; cases this) (by rw [last12_len]; omega) (by rw [first12_len, mid12_flat, last12_len]; omega) (by rw [← data12_cut]; exact data12_apart)
    rw [listX12]
    refine ev_eq (s₁ := ⟨HL (listC w.params X12) big12 subs12 {}, #[], {}, 312 + 3 * first12.length + 3 * mid12.flatten.length + 3 * last12.length, os⟩)
      (n := 2 + 13 * first12.length + (330 * mid12.length + (1 + (3 * last12.length + 10 * last12.length) + (5 + 6 * last12.length)))) ?_ (by rw [first12_len, mid12_count, last12_len]) ?_ rfl
    · rw [listC_len] at h
      exact h
    · rw [first12_len, mid12_flat, last12_len]
      rfl
  · refine ev_bind (n := 1) (m := 6) (ev_standAt t12) ?_
    refine ev_bind (n := 6) (m := 0) (a := ()) ?_ (by rw [← t12_is]; exact ev_pure _)
    rw [n12_is]
    exact fun K H gd lv => bind12 w os X12 t12 K H gd lv

theorem runD (w : World) (os : OsState) : segRun treeTable pw w 11 annT 1 12525 (shL (listC w.params X12) 312 os) (piecesOf (sts 12 1) envT codeT ⟨86, 0, 87, 30⟩ BT0) =
    some (.next, shL (listD w.params X12) 2263 os, codeT, ⟨88, 0, 88, 13⟩) :=
  seg_go (n := 12524) (N := 1) (ev12 w os doneF deadEnd id id) (by
    unfold segRun
    rfl)
end Law62

set_option maxRecDepth 100000
namespace Law62
open PySem PySem.W PySem.Calls PyProof.Rows

theorem body_cut : behindTheImports pw = sts 0 10 ++ (sts 10 1 ++ (sts 11 1 ++ (sts 12 1 ++ (sts 13 11 ++ [])))) := by kernel_rfl!

theorem top_run (w : World) (os : OsState) : topRun treeTable pw w 11 annT (12 + (1 + (234 + (999 + (30 + (12525 + (297 + 2))))))) ⟨boot_heap w.params, Array.mk [], boot_drawn, boot_toks, os⟩ (topStub pw) =
    some (shL (listE w.params X12) 2344 os) := by
  refine go_top (pre_run w os X12) ?_
  refine piece_block (block_run w os X12) ?_
  rw [body_cut]
  refine piece_app (segRun_of (runA w os X12)) ?_
  refine piece_app (segRun_of (runB w os X12)) ?_
  refine piece_app (segRun_of (runC w os X12)) ?_
  rw [absC]
  refine piece_app (runD w os) ?_
  rw [← absD]
  refine piece_app (segRun_of (runE w os X12)) ?_
  exact piece_nil (fin_run w os X12)

theorem opens (w : World) : (fencedOpening treeTable pw w 20000).map (fun s => (s.heap, s.gens, s.drawn, s.toks)) = some (boot_heap w.params, Array.mk [], boot_drawn, boot_toks) :=
  boot_open (p := pw) (by kernel_rfl!) (by rfl) (fun s => by kernel_rfl!) w

/-- the view: the law's own def -/
def qv : Program := { pw with main := { pw.main with body := [stAt 23] } }
def looseV : List Str := ["_raise_serialization_error", "_escape_cdata", "_escape_attrib", "_escape_attrib_html", "_escape_cdata_c14n", "_escape_attrib_c14n", "Int2AP", "b1_set", "in_table_b1", "b3_exceptions", "map_table_b3", "_law_page", "_law_read", "_law_plain", "_law_lengths", "_law_rows", "_law_numbers", "_law_sums", "_law_product"]
noncomputable def KE (P : Params) : Frag := (List.range 179).zip (listE P X12)

theorem looks1 (w : World) (os : OsState) : (staticsOk (importedModules pw.main.body) (boot_heap w.params) ⟨(listE w.params X12).toArray, {}⟩ && namesBound pw ⟨(listE w.params X12).toArray, {}⟩ && gensDone (shL (listE w.params X12) 2344 os) && laidKept (boot_heap w.params) ⟨(listE w.params X12).toArray, {}⟩) = true := by kernel_rfl!
theorem looks2 (w : World) (os : OsState) : openSeen qv looseV (importedModules pw.main.body) (fun _ => true) true (shL (listE w.params X12) 2344 os) = openGood qv looseV := by kernel_rfl!
theorem looks3 (w : World) (os : OsState) : (List.range 179).map (shL (listE w.params X12) 2344 os).heap.get? = (KE w.params).map fun p => some p.2 := by kernel_rfl!
end Law62

set_option maxRecDepth 100000
namespace Law62
open PySem PySem.W PySem.Calls PyProof.Rows

def YfE (s : Shared) : List (Option Obj) := (List.range 179).map s.heap.get?
noncomputable def YaE (w : World) : List (Option Obj) := (KE w.params).map fun p => some p.2
theorem left : LeftO pw qv looseV (fun _ => true) YfE YaE 20000 :=
  LeftO.of_pieces (H₀ := boot_heap) (H₁ := fun P => ⟨(listE P X12).toArray, {}⟩) (gs₀ := Array.mk []) (gs₁ := #[]) (d₀ := boot_drawn) (d₁ := {}) (k₀ := boot_toks) (k₁ := 2344) (m₀ := 11) (ann := annT) (M := 12 + (1 + (234 + (999 + (30 + (12525 + (297 + 2)))))))
    opens (fun w => by kernel_rfl!) (fun w os => top_run w os) (by rfl)
    (fun w => by
      funext os
      exact Prod.ext (looks1 w os) (Prod.ext (looks2 w os) (looks3 w os)))

theorem KE_in (w : World) (s : Shared) (e : YfE s = YaE w) : InK KE w s.heap :=
  InK.of (K := KE) (as := List.range 179) (fun P => by kernel_rfl!) w s e

/-- the head: what is left is the call -/
theorem head {d : DefRec} {kwd : List (Str × Expr)} (hdef : defOf qv PySem.Challenge.rw_tr0062_01.row.name = some (d, kwd)) (hp : PySem.Challenge.rw_tr0062_01.row.prog.theDef PySem.Challenge.rw_tr0062_01.row.name = some (d.params, d.body, d.scope))
    (hk : kwWritten? d.params.kwonlyargs d.params.kw_defaults = some kwd)
    (call : WalkO qv looseV (fun _ _ => True) (fun w h => InK KE w h) PySem.Challenge.rw_tr0062_01.row.toRowW d kwd fun f vs => PySem.call f vs) : PySem.Challenge.rw_tr0062_01.Holds := by
  o_law
  exact W.holds_open (r := PySem.Challenge.rw_tr0062_01.row) (q := qv) (loose := looseV) (Xt := fun _ => true) (XP := fun _ _ => True) (Yf := YfE) (Ya := YaE) (YP := fun w h => InK KE w h) (N := 20000)
    left KE_in (fun w h h' x k => InK.keeps w h h' x k) (fun _ _ => trivial) (fun _ _ _ _ _ => trivial) hdef hp hk (fun s _ => recFacts_nil rfl) (by rfl) (by assumption) (by decide +kernel) ⟨rfl, rfl, rfl, rfl, rfl, by decide +kernel⟩ (by w_witness2) call
end Law62

set_option maxRecDepth 100000
set_option linter.unusedVariables false
namespace Law62
open PySem PySem.W PySem.Calls PyProof.Rows

def fname (i : Nat) : Str := match stAt i with | .FunctionDef n .. => n | _ => default
def fpar (i : Nat) : Arguments := match stAt i with | .FunctionDef _ a .. => a | _ => default
def fbody (i : Nat) : List Stmt := match stAt i with | .FunctionDef _ _ b .. => b | _ => []
def fsc (i : Nat) : Scope := match stAt i with | .FunctionDef _ _ _ _ _ _ sc .. => sc | _ => default

theorem keeps_refl (s : Shared) : Keeps s s := ⟨s.heap, s.toks, rfl, fun _ _ e => e⟩
theorem keeps_trans {s s₁ s₂ : Shared} (h : Keeps s s₁) (k : Keeps s₁ s₂) : Keeps s s₂ := by
  obtain ⟨h₁, t₁, rfl, k₁⟩ := h
  obtain ⟨h₂, t₂, rfl, k₂⟩ := k
  exact ⟨h₂, t₂, rfl, fun b o e => k₂ b o (k₁ b o e)⟩
theorem keeps_toks (s : Shared) (t : Nat) : Keeps s { s with toks := t } := ⟨s.heap, t, rfl, fun _ _ e => e⟩
theorem keeps_get {s s' : Shared} (h : Keeps s s') : ∀ b o, s.heap.get? b = some o → s'.heap.get? b = some o := by
  obtain ⟨h₁, t₁, rfl, k₁⟩ := h; exact k₁
/-- s' is s with more objects and later tokens -/
structure KT (s s' : Shared) : Prop where
  k : Keeps s s'
  t : s.toks ≤ s'.toks
theorem KT.refl (s : Shared) : KT s s := ⟨keeps_refl s, Nat.le_refl _⟩
theorem KT.trans {s s₁ s₂ : Shared} (h : KT s s₁) (k : KT s₁ s₂) : KT s s₂ := ⟨keeps_trans h.k k.k, Nat.le_trans h.t k.t⟩
theorem KT.get {s s' : Shared} (h : KT s s') : ∀ b o, s.heap.get? b = some o → s'.heap.get? b = some o := keeps_get h.k

/-- weaker: only the heap and the tokens are said of -/
structure WK (s s' : Shared) : Prop where
  get : ∀ b o, s.heap.get? b = some o → s'.heap.get? b = some o
  t : s.toks ≤ s'.toks
theorem KT.wk {s s' : Shared} (h : KT s s') : WK s s' := ⟨h.get, h.t⟩
theorem WK.refl (s : Shared) : WK s s := ⟨fun _ _ e => e, Nat.le_refl _⟩
theorem WK.trans {s s₁ s₂ : Shared} (h : WK s s₁) (k : KT s₁ s₂) : WK s s₂ := ⟨fun b o e => k.get b o (h.get b o e), Nat.le_trans h.t k.t⟩
theorem WK.ww {s s₁ s₂ : Shared} (h : WK s s₁) (k : WK s₁ s₂) : WK s s₂ := ⟨fun b o e => k.get b o (h.get b o e), Nat.le_trans h.t k.t⟩

/-- t hands on an a with R, and keeps all that stands -/
def Gv {α : Type} (w : World) (A : Around) (t : Sem α) (s : Shared) (R : α → Heap → Prop) : Prop := ∀ E, wpAny (model pw w) A t (fun a s' => R a s'.heap ∧ Keeps s s') E s

section
variable {α β : Type} {w : World} {A : Around} {s : Shared} {env : Env} {Q : Value → Shared → Prop} {E : Value → Shared → Prop}

theorem Gv.here {t : Sem α} {R : α → Heap → Prop} {Q : α → Shared → Prop} (h : Gv w A t s R) (k : ∀ a s', R a s'.heap → KT s s' → Q a s') : wpAny (model pw w) A t Q E s :=
  wpAny_mono (wpAny_toks_of (Nat.le_refl _) (h E)) (fun a s' x => k a s' x.2.1 ⟨x.2.2, x.1⟩) (fun _ _ x => x.2)
theorem Gv.mono {t : Sem α} {R R' : α → Heap → Prop} (h : Gv w A t s R) (k : ∀ a h', R a h' → R' a h') : Gv w A t s R' := fun _ => h.here fun a _ r kt => ⟨k a _ r, kt.k⟩
theorem Gv.bind {t : Sem α} {f : α → Sem β} {R : α → Heap → Prop} {R' : β → Heap → Prop} (h : Gv w A t s R) (k : ∀ a s', R a s'.heap → KT s s' → Gv w A (f a) s' R') : Gv w A (t >>= f) s R' := fun _ =>
  wpAny_bind (h.here fun a s' r kt => (k a s' r kt).here fun b s'' r' kt' => ⟨r', keeps_trans kt.k kt'.k⟩)

/-- e hands on a value with R wherever s has grown to -/
def EvP (w : World) (A : Around) (env : Env) (e : Expr) (s : Shared) (R : Value → Heap → Prop) : Prop := ∀ s', WK s s' → Gv w A (eval e env) s' R
/-- the test comes out as b -/
def TvB (w : World) (A : Around) (env : Env) (e : Expr) (s : Shared) (b : Bool) : Prop := ∀ s', WK s s' → Gv w A (isTrue e env (eval e env)) s' (fun c _ => c = b)
def IsI (v : Value) (i : Int) : Prop := ∃ t, v = .int i t
def IsS (v : Value) (x : Str) : Prop := ∃ t, v = .str x t
def EvI (w : World) (A : Around) (env : Env) (e : Expr) (s : Shared) (i : Int) : Prop := EvP w A env e s (fun v _ => IsI v i)
def EvS (w : World) (A : Around) (env : Env) (e : Expr) (s : Shared) (x : Str) : Prop := EvP w A env e s (fun v _ => IsS v x)

theorem EvP.grow {e : Expr} {s' : Shared} {R : Value → Heap → Prop} (h : EvP w A env e s R) (k : KT s s') : EvP w A env e s' R := fun s₁ k₁ => h s₁ (k.wk.ww k₁)
theorem EvP.wgrow {e : Expr} {s' : Shared} {R : Value → Heap → Prop} (h : EvP w A env e s R) (k : WK s s') : EvP w A env e s' R := fun s₁ k₁ => h s₁ (k.ww k₁)
theorem EvP.mono {e : Expr} {R R' : Value → Heap → Prop} (h : EvP w A env e s R) (k : ∀ v h', R v h' → R' v h') : EvP w A env e s R' := fun s₁ k₁ => (h s₁ k₁).mono k
theorem EvP.now {e : Expr} {R : Value → Heap → Prop} (h : EvP w A env e s R) (k : ∀ v s', R v s'.heap → KT s s' → Q v s') : wpAny (model pw w) A (eval e env) Q E s := (h s (WK.refl s)).here k
theorem EvP.at {e : Expr} {s' : Shared} {R : Value → Heap → Prop} (h : EvP w A env e s R) (kt : WK s s') (k : ∀ v s'', R v s''.heap → KT s' s'' → Q v s'') : wpAny (model pw w) A (eval e env) Q E s' := (h s' kt).here k
theorem TvB.now {e : Expr} {b : Bool} {Q : Bool → Shared → Prop} (h : TvB w A env e s b) (k : ∀ s', KT s s' → Q b s') : wpAny (model pw w) A (isTrue e env (eval e env)) Q E s := (h s (WK.refl s)).here fun c s' r kt => r ▸ k s' kt
theorem TvB.grow {e : Expr} {s' : Shared} {b : Bool} (h : TvB w A env e s b) (k : KT s s') : TvB w A env e s' b := fun s₁ k₁ => h s₁ (k.wk.ww k₁)
theorem TvB.wgrow {e : Expr} {s' : Shared} {b : Bool} (h : TvB w A env e s b) (k : WK s s') : TvB w A env e s' b := fun s₁ k₁ => h s₁ (k.ww k₁)

theorem kt_tok (s : Shared) : Keeps s { s with toks := s.toks + 1 } := keeps_toks s _

theorem evI_const (i : Int) (k : Nat) (pos : Pos) : EvI w A env (.Constant (.int i) k pos) s i := fun s' _ E => wpAny_Constant_int ⟨⟨_, rfl⟩, kt_tok _⟩
theorem evS_const (x : Str) (k : Nat) (pos : Pos) : EvS w A env (.Constant (.str x) k pos) s x := fun s' _ E => Constant_str ⟨⟨_, rfl⟩, kt_tok _⟩

theorem ev_local {x : Str} {pos : Pos} {m : Str → Option Value} {v : Value} (hn : s.heap.Ns env.locals m) (hv : m x = some v) (hk : env.scope.kind = .function := by rfl) (hl : env.kindOf x = some .local := by rfl)
    (hd : (x == ("__debug__" : Str)) = false := by decide) : EvP w A env (.Name x pos) s (fun y _ => y = v) := fun s' k E =>
  wpAny_Name (wpAny_loadName_local hk hl (hn.keeps k.get) hv ⟨rfl, keeps_refl _⟩) hd
theorem ev_cell {x : Str} {pos : Pos} {c : Addr} {v : Value} (hc : env.cells.lookup x = some c) (hv : s.heap.IsCell c (some v)) (hk : env.scope.kind = .function := by rfl) (hl : env.kindOf x = some .cell := by rfl)
    (hd : (x == ("__debug__" : Str)) = false := by decide) : EvP w A env (.Name x pos) s (fun y _ => y = v) := fun s' k E =>
  wpAny_Name (wpAny_loadName_cell hk hl hc (hv.keeps k.get) ⟨rfl, keeps_refl _⟩) hd

theorem ev_binop {l r : Expr} {op : Operator} {pos : Pos} {R₁ R₂ R : Value → Heap → Prop} (hl : EvP w A env l s R₁) (hr : EvP w A env r s R₂) (hs : ∀ v s' s'', WK s s' → KT s' s'' → R₁ v s'.heap → R₁ v s''.heap)
    (h : ∀ a b s', WK s s' → R₁ a s'.heap → R₂ b s'.heap → Gv w A (binaryOp op a b) s' R) : EvP w A env (.BinOp l op r pos) s R := fun s' k E =>
  wpAny_BinOp ((hl s' k).here fun a s₁ ra k₁ => (hr s₁ (k.trans k₁)).here fun b s₂ rb k₂ =>
    (h a b s₂ ((k.trans k₁).trans k₂) (hs a s₁ s₂ (k.trans k₁) k₂ ra) rb).here fun v s₃ rv k₃ => ⟨rv, (k₁.trans (k₂.trans k₃)).k⟩)
theorem evI_op {l r : Expr} {op : Operator} {pos : Pos} {a b c : Int} (hl : EvI w A env l s a) (hr : EvI w A env r s b)
    (h : ∀ t u s' E (Q : Value → Shared → Prop), (∀ t' k, Q (.int c t') { s' with toks := k }) → wpAny (model pw w) A (binaryOp op (.int a t) (.int b u)) Q E s') : EvI w A env (.BinOp l op r pos) s c :=
  ev_binop hl hr (fun _ _ _ _ _ x => x) fun va vb s' _ ⟨t, ea⟩ ⟨u, eb⟩ E => by
    subst ea eb
    exact h t u s' E _ fun t' k => ⟨⟨t', rfl⟩, keeps_toks _ _⟩
theorem evI_add {l r : Expr} {pos : Pos} {a b : Int} (hl : EvI w A env l s a) (hr : EvI w A env r s b) : EvI w A env (.BinOp l .Add r pos) s (a + b) :=
  evI_op hl hr fun t u s' E Q h => wpAny_add_int (h _ _)
theorem evI_sub {l r : Expr} {pos : Pos} {a b : Int} (hl : EvI w A env l s a) (hr : EvI w A env r s b) : EvI w A env (.BinOp l .Sub r pos) s (a - b) :=
  evI_op hl hr fun t u s' E Q h => PyProof.Rows.sub_int (h _ _)
theorem evI_mul {l r : Expr} {pos : Pos} {a b : Int} (hl : EvI w A env l s a) (hr : EvI w A env r s b) (hm : IntMulOk a b) : EvI w A env (.BinOp l .Mult r pos) s (a * b) :=
  evI_op hl hr fun t u s' E Q h => PyProof.Rows.mul_int (h _ _) hm
theorem evI_mod {l r : Expr} {pos : Pos} {a b : Int} (hl : EvI w A env l s a) (hr : EvI w A env r s b) (hb : b ≠ 0) : EvI w A env (.BinOp l .Mod r pos) s (a.fmod b) :=
  evI_op hl hr fun t u s' E Q h => PyProof.Rows.mod_int' hb (h _ _)
theorem evI_div {l r : Expr} {pos : Pos} {a b : Int} (hl : EvI w A env l s a) (hr : EvI w A env r s b) (hb : b ≠ 0) (hp : Builtin.divisionGoesByPylong a b = false) : EvI w A env (.BinOp l .FloorDiv r pos) s (a.fdiv b) :=
  evI_op hl hr fun t u s' E Q h => PyProof.Rows.floordiv_int hb (h _ _) (.inl hp)
theorem evI_pow {l r : Expr} {pos : Pos} {a b : Int} (hl : EvI w A env l s a) (hr : EvI w A env r s b) (h0 : 0 ≤ b) (h1 : b ≤ 1000000) (ha : a.natAbs < 2 ^ 64) : EvI w A env (.BinOp l .Pow r pos) s (a ^ b.toNat) :=
  evI_op hl hr fun t u s' E Q h => PyProof.Rows.pow_int_small h0 h1 ha (h _ _)

theorem tv_cmp {l r : Expr} {op : CmpOp} {pos : Pos} {a b : Int} {c : Bool} (hl : EvI w A env l s a) (hr : EvI w A env r s b)
    (h : ∀ t u s' E (Q : Value → Shared → Prop), Q (.bool c) s' → wpAny (model pw w) A (compareOp op (.int a t) (.int b u)) Q E s') (hm : behindInMarks op r = false := by with_unfolding_all rfl) : TvB w A env (.Compare l [op] [r] pos) s c := fun s' k E =>
  wpAny_isTrue_Compare1 ((hl s' k).here fun va s₁ ⟨t, ea⟩ k₁ => (hr s₁ (k.trans k₁)).here fun vb s₂ ⟨u, eb⟩ k₂ => by
    subst ea eb
    exact h t u s₂ E _ (wpAny_truthy_bool ⟨rfl, (k₁.trans k₂).k⟩)) hm
theorem tv_eq {l r : Expr} {pos : Pos} {a b : Int} (hl : EvI w A env l s a) (hr : EvI w A env r s b) (hm : behindInMarks .Eq r = false := by with_unfolding_all rfl) : TvB w A env (.Compare l [.Eq] [r] pos) s (a == b) :=
  tv_cmp hl hr (fun t u s' E Q h => PyProof.Rows.eq_int h) hm
theorem tv_lt {l r : Expr} {pos : Pos} {a b : Int} (hl : EvI w A env l s a) (hr : EvI w A env r s b) (hm : behindInMarks .Lt r = false := by with_unfolding_all rfl) : TvB w A env (.Compare l [.Lt] [r] pos) s (decide (a < b)) :=
  tv_cmp hl hr (fun t u s' E Q h => PyProof.Rows.lt_int h) hm
end
end Law62

set_option maxRecDepth 100000
set_option linter.unusedVariables false
namespace Law62
open PySem PySem.W PySem.Calls PyProof.Rows

/-- what the walk knows of the top at every heap -/
structure Gd (w : World) (mg mb : Str → Option Value) (h : Heap) : Prop where
  K : (KE w.params).In h
  T : TopRead qv looseV mg mb h
theorem Gd.keeps {w : World} {mg mb : Str → Option Value} {h h' : Heap} (G : Gd w mg mb h) (k : ∀ b o, h.get? b = some o → h'.get? b = some o) : Gd w mg mb h' := ⟨G.K.keeps k, G.T.keeps k⟩

def upd (m : Str → Option Value) (x : Str) (v : Value) : Str → Option Value := fun y => if y = x then some v else m y
theorem upd_same (m : Str → Option Value) (x : Str) (v : Value) : upd m x v x = some v := if_pos rfl
theorem upd_other (m : Str → Option Value) {x y : Str} (v : Value) (h : y ≠ x) : upd m x v y = m y := if_neg h

/-- a frame: entered from s₀, its locals m at L, its cells cs that hold cm, its own lists ow; what else stood at the mark hk stands -/
structure FS (s₀ : Shared) (L : Addr) (m : Str → Option Value) (cs : List (Str × Addr)) (cm : Str → Option Value) (ow : List (Addr × List Value)) (hk : Heap) (s : Shared) : Prop where
  same : ∃ h t, s = { s₀ with heap := h, toks := t }
  tk : s₀.toks ≤ s.toks
  fr : Fr s₀.heap L s.heap m
  cl : Cl L cs s.heap cm
  own : ∀ p ∈ ow, s.heap.PlainList p.1 p.2.toArray ∧ s₀.heap.get? p.1 = none
  nd : (ow.map (·.1)).Nodup
  ch : ∀ b o, b ≠ L → (∀ c ∈ cs, b ≠ c.2) → b ∉ ow.map (·.1) → hk.get? b = some o → s.heap.get? b = some o

section
variable {s₀ s s' : Shared} {L : Addr} {m cm : Str → Option Value} {cs : List (Str × Addr)} {ow : List (Addr × List Value)} {hk : Heap} {w : World} {A : Around} {E : Value → Shared → Prop}

theorem list_ne_dict {h : Heap} {a L : Addr} {items : Array Value} {m : Str → Option Value} (p : h.PlainList a items) (n : h.Ns L m) : a ≠ L := by
  rintro rfl
  obtain ⟨k, e⟩ := p
  obtain ⟨o, es, ep, e', d, _⟩ := n
  rw [e] at e'; cases e'; cases d
theorem list_ne_cell {h : Heap} {a c : Addr} {items : Array Value} {v : Option Value} (p : h.PlainList a items) (n : h.IsCell c v) : a ≠ c := by
  rintro rfl
  obtain ⟨k, e⟩ := p
  obtain ⟨o, e', d⟩ := n
  rw [e] at e'; cases e'; cases d

theorem FS.keeps (F : FS s₀ L m cs cm ow hk s) : Keeps s₀ s := by
  obtain ⟨h, t, rfl⟩ := F.same
  exact ⟨h, t, rfl, F.fr.keep⟩
theorem FS.kt (F : FS s₀ L m cs cm ow hk s) : KT s₀ s := ⟨F.keeps, F.tk⟩

theorem FS.grow (F : FS s₀ L m cs cm ow hk s) (k : KT s s') : FS s₀ L m cs cm ow hk s' := by
  obtain ⟨⟨h', t', rfl, kk⟩, kt⟩ := k
  obtain ⟨h, t, rfl⟩ := F.same
  exact ⟨⟨h', t', rfl⟩, Nat.le_trans F.tk kt, ⟨F.fr.ns.keeps kk, fun b o e => kk b o (F.fr.keep b o e), F.fr.above⟩, F.cl.keeps kk, fun p hp => ⟨(F.own p hp).1.at fun o e => kk _ o e, (F.own p hp).2⟩, F.nd,
    fun b o h1 h2 h3 e => kk b o (F.ch b o h1 h2 h3 e)⟩

theorem FS.mark (F : FS s₀ L m cs cm ow hk s) : FS s₀ L m cs cm ow s.heap s := ⟨F.same, F.tk, F.fr, F.cl, F.own, F.nd, fun _ _ _ _ _ e => e⟩

/-- a store into the frame's own dict -/
theorem FS.setLocal (F : FS s₀ L m cs cm ow hk s) {x : Str} {v : Value} {h' : Heap} {t' : Nat} (ht : s.toks ≤ t') (hn : h'.Ns L (fun y => if y = x then some v else m y)) (hs : Heap.SameBut L s.heap h') :
    FS s₀ L (upd m x v) cs cm ow hk { s with heap := h', toks := t' } := by
  have fr : Fr s₀.heap L h' (upd m x v) := F.fr.set hn hs
  obtain ⟨h, t, rfl⟩ := F.same
  exact ⟨⟨h', t', rfl⟩, Nat.le_trans F.tk ht, fr, F.cl.sameBut hs (Nat.le_refl _), fun p hp => ⟨(F.own p hp).1.extBut hs.extBut (list_ne_dict (F.own p hp).1 F.fr.ns), (F.own p hp).2⟩, F.nd,
    fun b o h1 h2 h3 e => hs.extBut b o h1 (F.ch b o h1 h2 h3 e)⟩

theorem FS.setCell (F : FS s₀ L m cs cm ow hk s) {x : Str} {c : Addr} {v : Value} {h' : Heap} (hc : cs.lookup x = some c) (hv : h'.IsCell c (some v)) (hs : Heap.SameBut c s.heap h') :
    FS s₀ L m cs (upd cm x v) ow hk { s with heap := h' } := by
  have hLc : L < c := F.cl.above x c (mem_of_lookup hc)
  obtain ⟨h, t, rfl⟩ := F.same
  refine ⟨⟨h', t, rfl⟩, F.tk, ⟨F.fr.ns.sameBut hs (Nat.ne_of_lt hLc), fun b o e => (hs.2 b (Nat.ne_of_lt (Nat.lt_trans (Nat.lt_of_lt_of_le (Heap.lt_size e) F.fr.above) hLc))).trans (F.fr.keep b o e), F.fr.above⟩,
    ⟨fun n c' e => ?_, F.cl.apart, F.cl.above⟩, fun p hp => ⟨(F.own p hp).1.extBut hs.extBut (list_ne_cell (F.own p hp).1 (F.cl.cell x c hc)), (F.own p hp).2⟩, F.nd,
    fun b o h1 h2 h3 e => hs.extBut b o (h2 _ (mem_of_lookup hc)) (F.ch b o h1 h2 h3 e)⟩
  by_cases hn : n = x
  · subst hn; rw [hc] at e; cases e; simpa [upd] using hv
  · have hcc : c' ≠ c := fun q => hn (name_of_addr F.cl.apart (mem_of_lookup e) (q ▸ mem_of_lookup hc))
    simpa [upd, hn] using (F.cl.cell n c' e).sameBut hs hcc

/-- a new list of the frame's own -/
theorem FS.addOwn (F : FS s₀ L m cs cm ow hk s) {D : Addr} {items : List Value} (hp : s.heap.PlainList D items.toArray) (h0 : s₀.heap.get? D = none) (hf : D ∉ ow.map (·.1)) : FS s₀ L m cs cm ((D, items) :: ow) hk s :=
  ⟨F.same, F.tk, F.fr, F.cl, fun p hp' => by rcases List.mem_cons.mp hp' with rfl | hp'; exact ⟨hp, h0⟩; exact F.own p hp', by rw [List.map_cons]; exact List.nodup_cons.mpr ⟨hf, F.nd⟩,
    fun b o h1 h2 h3 e => F.ch b o h1 h2 (fun hm => h3 (by rw [List.map_cons]; exact List.mem_cons_of_mem _ hm)) e⟩
theorem FS.fresh (F : FS s₀ L m cs cm ow hk s) {D : Addr} (hD : s.heap.get? D = none) : s₀.heap.get? D = none ∧ D ∉ ow.map (·.1) := by
  refine ⟨?_, fun hm => ?_⟩
  · cases e : s₀.heap.get? D with
    | none => rfl
    | some o => rw [F.fr.keep _ _ e] at hD; cases hD
  · obtain ⟨p, hp, rfl⟩ := List.mem_map.mp hm
    obtain ⟨o, e⟩ := (F.own p hp).1
    rw [e] at hD; cases hD

def setOw (a : Addr) (items : List Value) (ow : List (Addr × List Value)) : List (Addr × List Value) := ow.map fun p => if p.1 = a then (a, items) else p
theorem setOw_fst (a : Addr) (items : List Value) (ow : List (Addr × List Value)) : (setOw a items ow).map (·.1) = ow.map (·.1) := by
  unfold setOw
  rw [List.map_map]
  apply List.map_congr_left
  intro p hp
  show (if p.1 = a then (a, items) else p).1 = p.1
  split
  · rename_i h; exact h.symm
  · rfl
/-- one of the frame's own lists is changed -/
theorem FS.setList (F : FS s₀ L m cs cm ow hk s) {a : Addr} {items : List Value} {h' : Heap} {t' : Nat} (ht : s.toks ≤ t') (ha : a ∈ ow.map (·.1)) (hp : h'.PlainList a items.toArray) (hs : Heap.SameBut a s.heap h') :
    FS s₀ L m cs cm (setOw a items ow) hk { s with heap := h', toks := t' } := by
  obtain ⟨p, hpm, rfl⟩ := List.mem_map.mp ha
  have hpl := F.own p hpm
  have hL : p.1 ≠ L := list_ne_dict hpl.1 F.fr.ns
  obtain ⟨h, t, rfl⟩ := F.same
  refine ⟨⟨h', t', rfl⟩, Nat.le_trans F.tk ht, ⟨F.fr.ns.sameBut hs (Ne.symm hL), fun b o e => hs.extBut b o (fun q => by subst q; rw [hpl.2] at e; cases e) (F.fr.keep b o e), F.fr.above⟩,
    ⟨fun n c e => (F.cl.cell n c e).sameBut hs (Ne.symm (list_ne_cell hpl.1 (F.cl.cell n c e))), F.cl.apart, F.cl.above⟩, fun q hq => ?_, by rw [setOw_fst]; exact F.nd, fun b o h1 h2 h3 e => ?_⟩
  · unfold setOw at hq
    obtain ⟨r, hr, rfl⟩ := List.mem_map.mp hq
    split
    · exact ⟨hp, hpl.2⟩
    · rename_i hne
      exact ⟨(F.own r hr).1.extBut hs.extBut hne, (F.own r hr).2⟩
  · rw [setOw_fst] at h3
    exact hs.extBut b o (fun q => h3 (q ▸ ha)) (F.ch b o h1 h2 h3 e)

/-- the iterator moves: only wr changes -/
theorem FS.wr (F : FS s₀ L m cs cm ow hk s) {wr : List Addr} {h' : Heap} {t' : Nat} (ht : s.toks ≤ t') (hL : L ∉ wr) (hc : ∀ c ∈ cs, c.2 ∉ wr) (ho : ∀ p ∈ ow, p.1 ∉ wr) (h0 : ∀ b ∈ wr, s₀.heap.get? b = none) (h1 : ∀ b ∈ wr, hk.get? b = none)
    (hs : ∀ b o, b ∉ wr → s.heap.get? b = some o → h'.get? b = some o) : FS s₀ L m cs cm ow hk { s with heap := h', toks := t' } := by
  obtain ⟨h, t, rfl⟩ := F.same
  exact ⟨⟨h', t', rfl⟩, Nat.le_trans F.tk ht, ⟨F.fr.ns.at' fun o e => hs _ o hL e, fun b o e => hs b o (fun q => by rw [h0 b q] at e; cases e) (F.fr.keep b o e), F.fr.above⟩,
    ⟨fun n c e => let ⟨o, e', d⟩ := F.cl.cell n c e; ⟨o, hs c o (hc _ (mem_of_lookup e)) e', d⟩, F.cl.apart, F.cl.above⟩, fun p hp => ⟨(F.own p hp).1.at fun o e => hs _ o (ho p hp) e, (F.own p hp).2⟩, F.nd,
    fun b o q1 q2 q3 e => hs b o (fun q => by rw [h1 b q] at e; cases e) (F.ch b o q1 q2 q3 e)⟩

theorem FS.trans {s₁ : Shared} {m₁ cm₁ : Str → Option Value} {ow₁ : List (Addr × List Value)} {hk₁ : Heap} (F : FS s₀ L m cs cm ow hk s) (F₁ : FS s₀ L m₁ cs cm₁ ow₁ hk₁ s₁) (hm : ∀ b o, b ≠ L → (∀ c ∈ cs, b ≠ c.2) → b ∉ ow.map (·.1) → hk.get? b = some o → hk₁.get? b = some o) (sub : ∀ p ∈ ow, p.1 ∈ ow₁.map (·.1)) : FS s₀ L m₁ cs cm₁ ow₁ hk s₁ :=
  ⟨F₁.same, F₁.tk, F₁.fr, F₁.cl, F₁.own, F₁.nd, fun b o h1 h2 h3 e => F₁.ch b o h1 h2 h3 (hm b o h1 h2 (fun q => by obtain ⟨p, hp, rfl⟩ := List.mem_map.mp q; exact h3 (sub p hp)) e)⟩
end
end Law62

set_option maxRecDepth 100000
set_option linter.unusedVariables false
namespace Law62
open PySem PySem.W PySem.Calls PyProof.Rows

section
variable {w : World} {A : Around} {s s₀ : Shared} {env : Env} {mg mb : Str → Option Value} {Q : Value → Shared → Prop} {E : Value → Shared → Prop}

def Sb (R : Value → Heap → Prop) : Prop := ∀ v (h h' : Heap), (∀ b o, h.get? b = some o → h'.get? b = some o) → R v h → R v h'
theorem sb_pure (P : Value → Prop) : Sb (fun v _ => P v) := fun _ _ _ _ x => x

theorem ev_global {x : Str} {pos : Pos} {v : Value} (G : Gd w mg mb s.heap) (hv : mg x = some v) (hg : env.globals = mainGlobals := by rfl) (hk : env.scope.kind = .function := by rfl) (hl : env.kindOf x = some .globalImplicit := by rfl)
    (hd : (x == ("__debug__" : Str)) = false := by decide) : EvP w A env (.Name x pos) s (fun y _ => y = v) := fun s' k E =>
  Name_function_global hk hl (loadGlobal_global (mg := mg) (by rw [hg]; exact G.T.g.keeps k.get) hv ⟨rfl, keeps_refl _⟩) hd
theorem ev_builtin {x : Str} {pos : Pos} {v : Value} (G : Gd w mg mb s.heap) (hn : mg x = none) (hv : bootBuiltins x = some v) (hne : x ≠ "__name__") (hg : env.globals = mainGlobals := by rfl) (hb : env.builtins = builtinsNs := by rfl) (hk : env.scope.kind = .function := by rfl) (hl : env.kindOf x = some .globalImplicit := by rfl)
    (hd : (x == ("__debug__" : Str)) = false := by decide) : EvP w A env (.Name x pos) s (fun y _ => y = v) := fun s' k E =>
  Name_function_global hk hl (loadGlobal_builtin (mg := mg) (mb := mb) (by rw [hg]; exact G.T.g.keeps k.get) hn (by rw [hb]; exact G.T.b.keeps k.get) ((G.T.builtins x hne).trans hv) ⟨rfl, keeps_refl _⟩) hd

/-- fv may be called -/
def Cb (w : World) (fv : Value) (s : Shared) : Prop := ∀ (A : Around) (pos : Pos) (x : Sem Value) (rest : List (Bool × Sem Value)) (Q : Value → Shared → Prop) (E : Value → Shared → Prop) (s' : Shared), rest.any (·.1) = false → WK s s' →
  wpAny (model pw w) A (spliced ((false, x) :: rest)) (fun vs s₁ => WK s s₁ ∧ wpAny (model pw w) A (call fv vs) Q E s₁) E s' → wpAny (model pw w) A (callWith pos fv [] ((false, x) :: rest) []) Q E s'
theorem cb_builtin (id : String) : Cb w (.builtin id) s := fun A pos x rest Q E s' hr k h =>
  callWith_builtin (by rw [List.any_cons, hr]; rfl) (evalArgs_plain (wpAny_mono h (fun vs s₁ h₁ => h₁.2) fun _ _ e => e))
theorem cb_type (T : String) : Cb w (.type T) s := fun A pos x rest Q E s' hr k h =>
  PySem.callWith_type (by rw [List.any_cons, hr]; rfl) (evalArgs_plain (wpAny_mono h (fun vs s₁ h₁ => h₁.2) fun _ _ e => e))
theorem cb_def {a : Addr} (G : Gd w mg mb s.heap) (hk : keepIn (KE w.params) (.ref a) = true) : Cb w (.ref a) s := fun A pos x rest Q E s' hr k h =>
  callWith_of (by rw [List.any_cons, hr]; rfl) (keeps_K hk) (evalArgs_plain (wpAny_mono h (fun vs s₁ h₁ => ⟨G.K.keeps h₁.1.get, h₁.2⟩) fun _ _ e => e))

theorem call_name (id : Str) (p : Pos) (args : List Expr) (pos : Pos) (env : Env) : eval (.Call (.Name id p) args [] pos) env = (do callWith pos (← eval (.Name id p) env) [] (backTo pos (starEach args env)) []) := rfl

theorem ev_call1 {f : Str} {p pos : Pos} {fv : Value} {e : Expr} {R₁ R : Value → Heap → Prop} (hf : EvP w A env (.Name f p) s (fun y _ => y = fv)) (hc : Cb w fv s) (h1 : EvP w A env e s R₁)
    (hs : ∀ v s', WK s s' → R₁ v s'.heap → Gv w A (call fv [v]) s' R) (hst : starEach [e] env = [(false, eval e env)] := by rfl) : EvP w A env (.Call (.Name f p) [e] [] pos) s R := fun s' k E => by
  rw [call_name, hst]
  refine wpAny_bind ((hf s' k).here fun y s₁ ey k₁ => ?_)
  subst ey
  refine hc A pos _ _ _ _ s₁ rfl (k.trans k₁) ?_
  refine spliced_cons ((h1 s₁ (k.trans k₁)).here fun v s₂ rv k₂ => spliced_nil ⟨(k.trans k₁).trans k₂, ?_⟩)
  exact (hs v s₂ ((k.trans k₁).trans k₂) rv).here fun r s₃ rr k₃ => ⟨rr, (k₁.trans (k₂.trans k₃)).k⟩
theorem ev_call2 {f : Str} {p pos : Pos} {fv : Value} {e₁ e₂ : Expr} {R₁ R₂ R : Value → Heap → Prop} (hf : EvP w A env (.Name f p) s (fun y _ => y = fv)) (hc : Cb w fv s) (h1 : EvP w A env e₁ s R₁) (h2 : EvP w A env e₂ s R₂) (b1 : Sb R₁)
    (hs : ∀ v₁ v₂ s', WK s s' → R₁ v₁ s'.heap → R₂ v₂ s'.heap → Gv w A (call fv [v₁, v₂]) s' R) (hst : starEach [e₁, e₂] env = [(false, eval e₁ env), (false, eval e₂ env)] := by rfl) : EvP w A env (.Call (.Name f p) [e₁, e₂] [] pos) s R := fun s' k E => by
  rw [call_name, hst]
  refine wpAny_bind ((hf s' k).here fun y s₁ ey k₁ => ?_)
  subst ey
  refine hc A pos _ _ _ _ s₁ rfl (k.trans k₁) ?_
  refine spliced_cons ((h1 s₁ (k.trans k₁)).here fun v s₂ rv k₂ => spliced_cons ((h2 s₂ ((k.trans k₁).trans k₂)).here fun v' s₃ rv' k₃ => spliced_nil ⟨((k.trans k₁).trans k₂).trans k₃, ?_⟩))
  exact (hs v v' s₃ (((k.trans k₁).trans k₂).trans k₃) (b1 _ _ _ k₃.get rv) rv').here fun r s₄ rr k₄ => ⟨rr, (k₁.trans (k₂.trans (k₃.trans k₄))).k⟩
theorem ev_call3 {f : Str} {p pos : Pos} {fv : Value} {e₁ e₂ e₃ : Expr} {R₁ R₂ R₃ R : Value → Heap → Prop} (hf : EvP w A env (.Name f p) s (fun y _ => y = fv)) (hc : Cb w fv s) (h1 : EvP w A env e₁ s R₁) (h2 : EvP w A env e₂ s R₂) (h3 : EvP w A env e₃ s R₃) (b1 : Sb R₁) (b2 : Sb R₂)
    (hs : ∀ v₁ v₂ v₃ s', WK s s' → R₁ v₁ s'.heap → R₂ v₂ s'.heap → R₃ v₃ s'.heap → Gv w A (call fv [v₁, v₂, v₃]) s' R) (hst : starEach [e₁, e₂, e₃] env = [(false, eval e₁ env), (false, eval e₂ env), (false, eval e₃ env)] := by rfl) : EvP w A env (.Call (.Name f p) [e₁, e₂, e₃] [] pos) s R := fun s' k E => by
  rw [call_name, hst]
  refine wpAny_bind ((hf s' k).here fun y s₁ ey k₁ => ?_)
  subst ey
  refine hc A pos _ _ _ _ s₁ rfl (k.trans k₁) ?_
  refine spliced_cons ((h1 s₁ (k.trans k₁)).here fun v s₂ rv k₂ => spliced_cons ((h2 s₂ ((k.trans k₁).trans k₂)).here fun v' s₃ rv' k₃ => spliced_cons ((h3 s₃ (((k.trans k₁).trans k₂).trans k₃)).here fun v'' s₄ rv'' k₄ => spliced_nil ⟨(((k.trans k₁).trans k₂).trans k₃).trans k₄, ?_⟩)))
  exact (hs v v' v'' s₄ ((((k.trans k₁).trans k₂).trans k₃).trans k₄) (b1 _ _ _ k₄.get (b1 _ _ _ k₃.get rv)) (b2 _ _ _ k₄.get rv') rv'').here fun r s₅ rr k₅ => ⟨rr, (k₁.trans (k₂.trans (k₃.trans (k₄.trans k₅)))).k⟩
theorem ev_call4 {f : Str} {p pos : Pos} {fv : Value} {e₁ e₂ e₃ e₄ : Expr} {R₁ R₂ R₃ R₄ R : Value → Heap → Prop} (hf : EvP w A env (.Name f p) s (fun y _ => y = fv)) (hc : Cb w fv s) (h1 : EvP w A env e₁ s R₁) (h2 : EvP w A env e₂ s R₂) (h3 : EvP w A env e₃ s R₃) (h4 : EvP w A env e₄ s R₄) (b1 : Sb R₁) (b2 : Sb R₂) (b3 : Sb R₃)
    (hs : ∀ v₁ v₂ v₃ v₄ s', WK s s' → R₁ v₁ s'.heap → R₂ v₂ s'.heap → R₃ v₃ s'.heap → R₄ v₄ s'.heap → Gv w A (call fv [v₁, v₂, v₃, v₄]) s' R)
    (hst : starEach [e₁, e₂, e₃, e₄] env = [(false, eval e₁ env), (false, eval e₂ env), (false, eval e₃ env), (false, eval e₄ env)] := by rfl) : EvP w A env (.Call (.Name f p) [e₁, e₂, e₃, e₄] [] pos) s R := fun s' k E => by
  rw [call_name, hst]
  refine wpAny_bind ((hf s' k).here fun y s₁ ey k₁ => ?_)
  subst ey
  refine hc A pos _ _ _ _ s₁ rfl (k.trans k₁) ?_
  refine spliced_cons ((h1 s₁ (k.trans k₁)).here fun v s₂ rv k₂ => spliced_cons ((h2 s₂ ((k.trans k₁).trans k₂)).here fun v' s₃ rv' k₃ => spliced_cons ((h3 s₃ (((k.trans k₁).trans k₂).trans k₃)).here fun v'' s₄ rv'' k₄ => spliced_cons ((h4 s₄ ((((k.trans k₁).trans k₂).trans k₃).trans k₄)).here fun v3 s₅ rv3 k₅ =>
    spliced_nil ⟨((((k.trans k₁).trans k₂).trans k₃).trans k₄).trans k₅, ?_⟩))))
  exact (hs v v' v'' v3 s₅ (((((k.trans k₁).trans k₂).trans k₃).trans k₄).trans k₅) (b1 _ _ _ k₅.get (b1 _ _ _ k₄.get (b1 _ _ _ k₃.get rv))) (b2 _ _ _ k₅.get (b2 _ _ _ k₄.get rv')) (b3 _ _ _ k₅.get rv'') rv3).here fun r s₆ rr k₆ => ⟨rr, (k₁.trans (k₂.trans (k₃.trans (k₄.trans (k₅.trans k₆))))).k⟩
end

/-- room to call: two levels and more -/
structure Rm (A : Around) (n : Nat) : Prop where
  hh : A.handled = none
  d : A.depth + n < recursionLimit
  u : A.units + 10 * n < cLine
theorem Rm.deeper {A : Around} {n : Nat} (R : Rm A (n + 1)) (env : Env) : Rm (A.deeper env) n := ⟨R.hh, by have := R.d; rw [depth_deeper]; omega, by have := R.u; rw [units_deeper]; omega⟩

abbrev envF (i : Nat) (L a : Addr) (c : Addr) : Env := envOfC (fname i) (fsc i) L a (.ref c)

/-- a call of one of the text's defs: the frame at its start -/
theorem fn_call {w : World} {A : Around} {s : Shared} {mg mb : Str → Option Value} {n i : Nat} {a c : Addr} {md : Str} {tk : Tok} {vs : List Value} {binds : List (Str × Value)} {R : Value → Heap → Prop} (Rm' : Rm A (n + 1)) (G : Gd w mg mb s.heap)
    (hlk : (KE w.params).lookup a = some (fnO i md tk c)) (hfn : (fnO i md tk c).data = .func (docDef (fname i) (fpar i) (fbody i) (fsc i) (.str md tk) (.ref c) .none)) (hcd : codeIn (KE w.params) (.ref c) (fname i) = true)
    (hbind : bindArgs (docDef (fname i) (fpar i) (fbody i) (fsc i) (.str md tk) (.ref c) .none) ⟨vs, []⟩ = pure binds)
    (hkind : ∀ n, ∀ x ∈ binds, (fsc i).names.lookup x.1 = some .local ∨ ((fsc i).names.lookup x.1 = some .cell ∧ ((cellsFrom n (fsc i).names []).lookup x.1).isSome = true))
    (hk : (fsc i).kind = .function) (hco : (fsc i).isCoroutine = false) (hgen : (fsc i).isGenerator = false)
    (h : ∀ s₁, Rm (A.deeper (envF i s.heap.objs.size a c)) n → FS s s.heap.objs.size (bindL (envF i s.heap.objs.size a c).kindOf binds fun _ => none) (cellsFrom (s.heap.objs.size + 1) (fsc i).names []) (bindC (envF i s.heap.objs.size a c).kindOf binds fun _ => none) [] s.heap s₁ →
      wpAny (model pw w) (A.deeper (envF i s.heap.objs.size a c)) (execs (fbody i) (envF i s.heap.objs.size a c)) (fun f s' => R (match f with | .ret v => v | _ => .none) s'.heap ∧ Keeps s s') (fun _ _ => False) s₁) :
    Gv w A (call (.ref a) vs) s R := fun E => by
  refine wpAny_call ?_
  refine codeAny_call_function (by have := Rm'.d; omega) (G.K a _ hlk) hfn hco hgen rfl (codeRec_of G.K hcd) ?_
  rw [hbind]
  refine wpAny_pure (wpAny_with_toks (Nat.le_refl _) (wpAny_newFunctionEnv_cells hk (hkind _) fun env' he s' x ht => ?_))
  subst he
  refine ⟨G.T.nolimit.keeps x.toInCall.keep, codeAny_func ?_⟩
  obtain ⟨h₁, tk₁, rfl, kk⟩ := x.done
  refine wpAny_mono (h _ (Rm'.deeper _) ⟨⟨h₁, tk₁, rfl⟩, ht, ⟨x.toInCall.ns, kk, Nat.le_refl _⟩, ⟨x.cell, x.apart, x.above⟩, (fun p hp => by cases hp), List.Pairwise.nil, fun b o _ _ _ e => kk b o e⟩) (fun f s' hf => hf) fun _ _ e => e.elim
end Law62

set_option maxRecDepth 100000
set_option linter.unusedVariables false
namespace Law62
open PySem PySem.W PySem.Calls PyProof.Rows


inductive All2 {α β : Type} (P : α → β → Prop) : List α → List β → Prop
  | nil : All2 P [] []
  | cons {a b as bs} : P a b → All2 P as bs → All2 P (a :: as) (b :: bs)
namespace All2
variable {α β γ : Type} {P : α → β → Prop}
theorem length : ∀ {as : List α} {bs : List β}, All2 P as bs → as.length = bs.length
  | _, _, .nil => rfl
  | _, _, .cons _ r => by rw [List.length_cons, List.length_cons, r.length]
theorem mono {Q : α → β → Prop} (h : ∀ a b, P a b → Q a b) : ∀ {as : List α} {bs : List β}, All2 P as bs → All2 Q as bs
  | _, _, .nil => .nil
  | _, _, .cons x r => .cons (h _ _ x) (r.mono h)
theorem get : ∀ {as : List α} {bs : List β}, All2 P as bs → ∀ (i : Nat) (b : β), bs[i]? = some b → ∃ a, as[i]? = some a ∧ P a b
  | _, _, .nil, i, b, h => by simp at h
  | _, _, .cons x r, 0, b, h => by simp at h; subst h; exact ⟨_, rfl, x⟩
  | _, _, .cons x r, i + 1, b, h => by simp at h; obtain ⟨a, h1, h2⟩ := r.get i b h; exact ⟨a, by simpa using h1, h2⟩
theorem get' : ∀ {as : List α} {bs : List β}, All2 P as bs → ∀ (i : Nat) (a : α), as[i]? = some a → ∃ b, bs[i]? = some b ∧ P a b
  | _, _, .nil, i, b, h => by simp at h
  | _, _, .cons x r, 0, b, h => by simp at h; subst h; exact ⟨_, rfl, x⟩
  | _, _, .cons x r, i + 1, b, h => by simp at h; obtain ⟨a, h1, h2⟩ := r.get' i b h; exact ⟨a, by simpa using h1, h2⟩
theorem append : ∀ {as as' : List α} {bs bs' : List β}, All2 P as bs → All2 P as' bs' → All2 P (as ++ as') (bs ++ bs')
  | _, _, _, _, .nil, h => h
  | _, _, _, _, .cons x r, h => .cons x (r.append h)
theorem mapRight {f : β → γ} {Q : α → γ → Prop} (h : ∀ a b, P a b → Q a (f b)) : ∀ {as : List α} {bs : List β}, All2 P as bs → All2 Q as (bs.map f)
  | _, _, .nil => .nil
  | _, _, .cons x r => .cons (h _ _ x) (r.mapRight h)
theorem take (n : Nat) : ∀ {as : List α} {bs : List β}, All2 P as bs → All2 P (as.take n) (bs.take n) := by
  induction n with
  | zero => intro as bs _; simp; exact .nil
  | succ n ih => intro as bs h; cases h with | nil => simp; exact .nil | cons x r => simp; exact .cons x (ih r)
end All2

/-- v is a list (made here) of these ints | texts -/
def LI (h : Heap) (v : Value) (ns : List Int) : Prop := ∃ a items, v = .ref a ∧ h.IsList a items ∧ All2 IsI items.toList ns
def LS (h : Heap) (v : Value) (xs : List Str) : Prop := ∃ a items, v = .ref a ∧ h.IsList a items ∧ All2 IsS items.toList xs
theorem LI.keeps {h h' : Heap} {v : Value} {ns : List Int} (x : LI h v ns) (k : ∀ b o, h.get? b = some o → h'.get? b = some o) : LI h' v ns := let ⟨a, it, e, p, q⟩ := x; ⟨a, it, e, p.at fun o y => k _ o y, q⟩
theorem LS.keeps {h h' : Heap} {v : Value} {ns : List Str} (x : LS h v ns) (k : ∀ b o, h.get? b = some o → h'.get? b = some o) : LS h' v ns := let ⟨a, it, e, p, q⟩ := x; ⟨a, it, e, p.at fun o y => k _ o y, q⟩
theorem sb_LI (ns : List Int) : Sb (fun v h => LI h v ns) := fun _ _ _ k x => x.keeps k
theorem sb_LS (ns : List Str) : Sb (fun v h => LS h v ns) := fun _ _ _ k x => x.keeps k

section
variable {w : World} {A : Around} {s : Shared} {env : Env} {Q : Flow → Shared → Prop} {E : Value → Shared → Prop}

/-- a new list with items that P says -/
def EvN (w : World) (A : Around) (env : Env) (e : Expr) (s : Shared) (P : List Value → Heap → Prop) : Prop :=
  ∀ s', WK s s' → ∀ E, wpAny (model pw w) A (eval e env) (fun v s'' => (∃ D items, v = .ref D ∧ s''.heap.PlainList D items ∧ s'.heap.get? D = none ∧ P items.toList s''.heap) ∧ Keeps s' s'') E s'
theorem EvN.evP {e : Expr} {P : List Value → Heap → Prop} (h : EvN w A env e s P) : EvP w A env e s (fun v h => ∃ D items, v = .ref D ∧ h.IsList D items ∧ P items.toList h) := fun s' k E =>
  wpAny_mono (h s' k E) (fun v s'' x => ⟨let ⟨D, it, e, p, _, q⟩ := x.1; ⟨D, it, e, p.isList, q⟩, x.2⟩) fun _ _ e => e

theorem get_size_none (h : Heap) {a : Addr} (ha : h.objs.size ≤ a) : h.get? a = none := by
  cases e : h.get? a with
  | none => rfl
  | some o => exact absurd (Heap.lt_size e) (Nat.not_lt.mpr ha)

theorem spliced_evs {ι : Type} {P : Value → ι → Heap → Prop} (hP : ∀ v i (h h' : Heap), (∀ b o, h.get? b = some o → h'.get? b = some o) → P v i h → P v i h') : ∀ {es : List Expr} {is : List ι} (s' : Shared), WK s s' → All2 (fun e i => EvP w A env e s (fun v h => P v i h)) es is →
    ∀ E, wpAny (model pw w) A (spliced (es.map fun e => (false, eval e env))) (fun vs s'' => All2 (fun v i => P v i s''.heap) vs is ∧ KT s' s'') E s'
  | _, _, s', k, .nil, E => spliced_nil ⟨.nil, KT.refl _⟩
  | _, _, s', k, .cons h r, E => spliced_cons ((h s' k).here fun v s₁ rv k₁ => wpAny_mono (spliced_evs hP s₁ (k.trans k₁) r E) (fun vs s₂ x => ⟨.cons (hP _ _ _ _ x.2.get rv) x.1, k₁.trans x.2⟩) fun _ _ e => e)

theorem newList_fresh {vs : List Value} {P : List Value → Heap → Prop} (hz : vs.length ≤ sizeLine) (h : ∀ h', (∀ b o, s.heap.get? b = some o → h'.get? b = some o) → P vs h') :
    wpAny (model pw w) A (newList vs) (fun v s'' => (∃ D items, v = .ref D ∧ s''.heap.PlainList D items ∧ s.heap.get? D = none ∧ P items.toList s''.heap) ∧ Keeps s s'') E s := by
  refine wpAny_newObj_type (Q := fun v s'' => (∃ D items, v = .ref D ∧ s''.heap.PlainList D items ∧ s.heap.get? D = none ∧ P items.toList s''.heap) ∧ Keeps s s'') ?_ (by show vs.toArray.size ≤ sizeLine; rw [List.size_toArray]; exact hz)
  have kk : ∀ b o, s.heap.get? b = some o → (s.heap.push { cls := .type "list", dict := none, data := .seq vs.toArray }).get? b = some o := fun b o e => Heap.get?_push_of_some _ e
  exact ⟨⟨_, vs.toArray, rfl, ⟨0, Heap.get?_push_size _ rfl⟩, get_size_none _ (Nat.le_refl _), by simpa using h _ kk⟩, ⟨_, _, rfl, kk⟩⟩

theorem evN_list {ι : Type} {P : Value → ι → Heap → Prop} (hP : ∀ v i (h h' : Heap), (∀ b o, h.get? b = some o → h'.get? b = some o) → P v i h → P v i h') {es : List Expr} {is : List ι} {pos : Pos} (h : All2 (fun e i => EvP w A env e s (fun v h => P v i h)) es is) (hz : is.length ≤ 1000)
    (hst : backTo pos (starEach es env) = es.map fun e => (false, eval e env) := by rfl) : EvN w A env (.List es pos) s (fun vs h => All2 (fun v i => P v i h) vs is) := fun s' k E => by
  refine List_ ?_
  rw [hst]
  refine wpAny_mono (spliced_evs hP s' k h E) (fun vs s₁ x => ?_) fun _ _ e => e
  have hz' : vs.length ≤ sizeLine := by rw [x.1.length]; have : sizeLine = 16777216 := rfl; omega
  refine wpAny_mono (newList_fresh (P := fun vs h => All2 (fun v i => P v i h) vs is) hz' fun h' kk => x.1.mono fun v i y => hP _ _ _ _ kk y) (fun v s₂ y => ⟨?_, keeps_trans x.2.k y.2⟩) fun _ _ e => e
  obtain ⟨D, it, e, p, q, r⟩ := y.1
  refine ⟨D, it, e, p, ?_, r⟩
  cases e' : s'.heap.get? D with
  | none => rfl
  | some o => rw [x.2.get _ _ e'] at q; cases q

theorem evN_ints {ns : List Int} {es : List Expr} {pos : Pos} (h : All2 (fun e i => EvI w A env e s i) es ns) (hz : ns.length ≤ 1000) (hst : backTo pos (starEach es env) = es.map fun e => (false, eval e env) := by rfl) :
    EvN w A env (.List es pos) s (fun vs _ => All2 IsI vs ns) := evN_list (P := fun v i _ => IsI v i) (fun _ _ _ _ _ x => x) h hz hst
theorem evN_strs {ns : List Str} {es : List Expr} {pos : Pos} (h : All2 (fun e i => EvS w A env e s i) es ns) (hz : ns.length ≤ 1000) (hst : backTo pos (starEach es env) = es.map fun e => (false, eval e env) := by rfl) :
    EvN w A env (.List es pos) s (fun vs _ => All2 IsS vs ns) := evN_list (P := fun v i _ => IsS v i) (fun _ _ _ _ _ x => x) h hz hst

theorem constInts {es : List Expr} {ns : List Int} (h : All2 (fun e i => ∃ k p, e = .Constant (.int i) k p) es ns) : All2 (fun e i => EvI w A env e s i) es ns := h.mono fun e i ⟨k, p, e'⟩ => e' ▸ evI_const i k p
theorem constStrs {es : List Expr} {ns : List Str} (h : All2 (fun e i => ∃ k p, e = .Constant (.str i) k p) es ns) : All2 (fun e i => EvS w A env e s i) es ns := h.mono fun e i ⟨k, p, e'⟩ => e' ▸ evS_const i k p

/-- if: the test is known -/
theorem sx_ifT {test : Expr} {body orelse rest : List Stmt} {pos : Pos} (ht : TvB w A env test s true)
    (h : ∀ s', KT s s' → wpAny (model pw w) A (execs body env) (fun f s'' => match f with | .next => wpAny (model pw w) A (execs rest env) Q E s'' | f => Q f s'') E s') : wpAny (model pw w) A (execs (.If test body orelse pos :: rest) env) Q E s :=
  wpAny_execs_cons (wpAny_If (ht.now fun s' k => h s' k))
theorem sx_ifF {test : Expr} {body orelse rest : List Stmt} {pos : Pos} (ht : TvB w A env test s false)
    (h : ∀ s', KT s s' → wpAny (model pw w) A (execs orelse env) (fun f s'' => match f with | .next => wpAny (model pw w) A (execs rest env) Q E s'' | f => Q f s'') E s') : wpAny (model pw w) A (execs (.If test body orelse pos :: rest) env) Q E s :=
  wpAny_execs_cons (wpAny_If (ht.now fun s' k => h s' k))
theorem sx_ifF0 {test : Expr} {body rest : List Stmt} {pos : Pos} (ht : TvB w A env test s false)
    (h : ∀ s', KT s s' → wpAny (model pw w) A (execs rest env) Q E s') : wpAny (model pw w) A (execs (.If test body [] pos :: rest) env) Q E s :=
  sx_ifF ht fun s' k => wpAny_execs_nil (h s' k)
theorem sx_return {e : Expr} {rest : List Stmt} {pos : Pos} {R : Value → Heap → Prop} (he : EvP w A env e s R) (h : ∀ v s', R v s'.heap → KT s s' → Q (.ret v) s') : wpAny (model pw w) A (execs (.Return (some e) pos :: rest) env) Q E s :=
  wpAny_execs_cons (wpAny_Return_some (he.now fun v s' r k => h v s' r k))
end

theorem all2_consts : ∀ {es : List Expr} {ns : List Int}, (es.map fun e => match e with | .Constant (.int i) _ _ => some i | _ => none) = ns.map some → All2 (fun e i => ∃ k p, e = .Constant (.int i) k p) es ns
  | [], [], _ => .nil
  | [], _ :: _, h => by cases h
  | _ :: _, [], h => by cases h
  | e :: es, n :: ns, h => by
    simp only [List.map_cons, List.cons.injEq] at h
    refine .cons ?_ (all2_consts h.2)
    split at h <;> first | (obtain ⟨h1, _⟩ := h; cases h1; exact ⟨_, _, rfl⟩) | (obtain ⟨h1, _⟩ := h; cases h1)
theorem all2_constS : ∀ {es : List Expr} {ns : List Str}, (es.map fun e => match e with | .Constant (.str i) _ _ => some i | _ => none) = ns.map some → All2 (fun e i => ∃ k p, e = .Constant (.str i) k p) es ns
  | [], [], _ => .nil
  | [], _ :: _, h => by cases h
  | _ :: _, [], h => by cases h
  | e :: es, n :: ns, h => by
    simp only [List.map_cons, List.cons.injEq] at h
    refine .cons ?_ (all2_constS h.2)
    split at h <;> first | (obtain ⟨h1, _⟩ := h; cases h1; exact ⟨_, _, rfl⟩) | (obtain ⟨h1, _⟩ := h; cases h1)

def lensOf (hand : Nat) : List Int :=
  if hand = 0 then [0, 5, 2, 4, 1, 3, 1, 0, 3, 4, 2, 1, 1, 3, 1, 1]
  else if hand = 1 then [0, 5, 2, 4, 1, 3, 6, 0, 3, 4, 2, 5, 1, 3, 5, 5]
  else if hand = 2 then [0, 5, 2, 1, 1, 3, 6, 0, 3, 4, 2, 1, 1, 3, 1, 1]
  else if hand = 3 then [0, 5, 2, 4, 1, 3, 1, 0, 3, 4, 2, 1, 1, 3, 5, 1]
  else [0, 5, 2, 4, 1, 3, 6, 0, 3, 1, 2, 5, 1, 3, 5, 5]

theorem lk18 (P : Params) : (KE P).lookup 151 = some (fnO 18 "law_tr0062_01" 2271 150) := by kernel_rfl!
theorem ci18 (P : Params) : codeIn (KE P) (.ref 150) (fname 18) = true := by kernel_rfl!
theorem kp18 (P : Params) : keepIn (KE P) (.ref 151) = true := by kernel_rfl!

theorem ret_ints {w : World} {A : Around} {s : Shared} {env : Env} {es : List Expr} {p q : Pos} {rest : List Stmt} {ns : List Int} {s' : Shared} {Q : Flow → Shared → Prop} {E : Value → Shared → Prop} (k : Keeps s s') (hc : (es.map fun e => match e with | .Constant (.int i) _ _ => some i | _ => none) = ns.map some) (hz : ns.length ≤ 1000)
    (hst : backTo p (starEach es env) = es.map (fun e => (false, eval e env))) (hQ : ∀ v s'', LI s''.heap v ns → Keeps s s'' → Q (.ret v) s'') : wpAny (model pw w) A (execs (.Return (some (.List es p)) q :: rest) env) Q E s' :=
  sx_return (EvN.evP (evN_ints (constInts (all2_consts hc)) hz hst)) (fun v s'' hv k' => by
      obtain ⟨D, it, e, pl, al⟩ := hv
      exact hQ v s'' ⟨D, it, e, pl, al⟩ (keeps_trans k k'.k))
theorem lengths_spec {w : World} {A : Around} {s : Shared} {mg mb : Str → Option Value} {n : Nat} (Rm' : Rm A (n + 1)) (G : Gd w mg mb s.heap) (hand : Nat) (hh : hand < 5) (t : Tok) :
    Gv w A (call (.ref 151) [.int hand t]) s (fun v h => LI h v (lensOf hand)) := by
  refine fn_call (i := 18) (binds := [("hand", .int hand t)]) Rm' G (lk18 _) (by rfl) (ci18 _) (by rfl) (by intro n x hx; left; revert x; exact locs (by rfl)) (by rfl) (by rfl) (by rfl) fun s₁ R₁ F => ?_
  have tst : ∀ (k : Int) (p1 p2 p3 : Pos) (kk : Nat), TvB w (A.deeper (envF 18 s.heap.objs.size 151 150)) (envF 18 s.heap.objs.size 151 150) (.Compare (.Name "hand" p1) [.Eq] [.Constant (.int k) kk p2] p3) s₁ ((hand : Int) == k) := fun k p1 p2 p3 kk =>
    tv_eq ((ev_local F.fr.ns (by rfl)).mono fun v _ e => ⟨t, e⟩) (evI_const _ _ _)
  have hc : hand = 0 ∨ hand = 1 ∨ hand = 2 ∨ hand = 3 ∨ hand = 4 := by omega
  rcases hc with rfl | rfl | rfl | rfl | rfl
  · refine sx_ifT (tst 0 _ _ _ _) fun s₂ k₂ => ?_
    with_reducible exact ret_ints (ns := lensOf 0) (keeps_trans F.keeps (KT.k k₂)) (by with_unfolding_all rfl) (by with_unfolding_all decide) (by with_unfolding_all rfl) (fun v s'' l k => ⟨l, k⟩)
  · refine sx_ifF0 (tst 0 _ _ _ _) fun s₂ k₂ => ?_
    refine sx_ifT ((tst 1 _ _ _ _).grow k₂) fun s₃ k₃ => ?_
    with_reducible exact ret_ints (ns := lensOf 1) (keeps_trans F.keeps (KT.k (k₂.trans k₃))) (by with_unfolding_all rfl) (by with_unfolding_all decide) (by with_unfolding_all rfl) (fun v s'' l k => ⟨l, k⟩)
  · refine sx_ifF0 (tst 0 _ _ _ _) fun s₂ k₂ => ?_
    refine sx_ifF0 ((tst 1 _ _ _ _).grow k₂) fun s₃ k₃ => ?_
    refine sx_ifT ((tst 2 _ _ _ _).grow (k₂.trans k₃)) fun s₄ k₄ => ?_
    with_reducible exact ret_ints (ns := lensOf 2) (keeps_trans F.keeps (KT.k ((k₂.trans k₃).trans k₄))) (by with_unfolding_all rfl) (by with_unfolding_all decide) (by with_unfolding_all rfl) (fun v s'' l k => ⟨l, k⟩)
  · refine sx_ifF0 (tst 0 _ _ _ _) fun s₂ k₂ => ?_
    refine sx_ifF0 ((tst 1 _ _ _ _).grow k₂) fun s₃ k₃ => ?_
    refine sx_ifF0 ((tst 2 _ _ _ _).grow (k₂.trans k₃)) fun s₄ k₄ => ?_
    refine sx_ifT ((tst 3 _ _ _ _).grow ((k₂.trans k₃).trans k₄)) fun s₅ k₅ => ?_
    with_reducible exact ret_ints (ns := lensOf 3) (keeps_trans F.keeps (KT.k (((k₂.trans k₃).trans k₄).trans k₅))) (by with_unfolding_all rfl) (by with_unfolding_all decide) (by with_unfolding_all rfl) (fun v s'' l k => ⟨l, k⟩)
  · refine sx_ifF0 (tst 0 _ _ _ _) fun s₂ k₂ => ?_
    refine sx_ifF0 ((tst 1 _ _ _ _).grow k₂) fun s₃ k₃ => ?_
    refine sx_ifF0 ((tst 2 _ _ _ _).grow (k₂.trans k₃)) fun s₄ k₄ => ?_
    refine sx_ifF0 ((tst 3 _ _ _ _).grow ((k₂.trans k₃).trans k₄)) fun s₅ k₅ => ?_
    with_reducible exact ret_ints (ns := lensOf 4) (keeps_trans F.keeps (KT.k (((k₂.trans k₃).trans k₄).trans k₅))) (by with_unfolding_all rfl) (by with_unfolding_all decide) (by with_unfolding_all rfl) (fun v s'' l k => ⟨l, k⟩)
end Law62

set_option maxRecDepth 100000
set_option linter.unusedVariables false
namespace Law62
open PySem PySem.W PySem.Calls PyProof.Rows

/-- one turn of a loop: draw, and bind the target -/
structure Trn (w : World) (A : Around) (tgt : Expr) (env : Env) (it : Value) {ι : Type} (xs : List ι) (B : ι → (Str → Option Value) → (Str → Option Value) → Prop) (fp wr : List Addr) (St : Nat → Heap → Prop) (T₀ : Nat) : Prop where
  sub : ∀ b ∈ wr, b ∈ fp
  live : ∀ i h, St i h → ∀ b ∈ fp, ∃ o, h.get? b = some o
  frame : ∀ i h h', St i h → (∀ b ∈ fp, ∀ o, h.get? b = some o → h'.get? b = some o) → St i h'
  item : ∀ i x (s : Shared) m (Q : Shared → Prop) (R : Option Value → Shared → Prop) (E : Value → Shared → Prop), xs[i]? = some x → St i s.heap → s.heap.Ns env.locals m → env.locals ∉ fp → T₀ ≤ s.toks →
    (∀ v s₁, wpAny (model pw w) A (letOwnedTupleGo tgt it v) (fun _ s₁' => wpAny (model pw w) A (assign tgt env v) (fun _ s₂ => Q s₂) E s₁') E s₁ → R (some v) s₁) →
    (∀ h' tk m', B x m m' → h'.Ns env.locals m' → St (i + 1) h' → (∀ b o, b ≠ env.locals → b ∉ wr → s.heap.get? b = some o → h'.get? b = some o) → s.toks ≤ tk → Q { s with heap := h', toks := tk }) →
    wpAny (model pw w) A (pyNext it) R E s
  done : ∀ (s : Shared) (Q : Option Value → Shared → Prop) (E : Value → Shared → Prop), St xs.length s.heap →
    (∀ h' tk, (∀ b o, b ∉ wr → s.heap.get? b = some o → h'.get? b = some o) → s.toks ≤ tk → Q none { s with heap := h', toks := tk }) → wpAny (model pw w) A (pyNext it) Q E s
  self : ∀ (s : Shared) (Q : Value → Shared → Prop) (E : Value → Shared → Prop), St 0 s.heap → Q it s → wpAny (model pw w) A (pyIter it) Q E s

def ok1 (x : Str) (env : Env) : Prop := env.kindOf x = some .local ∧ (env.scope.kind == .class || (env.scope.kind == .module && env.locals != env.globals)) = false
def ok2 (x y : Str) (env : Env) : Prop := ok1 x env ∧ ok1 y env
def B1 {ι : Type} (n : Str) (P : ι → Value → Prop) : ι → (Str → Option Value) → (Str → Option Value) → Prop := fun x m m' => ∃ v, P x v ∧ m' = upd m n v
def B2 {ι : Type} (n₀ n₁ : Str) (P : ι → Value → Value → Prop) : ι → (Str → Option Value) → (Str → Option Value) → Prop := fun x m m' => ∃ v₀ v₁, P x v₀ v₁ ∧ m' = upd (upd m n₀ v₀) n₁ v₁

section
variable {w : World} {A : Around} {s : Shared} {env : Env} {E : Value → Shared → Prop}

theorem Trn.of_walks {ι : Type} {n : Str} {px : Pos} {I : Addr} {fp wr : List Addr} {k : Nat} {Pw : Nat → Value → Prop} {St : Nat → Heap → Prop} {xs : List ι} {P : ι → Value → Prop} (W : Walks pw w A I fp wr k Pw St) (hlen : k = xs.length)
    (hP : ∀ i x v, xs[i]? = some x → Pw i v → P x v) (hl : ∀ i h, St i h → ∀ b ∈ fp, ∃ o, h.get? b = some o) (hok : ok1 n env) : Trn w A (.Name n px) env (.ref I) xs (B1 n P) fp wr St 0 where
  sub := W.sub
  live := hl
  frame := W.frame
  item := fun i x s m Q R E hx st hn hL _ hR hQ => by
    have hi : i < k := by rw [hlen]; exact (List.getElem?_eq_some_iff.mp hx).1
    refine wpAny_with_toks (n := s.toks) (Nat.le_refl _) (W.item i s _ _ hi st fun v h₁ tk₁ hv st₁ hk₁ htk => hR v _ ?_)
    refine wpAny_of_eq rfl ?_
    have hLw : env.locals ∉ wr := fun h => hL (W.sub _ h)
    refine wpAny_assign_Name (wpAny_storeName_local hok.1 (hn.at' fun o e => hk₁ _ o hLw e) (fun h₂ hn₂ hs₂ => ?_) hok.2)
    exact hQ h₂ _ _ ⟨v, hP i x v hx hv, rfl⟩ hn₂ (W.frame _ _ _ st₁ fun b hb o e => hs₂.extBut b o (fun q => hL (q ▸ hb)) e) (fun b o hb hw e => hs₂.extBut b o hb (hk₁ b o hw e)) (Nat.le_succ_of_le htk)
  done := fun s Q E st hQ => wpAny_with_toks (n := s.toks) (Nat.le_refl _) (W.done s _ _ (hlen ▸ st) fun h' tk hk ht => hQ h' tk hk ht)
  self := fun s Q E st hQ => W.self 0 s Q E st hQ

theorem Trn.of_walksT {ι : Type} {n₀ n₁ : Str} {p₀ p₁ pt : Pos} {x1 : Nat} {I : Addr} {fp wr : List Addr} {k : Nat} {Pt : Nat → Array Value → Prop} {St : Nat → Heap → Prop} {Mid : Nat → Addr → Heap → Prop} {xs : List ι} {P : ι → Value → Value → Prop} (hh : A.handled = none)
    (W : WalksT pw w A I fp wr k Pt St Mid) (hlen : k = xs.length) (hP : ∀ i x vals, xs[i]? = some x → Pt i vals → ∃ v₀ v₁, vals = #[v₀, v₁] ∧ P x v₀ v₁) (hl : ∀ i h, St i h → ∀ b ∈ fp, ∃ o, h.get? b = some o) (hok : ok2 n₀ n₁ env) :
    Trn w A (.Tuple [.Name n₀ p₀, .Name n₁ p₁] x1 pt) env (.ref I) xs (B2 n₀ n₁ P) fp wr St 0 where
  sub := W.sub
  live := hl
  frame := W.frame
  item := fun i x s m Q R E hx st hn hL _ hR hQ => by
    have hi : i < k := by rw [hlen]; exact (List.getElem?_eq_some_iff.mp hx).1
    have hLw : env.locals ∉ wr := fun h => hL (W.sub _ h)
    refine wpAny_with_toks (n := s.toks) (Nat.le_refl _) (W.item i s _ _ hi st fun T vals h₁ tk₁ hPt _ hT hMid hk₁ htk => hR (.ref T) _ ?_)
    obtain ⟨v₀, v₁, rfl, hp⟩ := hP i x vals hx hPt
    refine W.go _ x1 pt i T _ _ _ hMid fun h₂ hst₂ hk₂ => ?_
    have ht₂ : h₂.IsTuple T #[v₀, v₁] := hT.at fun o e => hk₂ T o (W.apart i T h₁ hMid) e
    refine wpAny_assign_Tuple hh ht₂ rfl rfl fun h₃ hx₃ => ?_
    replace hx₃ : Heap.ExtBut h₂.objs.size h₂ h₃ := hx₃
    have up₃ : ∀ b o, h₂.get? b = some o → h₃.get? b = some o := fun b o x => hx₃ b o (Nat.ne_of_lt (Heap.lt_size x)) x
    have upL : ∀ b o, b ∉ wr → s.heap.get? b = some o → h₃.get? b = some o := fun b o hb e => up₃ b o (hk₂ b o hb (hk₁ b o hb e))
    show wpAny _ A (do holding [v₁] (assign (.Name n₀ p₀) env v₀); do holding [] (assign (.Name n₁ p₁) env v₁); pure ()) _ _ _
    refine wpAny_bind (wpAny_holding (wpAny_assign_Name (wpAny_storeName_local hok.1.1 (hn.at' fun o e => upL _ o hLw e) (fun h₄ hn₄ hs₄ => ?_) hok.1.2)))
    replace hs₄ : Heap.SameBut env.locals h₃ h₄ := hs₄
    refine wpAny_bind (wpAny_holding (wpAny_assign_Name (wpAny_storeName_local hok.2.1 hn₄ (fun h₅ hn₅ hs₅ => wpAny_pure ?_) hok.2.2)))
    replace hs₅ : Heap.SameBut env.locals h₄ h₅ := hs₅
    refine hQ h₅ _ _ ⟨v₀, v₁, hp, rfl⟩ hn₅ (W.frame _ _ _ hst₂ fun b hb o e => hs₅.extBut b o (fun q => hL (q ▸ hb)) (hs₄.extBut b o (fun q => hL (q ▸ hb)) (up₃ b o e))) (fun b o hb hw e => hs₅.extBut b o hb (hs₄.extBut b o hb (upL b o hw e))) ?_
    exact Nat.le_succ_of_le (Nat.le_succ_of_le htk)
  done := fun s Q E st hQ => wpAny_with_toks (n := s.toks) (Nat.le_refl _) (W.done s _ _ (hlen ▸ st) fun h' tk hk ht => hQ h' tk hk ht)
  self := fun s Q E st hQ => W.self 0 s Q E st hQ

/-- what e, used as an iterable, hands out, one by one -/
def ItP (w : World) (A : Around) (env : Env) (e : Expr) (s : Shared) (tgt : Expr) (ok : Env → Prop) {ι : Type} (xs : List ι) (B : ι → (Str → Option Value) → (Str → Option Value) → Prop) (src : List Addr) : Prop :=
  ∀ s', WK s s' → ∀ E, wpAny (model pw w) A (eval e env) (fun xv s₁ => wpAny (model pw w) A (pyIter xv) (fun it s₂ => ∃ I fp wr St T₀, it = .ref I ∧ (∀ env', ok env' → Trn w A tgt env' it xs B fp wr St T₀) ∧ T₀ ≤ s₂.toks ∧ St 0 s₂.heap ∧
    (∀ b ∈ fp, s'.heap.get? b = none ∨ b ∈ src) ∧ (∀ b ∈ wr, s'.heap.get? b = none) ∧ KT s' s₂) E s₁) E s'
theorem ItP.wgrow {ι : Type} {e : Expr} {s' : Shared} {tgt : Expr} {ok : Env → Prop} {xs : List ι} {B : ι → (Str → Option Value) → (Str → Option Value) → Prop} {src : List Addr} (h : ItP w A env e s tgt ok xs B src) (k : WK s s') : ItP w A env e s' tgt ok xs B src := fun s₁ k₁ => h s₁ (k.ww k₁)

/-- ow₂ follows ow₁ at h -/
def Owx (ow₁ ow₂ : List (Addr × List Value)) (h : Heap) : Prop := (∀ p ∈ ow₁, p.1 ∈ ow₂.map (·.1)) ∧ ∀ p ∈ ow₂, p.1 ∈ ow₁.map (·.1) ∨ h.get? p.1 = none
theorem Owx.refl (ow : List (Addr × List Value)) (h : Heap) : Owx ow ow h := ⟨fun p hp => List.mem_map.mpr ⟨p, hp, rfl⟩, fun p hp => .inl (List.mem_map.mpr ⟨p, hp, rfl⟩)⟩

/-- for -/
theorem sx_for {ι : Type} {s₀ : Shared} {m cm : Str → Option Value} {cs : List (Str × Addr)} {ow : List (Addr × List Value)} {hk : Heap} {tgt iter : Expr} {body rest : List Stmt} {pos : Pos} {ok : Env → Prop} {xs : List ι} {B : ι → (Str → Option Value) → (Str → Option Value) → Prop}
    {src : List Addr} {Q : Flow → Shared → Prop} (F : FS s₀ env.locals m cs cm ow hk s) (hit : ItP w A env iter s tgt ok xs B src) (hok : ok env) (hsrc : ∀ b ∈ src, ∃ o, s₀.heap.get? b = some o)
    (J : Nat → (Str → Option Value) → (Str → Option Value) → List (Addr × List Value) → Prop) (h0 : J 0 m cm ow)
    (step : ∀ i x m₁ m₁' cm₁ ow₁ s₁, xs[i]? = some x → J i m₁ cm₁ ow₁ → B x m₁ m₁' → FS s₀ env.locals m₁' cs cm₁ ow₁ s₁.heap s₁ →
      wpAny (model pw w) A (execs body env) (fun f s₂ => f = .next ∧ ∃ m₂ cm₂ ow₂, FS s₀ env.locals m₂ cs cm₂ ow₂ s₁.heap s₂ ∧ Owx ow₁ ow₂ s₁.heap ∧ J (i + 1) m₂ cm₂ ow₂) (fun _ _ => False) s₁)
    (hR : ∀ m' cm' ow' s', FS s₀ env.locals m' cs cm' ow' hk s' → Owx ow ow' s.heap → J xs.length m' cm' ow' → wpAny (model pw w) A (execs rest env) Q E s')
    (hs : ∀ x, foldedSetIterable iter env x = pure x := by intro _; rfl) (hcs : (cs.map (·.1)).Nodup := by decide) : wpAny (model pw w) A (execs (.For tgt iter body [] pos :: rest) env) Q E s := by
  refine wpAny_execs_cons (wpAny_For (wpAny_mono (hit s (WK.refl s) E) (fun xv s₁ h₁ => wpAny_mono h₁ (fun it s₂ h₂ => ?_) fun _ _ e => e) fun _ _ e => e) hs)
  obtain ⟨I, fp, wr, St, T₀, rfl, hT, hT₀, st, hfp, hwr, kt⟩ := h₂
  have T := hT env hok
  have F₂ := F.grow kt
  have live : ∀ b ∈ fp, ∃ o, s₂.heap.get? b = some o := T.live 0 _ st
  have hLs : ∃ o, s.heap.get? env.locals = some o := let ⟨o, es, ep, e, _⟩ := F.fr.ns; ⟨o, e⟩
  have src_lt : ∀ b ∈ src, b < env.locals := fun b hb => let ⟨o, e⟩ := hsrc b hb; Nat.lt_of_lt_of_le (Heap.lt_size e) F.fr.above
  have hLf : env.locals ∉ fp := fun h => by
    rcases hfp _ h with e | e
    · obtain ⟨o, e'⟩ := hLs; rw [e] at e'; cases e'
    · exact Nat.lt_irrefl _ (src_lt _ e)
  have hcf : ∀ c ∈ cs, c.2 ∉ fp := fun c hc h => by
    rcases hfp _ h with e | e
    · obtain ⟨o, e', _⟩ := F.cl.cell c.1 c.2 (lookup_of_mem_nodup hcs hc); rw [e] at e'; cases e'
    · exact Nat.lt_irrefl _ (Nat.lt_trans (src_lt _ e) (F.cl.above c.1 c.2 hc))
  have hof : ∀ p ∈ ow, p.1 ∉ fp := fun p hp h => by
    rcases hfp _ h with e | e
    · obtain ⟨o, e'⟩ := (F.own p hp).1; rw [e] at e'; cases e'
    · obtain ⟨o, e'⟩ := hsrc _ e; rw [(F.own p hp).2] at e'; cases e'
  have h0w : ∀ b ∈ wr, s₀.heap.get? b = none := fun b hb => by
    cases e : s₀.heap.get? b with
    | none => rfl
    | some o => have := F.fr.keep b o e; rw [hwr b hb] at this; cases this
  refine codeAny_forLoop_any
    (fun k s' => ∃ m' cm' ow' i, FS s₀ env.locals m' cs cm' ow' s.heap s' ∧ (∃ h' tk, s' = { s₂ with heap := h', toks := tk } ∧ s₂.toks ≤ tk) ∧ St i s'.heap ∧ Owx ow ow' s.heap ∧ (∀ p ∈ ow', p.1 ∉ fp) ∧ J i m' cm' ow' ∧ i ≤ xs.length ∧ k = xs.length + 1 - i) ?_ (xs.length + 1)
    ⟨m, cm, ow, 0, (F.mark.grow kt), ⟨_, _, rfl, Nat.le_refl _⟩, st, Owx.refl _ _, hof, h0, Nat.zero_le _, rfl⟩
  rintro k s' ⟨m', cm', ow', i, F', ⟨h', tk, rfl, htk₀⟩, st', ox, hof', hJ, hi, rfl⟩
  by_cases hlt : i < xs.length
  · obtain ⟨x, hx⟩ : ∃ x, xs[i]? = some x := ⟨xs[i], List.getElem?_eq_getElem hlt⟩
    refine T.item i x _ m' _ _ _ hx st' F'.fr.ns hLf (Nat.le_trans hT₀ htk₀) (fun v s₃ h₃ => h₃) fun h₁ tk₁ m₁ hB hn₁ st₁ hk₁ htk₁ => ?_
    have F₁ : FS s₀ env.locals m₁ cs cm' ow' s.heap { s₂ with heap := h₁, toks := tk₁ } := by
      obtain ⟨⟨h₄, t₄, e₄⟩, tk', fr, cl, own, nd, ch⟩ := F'
      obtain ⟨h₅, t₅, e₅⟩ := F₂.same
      refine ⟨⟨h₁, tk₁, by rw [e₅]⟩, Nat.le_trans tk' htk₁, ⟨hn₁, fun b o e => hk₁ b o (fun q => ?_) (fun q => ?_) (fr.keep b o e), fr.above⟩, ⟨fun n c e => ?_, cl.apart, cl.above⟩, fun p hp => ⟨(own p hp).1.at fun o e => hk₁ _ o (list_ne_dict (own p hp).1 fr.ns) (fun q => hof' p hp (T.sub _ q)) e, (own p hp).2⟩, nd,
        fun b o q1 q2 q3 e => hk₁ b o q1 (fun q => by rw [hwr b q] at e; cases e) (ch b o q1 q2 q3 e)⟩
      · subst q; exact absurd (Heap.lt_size e) (Nat.not_lt.mpr fr.above)
      · rw [h0w b q] at e; cases e
      · obtain ⟨o, e', d⟩ := cl.cell n c e
        exact ⟨o, hk₁ c o (fun q => by have := cl.above n c (mem_of_lookup e); rw [q] at this; exact Nat.lt_irrefl _ this) (fun q => hcf _ (mem_of_lookup e) (T.sub _ q)) e', d⟩
    refine wpAny_mono (wpAny_toks_of (n := tk₁) (Nat.le_refl _) (step i x m' m₁ cm' ow' _ hx hJ hB F₁.mark)) (fun f s₃ h₃ => ?_) fun _ _ e => e.2.elim
    obtain ⟨htk₃, rfl, m₂, cm₂, ow₂, F₃, ox₃, hJ₃⟩ := h₃
    have lv₁ : ∀ b ∈ fp, ∃ o, h₁.get? b = some o := T.live _ _ st₁
    have hof₂ : ∀ p ∈ ow₂, p.1 ∉ fp := fun p hp h => by
      rcases ox₃.2 p hp with e | e
      · obtain ⟨q, hq, e'⟩ := List.mem_map.mp e; exact hof' q hq (by rw [e']; exact h)
      · obtain ⟨o, e'⟩ := lv₁ _ h; rw [show h₁.get? p.1 = none from e] at e'; cases e'
    refine ⟨xs.length + 1 - (i + 1), by omega, m₂, cm₂, ow₂, i + 1, F₁.trans F₃ (fun b o q1 q2 q3 e => F₁.ch b o q1 q2 q3 e) ox₃.1, ?_, T.frame _ _ _ st₁ fun b hb o e => F₃.ch b o (fun q => hLf (q ▸ hb)) (fun c hc q => hcf c hc (q ▸ hb)) (fun q => ?_) e, ⟨fun p hp => ?_, fun p hp => ?_⟩, hof₂, hJ₃, hlt, rfl⟩
    · obtain ⟨h₄, t₄, e₄⟩ := F₃.same
      obtain ⟨h₅, t₅, e₅⟩ := F₂.same
      exact ⟨h₄, t₄, by rw [e₄, e₅], by rw [e₄] at htk₃; exact Nat.le_trans htk₀ (Nat.le_trans htk₁ htk₃)⟩
    · obtain ⟨p, hp, e'⟩ := List.mem_map.mp q; exact hof₂ p hp (by rw [e']; exact hb)
    · obtain ⟨q, hq, e'⟩ := List.mem_map.mp (ox.1 p hp); rw [← e']; exact ox₃.1 q hq
    · rcases ox₃.2 p hp with e | e
      · obtain ⟨q, hq, e'⟩ := List.mem_map.mp e; rw [← e']; exact ox.2 q hq
      · by_cases hin : p.1 ∈ ow.map (·.1)
        · exact .inl hin
        · right
          cases e' : s.heap.get? p.1 with
          | none => rfl
          | some o =>
            exfalso
            have e : h₁.get? p.1 = none := e
            by_cases q1 : p.1 = env.locals
            · obtain ⟨o, es, ep, e₂, _⟩ := F₁.fr.ns; rw [← q1] at e₂; rw [show h₁.get? p.1 = _ from e₂] at e; cases e
            · by_cases q2 : ∃ c ∈ cs, p.1 = c.2
              · obtain ⟨c, hc, q2⟩ := q2
                obtain ⟨o, e₂, _⟩ := F₁.cl.cell c.1 c.2 (lookup_of_mem_nodup hcs hc)
                rw [← q2] at e₂; rw [show h₁.get? p.1 = _ from e₂] at e; cases e
              · by_cases q3 : p.1 ∈ ow'.map (·.1)
                · obtain ⟨q, hq, e₃⟩ := List.mem_map.mp q3
                  obtain ⟨o, e₂⟩ := (F₁.own q hq).1
                  have e₃ : q.1 = p.1 := e₃
                  rw [e₃] at e₂; rw [show h₁.get? p.1 = _ from e₂] at e; cases e
                · have := F₁.ch p.1 o q1 (fun c hc q => q2 ⟨c, hc, q⟩) q3 e'
                  rw [show h₁.get? p.1 = _ from this] at e; cases e
  · have hin : i = xs.length := by omega
    subst hin
    refine T.done _ _ _ st' fun h₁ tk₁ hk₁ htk => wpAny_execs_nil ?_
    have F₁ := F'.wr (wr := wr) htk (fun q => hLf (T.sub _ q)) (fun c hc q => hcf c hc (T.sub _ q)) (fun p hp q => hof' p hp (T.sub _ q)) h0w hwr hk₁
    exact hR m' cm' ow' _ (F.trans F₁ (fun b o q1 q2 q3 e => F.ch b o q1 q2 q3 e) ox.1) ox hJ
end
end Law62

set_option maxRecDepth 100000
set_option linter.unusedVariables false
namespace Law62
open PySem PySem.W PySem.Calls PyProof.Rows

section
variable {w : World} {A : Around} {s : Shared} {env : Env} {E : Value → Shared → Prop}

theorem codeAny_compLoop_gen {elt target iter : Expr} {ifs : List Expr} {scope : Scope} {pos : Pos} {it acc : Value} {env : Env} {R : Result → Shared → Prop} (I : Nat → Shared → Prop)
    (turn : ∀ n s, I n s → wpAny (model pw w) A (pyNext it) (fun r s₁ => match r with
      | none => R (.ok .next) s₁
      | some v => wpAny (model pw w) A (letOwnedTupleGo target it v) (fun _ s₁' => wpAny (model pw w) A (assign target env v) (fun _ s₂ =>
          wpAny (model pw w) A (forIn ifs true fun c r => if r = true then do let ok ← isTrue c env (eval c env); pure (ForInStep.yield ok) else pure (ForInStep.yield r)) (fun ok s₃ =>
            if ok = true then wpAny (model pw w) A (eval elt env) (fun x s₄ =>
              wpAny (model pw w) A (call (.builtin "list.append") [acc, x]) (fun _ s₅ => ∃ m, m < n ∧ I m s₅) (notedBy (model pw w) A env fun e s' => R (.error e) s') s₄) (notedBy (model pw w) A env fun e s' => R (.error e) s') s₃
            else ∃ m, m < n ∧ I m s₃) (notedBy (model pw w) A env fun e s' => R (.error e) s') s₂) (notedBy (model pw w) A env fun e s' => R (.error e) s') s₁') (notedBy (model pw w) A env fun e s' => R (.error e) s') s₁) (notedBy (model pw w) A env fun e s' => R (.error e) s') s)
    (n : Nat) (h : I n s) :
    codeAny (model pw w) A (.compLoop (.ListComp elt [⟨target, iter, ifs, 0⟩] scope pos) 0 it acc env) R s := by
  refine codeAny_loop rfl I (fun n s hI => ?_) n h
  show wpAny _ A ((compTurn (.ListComp elt [⟨target, iter, ifs, 0⟩] scope pos) 0 it acc env).onRaise (fun x => do noteFrame x env; theTreesLotGoes x)) _ _ s
  refine wpAny_noted ?_
  rw [compTurn_list]
  refine wpAny_bind (wpAny_standAt (wpAny_bind (wpAny_mono (turn n s hI) (fun r s₁ h₁ => ?_) fun _ _ h' => h')))
  cases r with
  | none => exact wpAny_pure h₁
  | some v =>
    refine wpAny_bind (wpAny_mono h₁ (fun _ s₁' h₁' => ?_) fun _ _ h' => h')
    refine wpAny_bind (wpAny_mono h₁' (fun _ s₂ h₂ => wpAny_bind (wpAny_mono h₂ (fun ok s₃ h₃ => ?_) fun _ _ h' => h')) fun _ _ h' => h')
    cases ok with
    | false => exact wpAny_pure ⟨rfl, h₃⟩
    | true =>
      exact wpAny_bind (wpAny_bind (wpAny_mono h₃ (fun x s₄ h₄ => wpAny_bind (wpAny_mono h₄ (fun _ s₅ h₅ => wpAny_pure (wpAny_pure ⟨rfl, h₅⟩)) fun _ _ h' => h')) fun _ _ h' => h'))

/-- the tests come out as b -/
def TsB (w : World) (A : Around) (env : Env) (ifs : List Expr) (s : Shared) (b : Bool) : Prop := ∀ s', WK s s' → Gv w A (forIn ifs true fun c r => if r = true then do let ok ← isTrue c env (eval c env); pure (ForInStep.yield ok) else pure (ForInStep.yield r)) s' (fun c _ => c = b)
theorem tsB_nil : TsB w A env [] s true := fun s' _ E => wpAny_tests_nil ⟨rfl, keeps_refl _⟩
theorem tsB_one {c : Expr} {b : Bool} (h : TvB w A env c s b) : TsB w A env [c] s b := fun s' k E => wpAny_tests_one (h s' k E)

/-- a value that is no object, or a new one; R looks at no other object -/
def EvF (w : World) (A : Around) (env : Env) (e : Expr) (s : Shared) (R : Value → Heap → Prop) : Prop :=
  ∀ s', WK s s' → ∀ E, wpAny (model pw w) A (eval e env) (fun v s'' => (R v s''.heap ∧ ∀ T, v = .ref T → s'.heap.get? T = none ∧ ∃ o, s''.heap.get? T = some o) ∧ Keeps s' s'') E s'
theorem evF_pure {e : Expr} {P : Value → Prop} (h : EvP w A env e s (fun v _ => P v)) (hp : ∀ v, P v → ∀ T, v ≠ .ref T) : EvF w A env e s (fun v _ => P v) := fun s' k E =>
  (h s' k).here fun v s'' r kt => ⟨⟨r, fun T e => absurd e (hp v r T)⟩, kt.k⟩
theorem evF_list {e : Expr} {P : List Value → Prop} (h : EvN w A env e s (fun vs _ => P vs)) : EvF w A env e s (fun v h => ∃ D items, v = .ref D ∧ h.PlainList D items ∧ P items.toList) := fun s' k E =>
  wpAny_mono (h s' k E) (fun v s'' x => by
    obtain ⟨⟨D, it, rfl, p, q, r⟩, kk⟩ := x
    exact ⟨⟨⟨D, it, rfl, p, r⟩, fun T e => by cases e; obtain ⟨o, e⟩ := p; exact ⟨q, _, e⟩⟩, kk⟩) fun _ _ e => e

/-- the entries of a list that a comprehension has made -/
def Made {κ : Type} (R : κ → Value → Heap → Prop) (h₀ : Heap) (off : List Addr) (h : Heap) (vs : List Value) (ks : List κ) : Prop :=
  All2 (fun v k => R k v h ∧ ∀ T, v = .ref T → h₀.get? T = none ∧ T ∉ off ∧ ∃ o, h.get? T = some o) vs ks ∧ vs.Pairwise fun a b => ∀ T, a = .ref T → b ≠ .ref T

/-- R looks at the value's own object only -/
def Own {κ : Type} (R : κ → Value → Heap → Prop) : Prop := ∀ k v (h h' : Heap), (∀ T, v = .ref T → ∀ o, h.get? T = some o → h'.get? T = some o) → R k v h → R k v h'
theorem Made.keep {κ : Type} {R : κ → Value → Heap → Prop} (hR : Own R) {h₀ h h' : Heap} {off : List Addr} {vs : List Value} {ks : List κ} (x : Made R h₀ off h vs ks) (k : ∀ b o, b ∉ off → h.get? b = some o → h'.get? b = some o) : Made R h₀ off h' vs ks :=
  ⟨x.1.mono fun v k' y => ⟨hR _ _ _ _ (fun T e o e' => k T o (y.2 T e).2.1 e') y.1, fun T e => ⟨(y.2 T e).1, (y.2 T e).2.1, let ⟨o, e'⟩ := (y.2 T e).2.2; ⟨o, k T o (y.2 T e).2.1 e'⟩⟩⟩, x.2⟩
theorem Made.off {κ : Type} {R : κ → Value → Heap → Prop} {h₀ h : Heap} {off off' : List Addr} {vs : List Value} {ks : List κ} (x : Made R h₀ off h vs ks) (k : ∀ b, b ∈ off' → b ∈ off) : Made R h₀ off' h vs ks :=
  ⟨x.1.mono fun v k' y => ⟨y.1, fun T e => ⟨(y.2 T e).1, fun q => (y.2 T e).2.1 (k _ q), (y.2 T e).2.2⟩⟩, x.2⟩
theorem All2.right {α β : Type} {P : α → β → Prop} : ∀ {as : List α} {bs : List β}, All2 P as bs → ∀ a ∈ as, ∃ b, P a b
  | _, _, .nil, a, h => by cases h
  | _, _, .cons x r, a, h => by rcases List.mem_cons.mp h with rfl | h; exact ⟨_, x⟩; exact r.right a h
theorem Made.snoc {κ : Type} {R : κ → Value → Heap → Prop} {h₀ h : Heap} {off : List Addr} {vs : List Value} {ks : List κ} {v : Value} {k : κ} (x : Made R h₀ off h vs ks) (hr : R k v h) (hv : ∀ T, v = .ref T → h₀.get? T = none ∧ T ∉ off ∧ ∃ o, h.get? T = some o)
    (hn : ∀ a ∈ vs, ∀ T, a = .ref T → v ≠ .ref T) : Made R h₀ off h (vs ++ [v]) (ks ++ [k]) :=
  ⟨x.1.append (.cons ⟨hr, hv⟩ .nil), by
    rw [List.pairwise_append]
    exact ⟨x.2, List.pairwise_singleton _ _, fun a ha b hb => by rw [List.mem_singleton.mp hb]; exact hn a ha⟩⟩

/-- the block of a list comprehension of one clause -/
theorem comp_block {ι κ : Type} {elt iter tgt : Expr} {ifs : List Expr} {scope : Scope} {cl : List (Str × Addr)} {pos : Pos} {ok : Env → Prop} {xs : List ι} {B : ι → (Str → Option Value) → (Str → Option Value) → Prop} {I : Addr} {fp wr : List Addr} {St : Nat → Heap → Prop} {s' s₂ : Shared}
    (R : κ → Value → Heap → Prop) (hRo : Own R) (p : ι → Bool) (f : ι → κ) (hlen : xs.length ≤ 1000000)
    (hcell : ∀ y ∈ scope.names, y.2 ≠ .cell) (hkind : scope.kind = .function) (hok : ∀ C, ok (compEnvC scope cl C env))
    (htest : ∀ C x m m' s₃, x ∈ xs → WK s s₃ → B x m m' → s₃.heap.Ns C m' → TsB w A (compEnvC scope cl C env) ifs s₃ (p x))
    (helt : ∀ C x m m' s₃, x ∈ xs → WK s s₃ → p x = true → B x m m' → s₃.heap.Ns C m' → EvF w A (compEnvC scope cl C env) elt s₃ (R (f x)))
    {T₀ : Nat} (hT : ∀ env', ok env' → Trn w A tgt env' (.ref I) xs B fp wr St T₀) (hT₀ : T₀ ≤ s₂.toks) (hst : St 0 s₂.heap) (hwr : ∀ b ∈ wr, s'.heap.get? b = none) (k : WK s s') (kt : KT s' s₂) {RR : Value → Addr → Result → Shared → Prop}
    (hRR : ∀ D C h₂ tk m' (ys : Array Value), D ≠ C → s₂.heap.get? D = none → s₂.heap.get? C = none → s'.heap.get? D = none → s'.heap.get? C = none → h₂.Ns C m' → h₂.PlainList D ys → Made R s'.heap [D, C] h₂ ys.toList ((xs.filter p).map f) → (∀ b o, b ∉ wr → s₂.heap.get? b = some o → h₂.get? b = some o) → s₂.toks ≤ tk →
      RR (.ref D) C (.ok .next) { s₂ with heap := h₂, toks := tk }) :
    wpAny (model pw w) A (newList []) (fun acc s₃ => wpAny (model pw w) A (newFunctionEnv scope env.globals cl [] env.qual none .none (some env)) (fun cenv s₄ =>
      codeAny (model pw w) A (.compStart (.ListComp elt [⟨tgt, iter, ifs, 0⟩] scope pos) 0 (.ref I) acc { cenv with scope := relabel scope env }) (RR acc cenv.locals) s₄) E s₃) E s₂ := by
  have live₀ : ∀ b ∈ fp, ∃ o, s₂.heap.get? b = some o := (hT _ (hok 0)).live 0 _ hst
  have hfp : ∀ b ∈ fp, b < s₂.heap.objs.size := fun b hb => let ⟨o, e⟩ := live₀ b hb; Heap.lt_size e
  refine wpAny_newObj_type (wpAny_newFunctionEnv hcell (by intro y hy; simp at hy) (fun h₁ hns₁ hsb₁ => ?_) hkind)
  dsimp only at hns₁ hsb₁ ⊢
  generalize hH2 : s₂.heap.push { cls := .type "list", dict := none, data := .seq ([] : List Value).toArray } = H2 at hns₁ hsb₁ ⊢
  have hC : H2.objs.size = s₂.heap.objs.size + 1 := by rw [← hH2, Heap.size_push]
  have hDC : s₂.heap.objs.size ≠ H2.objs.size := by rw [hC]; exact Nat.ne_of_lt (Nat.lt_succ_self _)
  have below : ∀ b, b < s₂.heap.objs.size → b ≠ H2.objs.size ∧ b ≠ s₂.heap.objs.size := fun b hb => ⟨by rw [hC]; exact Nat.ne_of_lt (Nat.lt_succ_of_lt hb), Nat.ne_of_lt hb⟩
  have hDf : s₂.heap.objs.size ∉ fp := fun hm => Nat.lt_irrefl _ (hfp _ hm)
  have hCf : H2.objs.size ∉ fp := fun hm => by have := hfp _ hm; rw [hC] at this; exact Nat.lt_irrefl _ (Nat.lt_of_succ_lt this)
  have old : ∀ b o, s₂.heap.get? b = some o → h₁.get? b = some o := fun b o e => hsb₁.extBut b o (below b (Heap.lt_size e)).1 (Heap.get?_push_of_some _ (hH2 ▸ Heap.get?_push_of_some _ e))
  have hacc : h₁.PlainList s₂.heap.objs.size #[] := ⟨_, hsb₁.extBut _ _ hDC (Heap.get?_push_of_some _ (hH2 ▸ Heap.get?_push_size _ rfl))⟩
  have fresh : ∀ a, s₂.heap.objs.size ≤ a → s'.heap.get? a = none := fun a ha => by
    cases e : s'.heap.get? a with
    | none => rfl
    | some o' => exact absurd (Heap.lt_size (kt.get _ _ e)) (Nat.not_lt.mpr ha)
  have T := hT _ (hok H2.objs.size)
  have hst₁ : St 0 h₁ := T.frame _ _ _ hst fun b _ o e => old b o e
  have hD₀ := fresh _ (Nat.le_refl _)
  have hC₀ := fresh H2.objs.size (by rw [hC]; exact Nat.le_succ _)
  have loop : ∀ s₃ : Shared, s₃ = { s₂ with heap := h₁, toks := s₂.toks + ([] : List (Str × Value)).length } →
      codeAny (model pw w) A (.compLoop (.ListComp elt [⟨tgt, iter, ifs, 0⟩] scope pos) 0 (.ref I) (.ref s₂.heap.objs.size) (compEnvC scope cl H2.objs.size env))
        (RR (.ref s₂.heap.objs.size) H2.objs.size) s₃ := by
    rintro s₃ rfl
    refine codeAny_compLoop_gen
      (fun n s₄ => ∃ h' tk m' ys i, s₄ = { s₂ with heap := h', toks := tk } ∧ St i h' ∧ h'.PlainList s₂.heap.objs.size ys ∧ h'.Ns H2.objs.size m' ∧ Made R s'.heap (s₂.heap.objs.size :: H2.objs.size :: wr) h' ys.toList (((xs.take i).filter p).map f) ∧ i ≤ xs.length ∧ n = xs.length + 1 - i ∧
        (∀ b o, b ≠ H2.objs.size → b ≠ s₂.heap.objs.size → b ∉ wr → s₂.heap.get? b = some o → h'.get? b = some o) ∧ s₂.toks ≤ tk) ?_ (xs.length + 1)
      ⟨h₁, _, _, #[], 0, rfl, hst₁, hacc, hns₁, ⟨by simpa using All2.nil, by simp⟩, Nat.zero_le _, rfl, fun b o _ _ _ e => old b o e, Nat.le_refl _⟩
    rintro n s₄ ⟨H, tk, m', ys, i, rfl, hst', hacc', hn', hM, hi, rfl, hk, htk⟩
    have hCw : H2.objs.size ∉ wr := fun h => hCf (T.sub _ h)
    have hDw : s₂.heap.objs.size ∉ wr := fun h => hDf (T.sub _ h)
    by_cases hlt : i < xs.length
    · obtain ⟨x, hx⟩ : ∃ x, xs[i]? = some x := ⟨xs[i], List.getElem?_eq_getElem hlt⟩
      have hxm : x ∈ xs := List.mem_of_getElem? hx
      refine T.item i x _ m' _ _ _ hx hst' hn' hCf (Nat.le_trans hT₀ htk) (fun v s₃ h₃ => h₃) fun h₂ tk₂ m₂ hB hn₂ hst₂ hk₂ htk₂ => ?_
      have hk₂' : ∀ b o, b ≠ H2.objs.size → b ∉ wr → H.get? b = some o → h₂.get? b = some o := hk₂
      have wk₂ : WK s { s₂ with heap := h₂, toks := tk₂ } := k.ww ⟨fun b o e => hk₂' b o (fun q => by subst q; rw [hC₀] at e; cases e) (fun q => by rw [hwr b q] at e; cases e) (hk b o (fun q => by subst q; rw [hC₀] at e; cases e) (fun q => by subst q; rw [hD₀] at e; cases e) (fun q => by rw [hwr b q] at e; cases e) (kt.get _ _ e)), Nat.le_trans kt.t (Nat.le_trans htk htk₂)⟩
      have htake : (xs.take (i + 1)).filter p = (xs.take i).filter p ++ (if p x then [x] else []) := take_succ_filter p xs i x hx
      refine (htest H2.objs.size x m' m₂ _ hxm wk₂ hB hn₂ _ (WK.refl _)).here fun ok s₅ hok' kt₅ => ?_
      subst hok'
      obtain ⟨⟨h₃, tk₃, rfl, hk₃⟩, htk₃⟩ := kt₅
      have hst₃ : St (i + 1) h₃ := T.frame _ _ _ hst₂ fun b _ o e => hk₃ b o e
      have hacc₃ : h₃.PlainList s₂.heap.objs.size ys := hacc'.at fun o e => hk₃ _ o (hk₂' _ o hDC hDw e)
      have hM₃ : Made R s'.heap (s₂.heap.objs.size :: H2.objs.size :: wr) h₃ ys.toList (((xs.take i).filter p).map f) := hM.keep hRo fun b o hb e => hk₃ b o (hk₂' b o (fun q => hb (by simp [q])) (fun q => hb (by simp [q])) e)
      have hn₃ := hn₂.keeps hk₃
      have wk₃ : WK s { s₂ with heap := h₃, toks := tk₃ } := wk₂.ww ⟨hk₃, htk₃⟩
      have hkk : ∀ b o, b ≠ H2.objs.size → b ≠ s₂.heap.objs.size → b ∉ wr → s₂.heap.get? b = some o → h₃.get? b = some o := fun b o q1 q2 q3 e => hk₃ b o (hk₂' b o q1 q3 (hk b o q1 q2 q3 e))
      cases hpv : p x with
      | false =>
        simp only [Bool.false_eq_true, if_false]
        refine ⟨xs.length + 1 - (i + 1), by omega, h₃, tk₃, _, ys, i + 1, rfl, hst₃, hacc₃, hn₃, ?_, hlt, rfl, hkk, Nat.le_trans htk (Nat.le_trans htk₂ htk₃)⟩
        rw [htake, hpv]; simpa using hM₃
      | true =>
        simp only [if_true]
        refine wpAny_mono (wpAny_toks_of (n := tk₃) (Nat.le_refl _) (helt H2.objs.size x m' m₂ _ hxm wk₃ hpv hB hn₃ _ (WK.refl _) _)) (fun y s₆ h₆ => ?_) fun _ _ e => e.2
        obtain ⟨htk₆, ⟨hRy, hy⟩, h₄, tk₄, rfl, hk₄⟩ := h₆
        have hlive : ∀ b, b ∈ s₂.heap.objs.size :: H2.objs.size :: wr → ∃ o, h₃.get? b = some o := fun b hb => by
          rcases List.mem_cons.mp hb with rfl | hb
          · obtain ⟨o, e⟩ := hacc₃; exact ⟨_, e⟩
          · rcases List.mem_cons.mp hb with rfl | hb
            · obtain ⟨o, es, ep, e, _⟩ := hn₃; exact ⟨o, e⟩
            · exact T.live _ _ hst₃ b (T.sub b hb)
        have hM₄ := hM₃.keep hRo (h' := h₄) fun b o _ e => hk₄ b o e
        have hM₅ : Made R s'.heap (s₂.heap.objs.size :: H2.objs.size :: wr) h₄ (ys.toList ++ [y]) (((xs.take i).filter p).map f ++ [f x]) := by
          refine hM₄.snoc hRy (fun T' e => ⟨?_, fun hm => ?_, (hy T' e).2⟩) fun a ha T' e e' => ?_
          · cases e₁ : s'.heap.get? T' with
            | none => rfl
            | some o =>
              have := wk₃
              have e₂ : h₃.get? T' = some o := hkk T' o (fun q => by subst q; rw [hC₀] at e₁; cases e₁) (fun q => by subst q; rw [hD₀] at e₁; cases e₁) (fun q => by rw [hwr _ q] at e₁; cases e₁) (kt.get _ _ e₁)
              have := (hy T' e).1
              rw [show h₃.get? T' = none from this] at e₂; cases e₂
          · obtain ⟨o, e₁⟩ := hlive T' hm
            have := (hy T' e).1
            rw [show h₃.get? T' = none from this] at e₁; cases e₁
          · obtain ⟨k', hk'⟩ := hM₃.1.right a ha
            obtain ⟨o, e₁⟩ := (hk'.2 T' e).2.2
            have := (hy T' e').1
            rw [show h₃.get? T' = none from this] at e₁; cases e₁
        have hys : ys.size ≤ sizeLine := by
          have e1 := hM.1.length
          rw [List.length_map] at e1
          have e2 : ((xs.take i).filter p).length ≤ (xs.take i).length := List.length_filter_le _ _
          have e3 : (xs.take i).length ≤ xs.length := by rw [List.length_take]; omega
          have e4 : ys.toList.length = ys.size := by simp
          have : sizeLine = 16777216 := rfl
          omega
        refine wpAny_list_append_plain (hsz := hys) (hacc₃.at fun o e => hk₄ _ o e) fun h₅ hl₅ hs₅ => ?_
        refine ⟨xs.length + 1 - (i + 1), by omega, h₅, tk₄, _, ys.push y, i + 1, rfl, T.frame _ _ _ hst₃ fun b hb o e => hs₅.extBut b o (fun q => hDf (q ▸ hb)) (hk₄ b o e), hl₅, (hn₃.keeps hk₄).sameBut hs₅ (Ne.symm hDC), ?_, hlt, rfl,
          fun b o q1 q2 q3 e => hs₅.extBut b o q2 (hk₄ b o (hkk b o q1 q2 q3 e)), Nat.le_trans htk (Nat.le_trans htk₂ (Nat.le_trans htk₃ htk₆))⟩
        rw [htake, hpv, if_pos rfl, List.map_append, List.map_singleton, Array.toList_push]
        exact hM₅.keep hRo fun b o hb e => hs₅.extBut b o (fun q => hb (by simp [q])) e
    · have hin : i = xs.length := by omega
      subst hin
      refine T.done _ _ _ hst' fun h₂ tk₂ hk₂ htk₂ => ?_
      rw [List.take_length] at hM
      have hM₂ := hM.keep hRo (h' := h₂) fun b o hb e => hk₂ b o (fun q => hb (by simp [q])) e
      have fresh₂ : ∀ a, s₂.heap.objs.size ≤ a → s₂.heap.get? a = none := fun a ha => get_size_none _ ha
      exact hRR _ _ h₂ tk₂ m' ys hDC (fresh₂ _ (Nat.le_refl _)) (fresh₂ _ (by rw [hC]; exact Nat.le_succ _)) hD₀ hC₀ (hn'.at' fun o e => hk₂ _ o hCw e) (hacc'.at fun o e => hk₂ _ o hDw e) (hM₂.off fun b hb => by rcases List.mem_cons.mp hb with rfl | hb; simp; rw [List.mem_singleton.mp hb]; simp)
        (fun b o hb e => hk₂ b o hb (hk b o (fun q => by subst q; have := Heap.lt_size e; rw [hC] at this; exact absurd this (Nat.not_lt.mpr (Nat.le_succ _))) (fun q => by subst q; exact absurd (Heap.lt_size e) (Nat.lt_irrefl _)) hb e)) (Nat.le_trans htk htk₂)
  exact codeAny_compStart_list (loop _ rfl) (T.self _ _ _ hst₁ (loop _ rfl))

/-- a list comprehension of one clause -/
theorem comp_gen {ι κ : Type} {elt iter tgt : Expr} {ifs : List Expr} {scope : Scope} {cl : List (Str × Addr)} {pos : Pos} {ok : Env → Prop} {xs : List ι} {B : ι → (Str → Option Value) → (Str → Option Value) → Prop} {src : List Addr}
    (hit : ItP w A env iter s tgt ok xs B src) (R : κ → Value → Heap → Prop) (hRo : Own R) (p : ι → Bool) (f : ι → κ) (hlen : xs.length ≤ 1000000)
    (hclos : closureFor scope env = pure cl) (hcell : ∀ y ∈ scope.names, y.2 ≠ .cell) (hkind : scope.kind = .function) (hnames : ∀ y ∈ scope.names, y.2 = .local → scope.names.lookup y.1 = some .local) (hok : ∀ C, ok (compEnvC scope cl C env))
    (htest : ∀ C x m m' s₃, x ∈ xs → WK s s₃ → B x m m' → s₃.heap.Ns C m' → TsB w A (compEnvC scope cl C env) ifs s₃ (p x))
    (helt : ∀ C x m m' s₃, x ∈ xs → WK s s₃ → p x = true → B x m m' → s₃.heap.Ns C m' → EvF w A (compEnvC scope cl C env) elt s₃ (R (f x)))
    (hs : ∀ x, foldedSetIterable iter env x = pure x := by intro _; rfl) :
    ∀ s', WK s s' → ∀ E, wpAny (model pw w) A (eval (.ListComp elt [⟨tgt, iter, ifs, 0⟩] scope pos) env) (fun v s'' => (∃ D items, v = .ref D ∧ s''.heap.PlainList D items ∧ s'.heap.get? D = none ∧ Made R s'.heap [D] s''.heap items.toList ((xs.filter p).map f)) ∧ Keeps s' s'') E s' := fun s' k E => by
  rw [eval_ListComp]
  refine wpAny_comprehension_free (use := none) rfl hs hclos hkind hnames (wpAny_mono (hit s' k E) (fun xv s₁ h₁ => wpAny_mono h₁ (fun it s₂ h₂ => ?_) fun _ _ e => e) fun _ _ e => e)
  obtain ⟨I, fp, wr, St, T₀, rfl, hT, hT₀, hst, hfp', hwr, kt⟩ := h₂
  refine comp_block (RR := fun acc C => compPost (model pw w) A E none _ acc C) R hRo p f hlen hcell hkind hok htest helt hT hT₀ hst hwr k kt fun D C h₂ tk m' ys hDC hD hC hD₀ hC₀ hn hl hM hk htk => ⟨m', hn, fun h'' hs'' => ?_⟩
  have hM₃ := hM.keep hRo (h' := h'') fun b o hb e => hs''.extBut b o (fun q => hb (by simp [q])) e
  refine ⟨⟨_, ys, rfl, hl.at fun o e => hs''.extBut _ o hDC e, hD₀, hM₃.off fun b hb => by rw [List.mem_singleton.mp hb]; simp⟩, ?_⟩
  obtain ⟨⟨hh, tt, rfl, kk⟩, _⟩ := kt
  refine ⟨_, _, rfl, fun b o e => ?_⟩
  exact hs''.extBut b o (fun q => by subst q; rw [hC₀] at e; cases e) (hk b o (fun q => by rw [hwr b q] at e; cases e) (kk b o e))

/-- x = [comprehension]; the whole goes by the road of the used value -/
theorem sx_assign_comp {ι κ : Type} {s₀ : Shared} {m cm : Str → Option Value} {cs : List (Str × Addr)} {ow : List (Addr × List Value)} {hk : Heap} {elt iter tgt : Expr} {ifs : List Expr} {scope : Scope} {cl : List (Str × Addr)} {y : Str} {py pos spos : Pos} {ok : Env → Prop} {xs : List ι} {B : ι → (Str → Option Value) → (Str → Option Value) → Prop} {src : List Addr}
    {Q : Flow → Shared → Prop} {rest : List Stmt} (F : FS s₀ env.locals m cs cm ow hk s) (hit : ItP w A env iter s tgt ok xs B src) (R : κ → Value → Heap → Prop) (hRo : Own R) (p : ι → Bool) (f : ι → κ) (hlen : xs.length ≤ 1000000)
    (hsw : swapsWith (.ListComp elt [⟨tgt, iter, ifs, 0⟩] scope pos) (some (.Name y py)) spos.line env = pure true) (hy : ok1 y env)
    (hclos : closureFor scope env = pure cl) (hcell : ∀ y ∈ scope.names, y.2 ≠ .cell) (hkind : scope.kind = .function) (hnames : ∀ y ∈ scope.names, y.2 = .local → scope.names.lookup y.1 = some .local) (hok : ∀ C, ok (compEnvC scope cl C env))
    (htest : ∀ C x m m' s₃, x ∈ xs → WK s s₃ → B x m m' → s₃.heap.Ns C m' → TsB w A (compEnvC scope cl C env) ifs s₃ (p x))
    (helt : ∀ C x m m' s₃, x ∈ xs → WK s s₃ → p x = true → B x m m' → s₃.heap.Ns C m' → EvF w A (compEnvC scope cl C env) elt s₃ (R (f x)))
    (h : ∀ D items s', FS s₀ env.locals (upd m y (.ref D)) cs cm ((D, items) :: ow) hk s' → s.heap.get? D = none → Made R s.heap [D] s'.heap items ((xs.filter p).map f) → wpAny (model pw w) A (execs rest env) Q E s')
    (hs : ∀ x, foldedSetIterable iter env x = pure x := by intro _; rfl) :
    wpAny (model pw w) A (execs (.Assign [.Name y py] (.ListComp elt [⟨tgt, iter, ifs, 0⟩] scope pos) spos :: rest) env) Q E s := by
  refine wpAny_execs_cons ?_
  rw [exec_Assign_Name_used _ _ _ _ hsw]
  refine wpAny_bind (wpAny_standAt (wpAny_bind ?_))
  show wpAny _ A (do let _ ← comprehension (.ListComp elt [⟨tgt, iter, ifs, 0⟩] scope pos) scope env _ (newList []) false (eval iter env) (some (assign (.Name y py) env))) _ _ s
  refine wpAny_bind (wpAny_mono (wpAny_comprehension_free (use := some (assign (.Name y py) env)) (Q := fun _ s' => wpAny (model pw w) A (execs rest env) Q E s') rfl hs hclos hkind hnames
    (wpAny_mono (hit s (WK.refl s) E) (fun xv s₁ h₁ => wpAny_mono h₁ (fun it s₂ h₂ => ?_) fun _ _ e => e) fun _ _ e => e)) (fun _ s' hq => wpAny_pure (wpAny_pure hq)) fun _ _ e => e)
  obtain ⟨I, fp, wr, St, T₀, rfl, hT, hT₀, hst, hfp', hwr, kt⟩ := h₂
  refine comp_block (RR := fun acc C => compPost (model pw w) A E (some (assign (.Name y py) env)) (fun _ s' => wpAny (model pw w) A (execs rest env) Q E s') acc C) R hRo p f hlen hcell hkind hok htest helt hT hT₀ hst hwr (WK.refl s) kt
    fun D C h₂ tk m' ys hDC hD hC hD₀ hC₀ hn hl hM hk₂ htk => ?_
  have F₂ := F.grow kt
  have hLs : ∃ o, s₂.heap.get? env.locals = some o := let ⟨o, es, ep, e, _⟩ := F₂.fr.ns; ⟨o, e⟩
  have hLC : env.locals ≠ C := by rintro rfl; obtain ⟨o, e⟩ := hLs; rw [hC] at e; cases e
  have hLD : env.locals ≠ D := by rintro rfl; obtain ⟨o, e⟩ := hLs; rw [hD] at e; cases e
  have old : ∀ b o, s.heap.get? b = some o → h₂.get? b = some o := fun b o e => hk₂ b o (fun q => by rw [hwr b q] at e; cases e) (kt.get _ _ e)
  have kt₂ : KT s { s₂ with heap := h₂, toks := tk } := by
    obtain ⟨⟨hh, tt, rfl, kk⟩, t⟩ := kt
    exact ⟨⟨_, _, rfl, old⟩, Nat.le_trans t htk⟩
  have F₃ := F.grow kt₂
  refine wpAny_assign_Name (wpAny_storeName_local hy.1 F₃.fr.ns (fun h₃ hn₃ hs₃ => ?_) hy.2)
  replace hs₃ : Heap.SameBut env.locals h₂ h₃ := hs₃
  refine ⟨m', hn.sameBut hs₃ (Ne.symm hLC), fun h₄ hs₄ => ?_⟩
  have F₄ : FS s₀ env.locals (upd m y (.ref D)) cs cm ow hk { s₂ with heap := h₃, toks := tk + 1 } := F₃.setLocal (Nat.le_succ tk) hn₃ hs₃
  have hCo : ∀ b, (∃ o, s.heap.get? b = some o) → b ≠ C := fun b ⟨o, e⟩ q => by subst q; rw [hC₀] at e; cases e
  have F₅ : FS s₀ env.locals (upd m y (.ref D)) cs cm ow hk { s₂ with heap := h₄, toks := tk + 1 } := by
    obtain ⟨⟨h₅, t₅, e₅⟩, tk', fr, cl', own, nd, ch⟩ := F₄
    obtain ⟨h₆, t₆, e₆⟩ := F₂.same
    refine ⟨⟨h₄, tk + 1, by rw [e₆]⟩, tk', ⟨fr.ns.sameBut hs₄ hLC, fun b o e => hs₄.extBut b o (hCo b ⟨o, F.fr.keep b o e⟩) (fr.keep b o e), fr.above⟩, ⟨fun n c e => ?_, cl'.apart, cl'.above⟩, fun q hq => ⟨(own q hq).1.at fun o e => hs₄.extBut _ o (hCo _ ?_) e, (own q hq).2⟩, nd,
      fun b o q1 q2 q3 e => hs₄.extBut b o (hCo b ⟨o, F.ch b o q1 q2 q3 e⟩) (ch b o q1 q2 q3 e)⟩
    · obtain ⟨o, e', d⟩ := cl'.cell n c e
      obtain ⟨o', e'', _⟩ := F.cl.cell n c e
      exact ⟨o, hs₄.extBut c o (hCo c ⟨o', e''⟩) e', d⟩
    · obtain ⟨o, e⟩ := (F.own q hq).1; exact ⟨_, e⟩
  have hfD := F.fresh hD₀
  refine h D ys.toList _ (F₅.addOwn ?_ hfD.1 hfD.2) hD₀ ?_
  · simpa using ((hl.at fun o e => hs₃.extBut _ o (Ne.symm hLD) e).at fun o e => hs₄.extBut _ o hDC e)
  · have hM₁ : Made R s.heap [D, C] h₃ ys.toList ((xs.filter p).map f) := by
      refine ⟨hM.1.mono fun v k' z => ⟨hRo _ _ _ _ (fun T e o e' => ?_) z.1, fun T e => ⟨(z.2 T e).1, (z.2 T e).2.1, ?_⟩⟩, hM.2⟩
      · refine hs₃.extBut _ o (fun q => ?_) e'
        have := (z.2 T e).1; rw [q] at this
        obtain ⟨o, es, ep, e₁, _⟩ := F.fr.ns; rw [this] at e₁; cases e₁
      · obtain ⟨o, e'⟩ := (z.2 T e).2.2
        refine ⟨o, hs₃.extBut _ o (fun q => ?_) e'⟩
        have := (z.2 T e).1; rw [q] at this
        obtain ⟨o, es, ep, e₁, _⟩ := F.fr.ns; rw [this] at e₁; cases e₁
    exact (hM₁.keep hRo (h' := h₄) fun b o hb e => hs₄.extBut b o (fun q => hb (by simp [q])) e).off fun b hb => by rw [List.mem_singleton.mp hb]; simp
end
end Law62

set_option maxRecDepth 100000
set_option linter.unusedVariables false
namespace Law62
open PySem PySem.W PySem.Calls PyProof.Rows

section
variable {w : World} {A : Around} {s : Shared} {env : Env} {mg mb : Str → Option Value}

theorem kt_push (s : Shared) (o : Obj) : KT s { s with heap := s.heap.push o } := ⟨⟨_, _, rfl, fun _ _ e => Heap.get?_push_of_some _ e⟩, Nat.le_refl _⟩
theorem kt_heap {s : Shared} {h' : Heap} (k : ∀ b o, s.heap.get? b = some o → h'.get? b = some o) : KT s { s with heap := h' } := ⟨⟨_, _, rfl, k⟩, Nat.le_refl _⟩
theorem list_lt {h : Heap} {a : Addr} {items : Array Value} (x : h.IsList a items) : a < h.objs.size := by obtain ⟨_, e, _⟩ := x; exact Heap.lt_size e
theorem fresh_of {s s₁ : Shared} (k : KT s s₁) {a : Addr} (h : s₁.heap.objs.size ≤ a) : s.heap.get? a = none := by
  cases e : s.heap.get? a with
  | none => rfl
  | some o' => exact absurd (Heap.lt_size (k.get _ _ e)) (Nat.not_lt.mpr h)

theorem itP_list {ι : Type} {e : Expr} {n : Str} {px : Pos} {a : Addr} {items : Array Value} {xs : List ι} {P : ι → Value → Prop} (hh : A.handled = none) (h : EvP w A env e s (fun v h => v = .ref a ∧ h.IsList a items)) (hP : All2 (fun v x => P x v) items.toList xs) :
    ItP w A env e s (.Name n px) (ok1 n) xs (B1 n P) [a] := fun s' k E => (h s' k).here fun v s₁ ⟨ev, hl⟩ kt => by
  subst ev
  have hlt := list_lt hl
  refine wpAny_pyIter_list hl ⟨s₁.heap.objs.size, [s₁.heap.objs.size, a], [s₁.heap.objs.size], _, 0, rfl, fun env' hok => Trn.of_walks (Walks.list hh s₁.heap.objs.size a (Nat.ne_of_lt hlt) items) ?_ ?_ ?_ hok, Nat.zero_le _, ⟨⟨_, Heap.get?_push_size _ rfl, rfl, rfl⟩, hl.push _⟩, ?_, ?_, kt.trans (kt_push _ _)⟩
  · rw [← hP.length, Array.length_toList]
  · intro i x v hx hv
    obtain ⟨v', e1, e2⟩ := hP.get i x hx
    rw [Array.getElem?_toList] at e1
    rw [hv] at e1; cases e1; exact e2
  · intro i h st b hb
    simp at hb
    rcases hb with rfl | rfl
    · obtain ⟨o, e, _⟩ := st.1; exact ⟨o, e⟩
    · obtain ⟨o, e, _⟩ := st.2; exact ⟨o, e⟩
  · intro b hb
    simp at hb
    rcases hb with rfl | rfl
    · exact .inl (fresh_of kt (Nat.le_refl _))
    · exact .inr (by simp)
  · intro b hb
    simp at hb; subst hb
    exact fresh_of kt (Nat.le_refl _)

theorem itP_bytes {e : Expr} {n : Str} {px : Pos} {b : Array UInt8} (hh : A.handled = none) (h : EvP w A env e s (fun v _ => ∃ t, v = .bytes b t)) :
    ItP w A env e s (.Name n px) (ok1 n) b.toList (B1 n fun c v => IsI v (c.toNat : Int)) [] := fun s' k E => (h s' k).here fun v s₁ ⟨t, ev⟩ kt => by
  subst ev
  refine KBw.pyIter_bytes ⟨s₁.heap.objs.size, [s₁.heap.objs.size], [s₁.heap.objs.size], _, 0, rfl, fun env' hok => Trn.of_walks (KBw.walks hh s₁.heap.objs.size b t) ?_ ?_ ?_ hok, Nat.zero_le _, ⟨_, Heap.get?_push_size _ rfl, rfl, rfl⟩, ?_, ?_, kt.trans (kt_push _ _)⟩
  · rw [Array.length_toList]
  · rintro i x v hx ⟨c, u, hc, rfl⟩
    rw [Array.getElem?_toList] at hx
    rw [hc] at hx; cases hx; exact ⟨u, rfl⟩
  · intro i h st c hc
    rw [List.mem_singleton.mp hc]
    obtain ⟨o, e, _⟩ := st; exact ⟨o, e⟩
  · intro c hc
    rw [List.mem_singleton.mp hc]
    exact .inl (fresh_of kt (Nat.le_refl _))
  · intro c hc
    rw [List.mem_singleton.mp hc]
    exact fresh_of kt (Nat.le_refl _)

theorem itP_range {e : Expr} {n : Str} {px : Pos} {a b c : Int} {k : Nat} (hh : A.handled = none) (h : EvP w A env e s (fun v h => ∃ r t u v', v = .ref r ∧ IsRange h r a b c t u v')) (hsm : Builtin.Range.small a b c = true) (hsz : Builtin.Range.rangeSize a b c = (k : Int)) :
    ItP w A env e s (.Name n px) (ok1 n) (rangeInts a c k) (B1 n fun i v => IsI v i) [] := fun s' kk E => (h s' kk).here fun v s₁ ⟨r, t, u, v', ev, hr⟩ kt => by
  subst ev
  refine wpAny_pyIter_range hr hsm ⟨s₁.heap.objs.size, [s₁.heap.objs.size], [s₁.heap.objs.size], _, 0, rfl, fun env' hok => Trn.of_walks (Walks.range hh s₁.heap.objs.size a c k) ?_ ?_ ?_ hok, Nat.zero_le _, ?_, ?_, ?_, kt.trans (kt_push _ _)⟩
  · rw [rangeInts_length]
  · rintro i x v hx ⟨t, rfl⟩
    have hi : i < k := by have := (List.getElem?_eq_some_iff.mp hx).1; rwa [rangeInts_length] at this
    rw [rangeInts_get hi] at hx
    cases hx; exact ⟨t, rfl⟩
  · intro i h st c hc
    rw [List.mem_singleton.mp hc]
    exact ⟨_, st⟩
  · show IsRangeIter _ _ _ _ _
    have := Heap.get?_push_size s₁.heap (o := { cls := .type "range_iterator", data := .fields #[rawInt a, rawInt (Builtin.Range.rangeSize a b c), rawInt c] }) rfl
    rw [hsz] at this ⊢
    simpa [IsRangeIter] using this
  · intro c hc
    rw [List.mem_singleton.mp hc]
    exact .inl (fresh_of kt (Nat.le_refl _))
  · intro c hc
    rw [List.mem_singleton.mp hc]
    exact fresh_of kt (Nat.le_refl _)

theorem ev_range1 {e : Expr} {p pos : Pos} {N : Int} (G : Gd w mg mb s.heap) (hn : mg "range" = none) (he : EvI w A env e s N) (hg : env.globals = mainGlobals := by rfl) (hb : env.builtins = builtinsNs := by rfl) (hk : env.scope.kind = .function := by rfl) (hl : env.kindOf "range" = some .globalImplicit := by rfl)
    (hst : starEach [e] env = [(false, eval e env)] := by rfl) : EvP w A env (.Call (.Name "range" p) [e] [] pos) s (fun v h => ∃ r t u v', v = .ref r ∧ IsRange h r 0 N 1 t u v') :=
  ev_call1 (ev_builtin G hn boot_range (by decide) hg hb hk hl) (cb_type _) he (fun v s' k ⟨t, ev⟩ E => by
    subst ev
    exact call_range_1 ⟨⟨_, _, _, _, rfl, IsRange.new ..⟩, ⟨_, _, rfl, fun _ _ e => Heap.get?_push_of_some _ e⟩⟩) hst
theorem itP_range1 {e : Expr} {n : Str} {p px pos : Pos} {N : Nat} (G : Gd w mg mb s.heap) (hn : mg "range" = none) (hh : A.handled = none) (he : EvI w A env e s N) (hN : N < 1000000) (hg : env.globals = mainGlobals := by rfl) (hb : env.builtins = builtinsNs := by rfl) (hk : env.scope.kind = .function := by rfl) (hl : env.kindOf "range" = some .globalImplicit := by rfl)
    (hst : starEach [e] env = [(false, eval e env)] := by rfl) : ItP w A env (.Call (.Name "range" p) [e] [] pos) s (.Name n px) (ok1 n) (rangeInts 0 1 N) (B1 n fun i v => IsI v i) [] :=
  itP_range hh (ev_range1 G hn he hg hb hk hl hst) (small_one (by omega) (by omega) (by omega) (by omega)) (by rw [rangeSize_nat]; omega)

theorem ev_range3 {e₁ e₂ e₃ : Expr} {p pos : Pos} {a b c : Int} (G : Gd w mg mb s.heap) (hn : mg "range" = none) (h1 : EvI w A env e₁ s a) (h2 : EvI w A env e₂ s b) (h3 : EvI w A env e₃ s c) (hc : c ≠ 0) (hp : Builtin.divisionGoesByPylong (b - a) c = false)
    (hg : env.globals = mainGlobals := by rfl) (hb : env.builtins = builtinsNs := by rfl) (hk : env.scope.kind = .function := by rfl) (hl : env.kindOf "range" = some .globalImplicit := by rfl)
    (hst : starEach [e₁, e₂, e₃] env = [(false, eval e₁ env), (false, eval e₂ env), (false, eval e₃ env)] := by rfl) : EvP w A env (.Call (.Name "range" p) [e₁, e₂, e₃] [] pos) s (fun v h => ∃ r t u v', v = .ref r ∧ IsRange h r a b c t u v') :=
  ev_call3 (ev_builtin G hn boot_range (by decide) hg hb hk hl) (cb_type _) h1 h2 h3 (sb_pure _) (sb_pure _) (fun v₁ v₂ v₃ s' k ⟨t, ev⟩ ⟨t', ev'⟩ ⟨t'', ev''⟩ E => by
    subst ev ev' ev''
    exact call_range_3 hc ⟨⟨_, _, _, _, rfl, IsRange.new ..⟩, ⟨_, _, rfl, fun _ _ e => Heap.get?_push_of_some _ e⟩⟩ (.inl hp)) hst

theorem itP_enum {ι : Type} {e : Expr} {n₀ n₁ : Str} {p p₀ p₁ pt pos : Pos} {x1 : Nat} {a : Addr} {items : Array Value} {xs : List ι} {P : ι → Value → Prop} (G : Gd w mg mb s.heap) (hn : mg "enumerate" = none) (hh : A.handled = none)
    (h : EvP w A env e s (fun v h => v = .ref a ∧ h.IsList a items)) (hP : All2 (fun v x => P x v) items.toList xs)
    (hg : env.globals = mainGlobals := by rfl) (hb : env.builtins = builtinsNs := by rfl) (hk : env.scope.kind = .function := by rfl) (hl : env.kindOf "enumerate" = some .globalImplicit := by rfl) (hst : starEach [e] env = [(false, eval e env)] := by rfl) :
    ItP w A env (.Call (.Name "enumerate" p) [e] [] pos) s (.Tuple [.Name n₀ p₀, .Name n₁ p₁] x1 pt) (ok2 n₀ n₁) xs.zipIdx (B2 n₀ n₁ fun x v₀ v₁ => IsI v₀ (x.2 : Int) ∧ P x.1 v₁) [a] := fun s' k E => by
  rw [call_name, hst]
  refine wpAny_bind ((ev_builtin G hn (show bootBuiltins "enumerate" = some (.type "enumerate") by decide +kernel) (by decide) hg hb hk hl (by decide) s' k).here fun y s₁ ey k₁ => ?_)
  subst ey
  refine cb_type "enumerate" (s := s') A pos _ _ _ _ s₁ rfl k₁.wk ?_
  refine spliced_cons ((h s₁ (k.trans k₁)).here fun v s₂ ⟨ev, hls⟩ k₂ => spliced_nil ⟨k₁.wk.trans k₂, ?_⟩)
  subst ev
  have kt := k₁.trans k₂
  have hlt := list_lt hls
  refine call_enumerate_list hls fun h' he hit hsz hk' => wpAny_pyIter_enum he ?_
  refine ⟨s₂.heap.objs.size + 1, [s₂.heap.objs.size + 1, s₂.heap.objs.size, a], [s₂.heap.objs.size + 1, s₂.heap.objs.size], _, 0, rfl, fun env' hok => Trn.of_walksT hh (WalksT.enumerate hh (s₂.heap.objs.size + 1) s₂.heap.objs.size a (Nat.succ_ne_self _) (Nat.ne_of_lt (Nat.lt_succ_of_lt hlt)) (Nat.ne_of_lt hlt) items) ?_ ?_ ?_ hok, Nat.zero_le _,
    ⟨⟨_, he⟩, hit, hls.at fun o e => hk' _ o e⟩, ?_, ?_, kt.trans (kt_heap hk')⟩
  · rw [List.length_zipIdx, ← hP.length, Array.length_toList]
  · rintro i x vals hx ⟨t, y, hy, rfl⟩
    rw [List.getElem?_zipIdx] at hx
    cases e1 : xs[i]? with
    | none => rw [e1] at hx; cases hx
    | some z =>
      rw [e1] at hx; cases hx
      obtain ⟨v', e2, e3⟩ := hP.get i z e1
      rw [Array.getElem?_toList] at e2
      rw [hy] at e2; cases e2
      exact ⟨_, _, rfl, ⟨t, by simp⟩, e3⟩
  · intro i h st b hb
    simp at hb
    obtain ⟨⟨old, h1⟩, ⟨o2, h2, _⟩, ⟨o3, h3, _⟩⟩ := st
    rcases hb with rfl | rfl | rfl
    · exact ⟨_, h1⟩
    · exact ⟨_, h2⟩
    · exact ⟨_, h3⟩
  · intro b hb
    simp at hb
    rcases hb with rfl | rfl | rfl
    · exact .inl (fresh_of kt (Nat.le_succ _))
    · exact .inl (fresh_of kt (Nat.le_refl _))
    · exact .inr (by simp)
  · intro b hb
    simp at hb
    rcases hb with rfl | rfl
    · exact fresh_of kt (Nat.le_succ _)
    · exact fresh_of kt (Nat.le_refl _)

theorem itP_zip {ι κ : Type} {e₁ e₂ : Expr} {n₀ n₁ : Str} {p p₀ p₁ pt pos : Pos} {x1 : Nat} {a₁ a₂ : Addr} {it₁ it₂ : Array Value} {xs : List ι} {ys : List κ} {P₁ : ι → Value → Prop} {P₂ : κ → Value → Prop} (G : Gd w mg mb s.heap) (hn : mg "zip" = none) (hh : A.handled = none)
    (h1 : EvP w A env e₁ s (fun v h => v = .ref a₁ ∧ h.IsList a₁ it₁)) (h2 : EvP w A env e₂ s (fun v h => v = .ref a₂ ∧ h.IsList a₂ it₂)) (hP₁ : All2 (fun v x => P₁ x v) it₁.toList xs) (hP₂ : All2 (fun v x => P₂ x v) it₂.toList ys)
    (hg : env.globals = mainGlobals := by rfl) (hb : env.builtins = builtinsNs := by rfl) (hk : env.scope.kind = .function := by rfl) (hl : env.kindOf "zip" = some .globalImplicit := by rfl) (hst : starEach [e₁, e₂] env = [(false, eval e₁ env), (false, eval e₂ env)] := by rfl) :
    ItP w A env (.Call (.Name "zip" p) [e₁, e₂] [] pos) s (.Tuple [.Name n₀ p₀, .Name n₁ p₁] x1 pt) (ok2 n₀ n₁) (xs.zip ys) (B2 n₀ n₁ fun x v₀ v₁ => P₁ x.1 v₀ ∧ P₂ x.2 v₁) [a₁, a₂] := fun s' k E => by
  rw [call_name, hst]
  refine wpAny_bind ((ev_builtin G hn (show bootBuiltins "zip" = some (.type "zip") by decide +kernel) (by decide) hg hb hk hl (by decide) s' k).here fun y s₁ ey k₁ => ?_)
  subst ey
  refine cb_type "zip" (s := s') A pos _ _ _ _ s₁ rfl k₁.wk ?_
  refine spliced_cons ((h1 s₁ (k.trans k₁)).here fun v s₂ ⟨ev, hl1⟩ k₂ => spliced_cons ((h2 s₂ ((k.trans k₁).trans k₂)).here fun v₂ s₃ ⟨ev₂, hl2⟩ k₃ => spliced_nil ⟨(k₁.wk.trans k₂).trans k₃, ?_⟩))
  subst ev ev₂
  have kt := (k₁.trans k₂).trans k₃
  have hl1 : s₃.heap.IsList a₁ it₁ := hl1.at fun o e => k₃.get _ o e
  refine call_zip_2 hl1 hl2 fun h' hz hTI hTO hi1 hi2 _ hk' => wpAny_pyIter_zip hz ?_
  refine ⟨s₃.heap.objs.size + 4, [s₃.heap.objs.size + 4, s₃.heap.objs.size + 2, s₃.heap.objs.size + 3, s₃.heap.objs.size, s₃.heap.objs.size + 1, a₁, a₂], [s₃.heap.objs.size + 4, s₃.heap.objs.size + 3, s₃.heap.objs.size, s₃.heap.objs.size + 1], _, 0, rfl,
    fun env' hok => Trn.of_walksT hh (WalksT.zip2 hh _ _ _ _ _ _ _ (zipApart_new (list_lt hl1) (list_lt hl2)) it₁ it₂) ?_ ?_ ?_ hok, Nat.zero_le _,
    ⟨hz, hTI, ⟨_, _, hTO⟩, hi1, hi2, hl1.at fun o e => hk' _ o e, hl2.at fun o e => hk' _ o e⟩, ?_, ?_, kt.trans (kt_heap hk')⟩
  · rw [List.length_zip, ← hP₁.length, ← hP₂.length, Array.length_toList, Array.length_toList]
  · rintro i x vals hx ⟨y, z, hy, hz', rfl⟩
    rw [List.getElem?_zip_eq_some] at hx
    obtain ⟨v', e2, e3⟩ := hP₁.get i _ hx.1
    obtain ⟨v'', e4, e5⟩ := hP₂.get i _ hx.2
    rw [Array.getElem?_toList] at e2 e4
    rw [hy] at e2; cases e2
    rw [hz'] at e4; cases e4
    exact ⟨_, _, rfl, e3, e5⟩
  · intro i h st b hb
    simp at hb
    obtain ⟨h1, h2, ⟨_, _, h3⟩, ⟨o4, h4, _⟩, ⟨o5, h5, _⟩, ⟨o6, h6, _⟩, ⟨o7, h7, _⟩⟩ := st
    rcases hb with rfl | rfl | rfl | rfl | rfl | rfl | rfl
    · exact ⟨_, h1⟩
    · exact ⟨_, h2⟩
    · exact ⟨_, h3⟩
    · exact ⟨_, h4⟩
    · exact ⟨_, h5⟩
    · exact ⟨_, h6⟩
    · exact ⟨_, h7⟩
  · intro b hb
    simp at hb
    rcases hb with rfl | rfl | rfl | rfl | rfl | rfl | rfl
    · exact .inl (fresh_of kt (Nat.le_add_right _ 4))
    · exact .inl (fresh_of kt (Nat.le_add_right _ 2))
    · exact .inl (fresh_of kt (Nat.le_add_right _ 3))
    · exact .inl (fresh_of kt (Nat.le_refl _))
    · exact .inl (fresh_of kt (Nat.le_add_right _ 1))
    · exact .inr (by simp)
    · exact .inr (by simp)
  · intro b hb
    simp at hb
    rcases hb with rfl | rfl | rfl | rfl
    · exact fresh_of kt (Nat.le_add_right _ 4)
    · exact fresh_of kt (Nat.le_add_right _ 3)
    · exact fresh_of kt (Nat.le_refl _)
    · exact fresh_of kt (Nat.le_add_right _ 1)
end
end Law62

set_option maxRecDepth 100000
set_option linter.unusedVariables false
namespace Law62
open PySem PySem.W PySem.Calls PyProof.Rows

theorem All2.ints : ∀ {vs : List Value} {ns : List Int}, All2 IsI vs ns → IntsAre vs ns
  | _, _, .nil => .nil
  | _, _, .cons ⟨t, e⟩ r => by subst e; exact .cons _ t r.ints
theorem ints_all2 : ∀ {vs : List Value} {ns : List Int}, IntsAre vs ns → All2 IsI vs ns
  | _, _, .nil => .nil
  | _, _, .cons n t r => .cons ⟨t, rfl⟩ (ints_all2 r)
theorem All2.strs : ∀ {vs : List Value} {ns : List Str}, All2 IsS vs ns → StrsAre vs ns
  | _, _, .nil => .nil
  | _, _, .cons ⟨t, e⟩ r => by subst e; exact .cons _ t r.strs
theorem strs_all2 : ∀ {vs : List Value} {ns : List Str}, StrsAre vs ns → All2 IsS vs ns
  | _, _, .nil => .nil
  | _, _, .cons n t r => .cons ⟨t, rfl⟩ (strs_all2 r)
theorem All2.replicate {α β : Type} {P : α → β → Prop} {a : α} {b : β} (h : P a b) : ∀ n, All2 P (List.replicate n a) (List.replicate n b)
  | 0 => .nil
  | n + 1 => .cons h (All2.replicate h n)

section
variable {w : World} {A : Around} {s : Shared} {env : Env} {mg mb : Str → Option Value}

theorem wk_keeps {s s' s'' : Shared} (k : WK s s') (k' : KT s' s'') : WK s s'' := k.trans k'

/-- x[i] -/
theorem ev_item {e i : Expr} {pos : Pos} {a : Addr} {items : List Value} {k : Int} {x : Value} (h : EvP w A env e s (fun v h => v = .ref a ∧ h.IsList a items.toArray)) (hi : EvI w A env i s k) (h0 : 0 ≤ k) (hk : k < 2 ^ 63) (hx : items[k.toNat]? = some x)
    (hs : ∀ o u, subscripted i false o (.int k u) = operate [o, .int k u] (getItem o (.int k u)) := by intro _ _; with_unfolding_all rfl) (ht : ∀ o r, letTemporaryGo e o r = pure () := by intro _ _; with_unfolding_all rfl) :
    EvP w A env (.Subscript e i pos) s (fun v _ => v = x) := fun s' k' E =>
  Subscript_ ((h s' k').here fun v s₁ ⟨ev, hl⟩ k₁ => (hi s₁ (k'.trans k₁)).here fun iv s₂ ⟨t, ei⟩ k₂ => by
    subst ev ei
    have hl₂ : s₂.heap.IsList a items.toArray := hl.at fun o e => k₂.get _ o e
    exact subscriptTail_builtin (T := "list") hl₂.typeIs list_getitem_lookup (getItem_listL hl₂ h0 hk hx ⟨rfl, (k₁.trans k₂).k⟩) (hs _ _) (ht _))
theorem evI_item {e i : Expr} {pos : Pos} {ns : List Int} {k : Int} {x : Int} (h : EvP w A env e s (fun v h => LI h v ns)) (hi : EvI w A env i s k) (h0 : 0 ≤ k) (hk : k < 2 ^ 63) (hx : ns[k.toNat]? = some x)
    (hs : ∀ o u, subscripted i false o (.int k u) = operate [o, .int k u] (getItem o (.int k u)) := by intro _ _; with_unfolding_all rfl) (ht : ∀ o r, letTemporaryGo e o r = pure () := by intro _ _; with_unfolding_all rfl) :
    EvI w A env (.Subscript e i pos) s x := fun s' k' E =>
  Subscript_ ((h s' k').here fun v s₁ ⟨a, items, ev, hl, al⟩ k₁ => (hi s₁ (k'.trans k₁)).here fun iv s₂ ⟨t, ei⟩ k₂ => by
    subst ev ei
    have hl₂ : s₂.heap.IsList a items.toList.toArray := by simpa using hl.at fun o e => k₂.get _ o e
    obtain ⟨v, e1, e2⟩ := al.get _ _ hx
    exact subscriptTail_builtin (T := "list") hl₂.typeIs list_getitem_lookup (getItem_listL hl₂ h0 hk e1 ⟨e2, (k₁.trans k₂).k⟩) (hs _ _) (ht _))
theorem evS_item {e i : Expr} {pos : Pos} {ns : List Str} {k : Int} {x : Str} (h : EvP w A env e s (fun v h => LS h v ns)) (hi : EvI w A env i s k) (h0 : 0 ≤ k) (hk : k < 2 ^ 63) (hx : ns[k.toNat]? = some x)
    (hs : ∀ o u, subscripted i false o (.int k u) = operate [o, .int k u] (getItem o (.int k u)) := by intro _ _; with_unfolding_all rfl) (ht : ∀ o r, letTemporaryGo e o r = pure () := by intro _ _; with_unfolding_all rfl) :
    EvS w A env (.Subscript e i pos) s x := fun s' k' E =>
  Subscript_ ((h s' k').here fun v s₁ ⟨a, items, ev, hl, al⟩ k₁ => (hi s₁ (k'.trans k₁)).here fun iv s₂ ⟨t, ei⟩ k₂ => by
    subst ev ei
    have hl₂ : s₂.heap.IsList a items.toList.toArray := by simpa using hl.at fun o e => k₂.get _ o e
    obtain ⟨v, e1, e2⟩ := al.get _ _ hx
    exact subscriptTail_builtin (T := "list") hl₂.typeIs list_getitem_lookup (getItem_listL hl₂ h0 hk e1 ⟨e2, (k₁.trans k₂).k⟩) (hs _ _) (ht _))
/-- a sign of a text -/
theorem evS_char {e i : Expr} {pos : Pos} {x : Str} {k : Int} (h : EvS w A env e s x) (hi : EvI w A env i s k) (hr : fitsSsize k = true) (hin : (Txt.charAt x k).isSome = true)
    (hs : ∀ o u, subscripted i false o (.int k u) = operate [o, .int k u] (getItem o (.int k u)) := by intro _ _; with_unfolding_all rfl) (ht : ∀ o r, letTemporaryGo e o r = pure () := by intro _ _; with_unfolding_all rfl) :
    EvS w A env (.Subscript e i pos) s (Txt.item x k) := fun s' k' E =>
  Subscript_ ((h s' k').here fun v s₁ ⟨u, ev⟩ k₁ => (hi s₁ (k'.trans k₁)).here fun iv s₂ ⟨t, ei⟩ k₂ => by
    subst ev ei
    exact subscriptTail_builtin (T := "str") (typeIs_str _ _ _) PySem.F.slot_str_getitem.lookup (SB.getItem hr hin ⟨⟨_, rfl⟩, keeps_trans (k₁.trans k₂).k (keeps_toks _ _)⟩) (hs _ _) (ht _))

/-- what a part of a slice is -/
def EvPart (w : World) (A : Around) (env : Env) (e : Option Expr) (s : Shared) (k : Option Int) : Prop := ∀ s', WK s s' → Gv w A (evalPart e env) s' (fun v _ => IsPart v k)
theorem evPart_none : EvPart w A env none s none := fun s' k E => evalPart_none_step ⟨.none, keeps_refl _⟩
theorem evPart_int {e : Expr} {k : Int} (h : EvI w A env e s k) : EvPart w A env (some e) s (some k) := fun s' kk E => evalPart_some_step ((h s' kk).here fun v s₁ ⟨t, e⟩ k₁ => ⟨by subst e; exact .int _ _, k₁.k⟩)

theorem evN_slice {e : Expr} {lo hi st : Option Expr} {p pos : Pos} {a b c : Option Int} {R : List Value → Prop} (h : EvP w A env e s (fun v h => ∃ a items, v = .ref a ∧ h.IsList a items ∧ items.size ≤ 1000000 ∧ R items.toList)) (h1 : EvPart w A env lo s a) (h2 : EvPart w A env hi s b) (h3 : EvPart w A env st s c)
    {ops : Value → Value → List Value} (hc : c ≠ some 0) (ht : ∀ o r, letTemporaryGo e o r = pure () := by intro _ _; with_unfolding_all rfl) (hs : ∀ o i, subscripted (.Slice lo hi st p) false o i = operate (ops o i) (getItem o i) := by intro _ _; with_unfolding_all rfl) :
    EvN w A env (.Subscript e (.Slice lo hi st p) pos) s (fun vs _ => ∃ us, R us ∧ vs = (slicePick us.toArray a b c).toList) := fun s' k E => by
  refine Subscript_ ((h s' k).here fun v s₁ ⟨l, items, ev, hl, hsz, hR⟩ k₁ => wpAny_Slice ((h1 s₁ (k.trans k₁)).here fun vl s₂ pl k₂ => (h2 s₂ ((k.trans k₁).trans k₂)).here fun vu s₃ pu k₃ => (h3 s₃ (((k.trans k₁).trans k₂).trans k₃)).here fun vk s₄ pk k₄ => ?_))
  subst ev
  have kk := ((k₁.trans k₂).trans k₃).trans k₄
  have hl₄ : s₄.heap.IsList l items := hl.at fun o e => ((k₂.trans k₃).trans k₄).get _ o e
  have hz : sizeLine = 16777216 := rfl
  refine subscriptTail_ops (Heap.IsList.typeIs (s := { s₄ with heap := s₄.heap.push { cls := .type "slice", data := .fields #[vl, vu, vk] } }) (hl₄.push _)) list_getitem_lookup (wpAny_getItem_list_slice (hl₄.push _) (Heap.IsSliceOf.new ..) pl pu pk hc ?_ (by omega)) (hs _ _) (ht _)
  refine ⟨⟨_, _, rfl, ⟨_, Heap.get?_push_size _ rfl⟩, fresh_of kk (by rw [Heap.size_push]; exact Nat.le_succ _), _, hR, by simp⟩, ?_⟩
  exact keeps_trans kk.k ⟨_, _, rfl, fun _ _ e => Heap.get?_push_of_some _ (Heap.get?_push_of_some _ e)⟩

theorem evN_sliceI {e : Expr} {lo hi st : Option Expr} {p pos : Pos} {a b c : Option Int} {ns : List Int} (h : EvP w A env e s (fun v h => LI h v ns)) (hn : ns.length ≤ 1000000) (h1 : EvPart w A env lo s a) (h2 : EvPart w A env hi s b) (h3 : EvPart w A env st s c)
    {ops : Value → Value → List Value} (hc : c ≠ some 0) (ht : ∀ o r, letTemporaryGo e o r = pure () := by intro _ _; with_unfolding_all rfl) (hs : ∀ o i, subscripted (.Slice lo hi st p) false o i = operate (ops o i) (getItem o i) := by intro _ _; with_unfolding_all rfl) :
    EvN w A env (.Subscript e (.Slice lo hi st p) pos) s (fun vs _ => All2 IsI vs (pickNums ns a b c)) := fun s' k E =>
  wpAny_mono (evN_slice (R := fun vs => All2 IsI vs ns) (h.mono fun v h' ⟨a, it, e, l, al⟩ => ⟨a, it, e, l, by have := al.length; rw [Array.length_toList] at this; omega, al⟩) h1 h2 h3 hc ht hs s' k E) (fun v s'' x => by
    obtain ⟨⟨D, it, e, l, f, us, hu, ev⟩, kk⟩ := x
    exact ⟨⟨D, it, e, l, f, by rw [ev]; exact ints_all2 (hu.ints.pick a b c)⟩, kk⟩) fun _ _ e => e

theorem evN.LI {e : Expr} {ns : List Int} (h : EvN w A env e s (fun vs _ => All2 IsI vs ns)) : EvP w A env e s (fun v h => LI h v ns) := h.evP
theorem evN.LS {e : Expr} {ns : List Str} (h : EvN w A env e s (fun vs _ => All2 IsS vs ns)) : EvP w A env e s (fun v h => LS h v ns) := h.evP

theorem evI_sum {e : Expr} {p pos : Pos} {ns : List Int} (G : Gd w mg mb s.heap) (hn : mg "sum" = none) (hh : A.handled = none) (h : EvP w A env e s (fun v h => LI h v ns))
    (hg : env.globals = mainGlobals := by rfl) (hb : env.builtins = builtinsNs := by rfl) (hk : env.scope.kind = .function := by rfl) (hl : env.kindOf "sum" = some .globalImplicit := by rfl) (hst : starEach [e] env = [(false, eval e env)] := by rfl) :
    EvI w A env (.Call (.Name "sum" p) [e] [] pos) s ns.sum :=
  ev_call1 (ev_builtin G hn (show bootBuiltins "sum" = some (.builtin "sum") by decide +kernel) (by decide) hg hb hk hl) (cb_builtin _) h (fun v s' k ⟨a, items, ev, hl, al⟩ E => by
    subst ev
    obtain ⟨xs, ex⟩ := (al.ints.allInts).items
    have ex : items = intItems xs := by simpa using ex
    subst ex
    refine sum_intListG hh hl fun h' tk t' hk => ⟨⟨t', ?_⟩, ⟨_, _, rfl, hk⟩⟩
    have : numsOf (intItems xs).toList = ns := al.ints.numsOf
    rw [nums_intItems] at this
    rw [preSum_eq, List.take_of_length_le (by simp), this]) hst

theorem evI_lenList {e : Expr} {p pos : Pos} {n : Nat} (G : Gd w mg mb s.heap) (hn : mg "len" = none) (h : EvP w A env e s (fun v h => ∃ a items, v = .ref a ∧ h.IsList a items ∧ items.size = n)) (hz : n ≤ 1000000)
    (hg : env.globals = mainGlobals := by rfl) (hb : env.builtins = builtinsNs := by rfl) (hk : env.scope.kind = .function := by rfl) (hl : env.kindOf "len" = some .globalImplicit := by rfl) (hst : starEach [e] env = [(false, eval e env)] := by rfl) :
    EvI w A env (.Call (.Name "len" p) [e] [] pos) s (n : Int) :=
  ev_call1 (ev_builtin G hn (show bootBuiltins "len" = some (.builtin "len") by decide +kernel) (by decide) hg hb hk hl) (cb_builtin _) h (fun v s' k ⟨a, items, ev, hl, en⟩ E => by
    subst ev en
    exact call_len_list hl (by omega) ⟨⟨_, rfl⟩, keeps_toks _ _⟩) hst
theorem evI_lenS {e : Expr} {p pos : Pos} {x : Str} (G : Gd w mg mb s.heap) (hn : mg "len" = none) (h : EvS w A env e s x) (hz : x.length ≤ 1000000)
    (hg : env.globals = mainGlobals := by rfl) (hb : env.builtins = builtinsNs := by rfl) (hk : env.scope.kind = .function := by rfl) (hl : env.kindOf "len" = some .globalImplicit := by rfl) (hst : starEach [e] env = [(false, eval e env)] := by rfl) :
    EvI w A env (.Call (.Name "len" p) [e] [] pos) s (x.length : Int) :=
  ev_call1 (ev_builtin G hn (show bootBuiltins "len" = some (.builtin "len") by decide +kernel) (by decide) hg hb hk hl) (cb_builtin _) h (fun v s' k ⟨t, ev⟩ E => by
    subst ev
    exact P.len_str (by omega) ⟨⟨_, rfl⟩, keeps_toks _ _⟩) hst

/-- [x] * n -/
theorem evN_mul {l r : Expr} {pos : Pos} {n : Int} {us : List Value → Prop} (hl : EvP w A env l s (fun v h => ∃ a items, v = .ref a ∧ h.IsList a items ∧ us items.toList ∧ items.size ≤ 16)) (hr : EvI w A env r s n) (h0 : 0 ≤ n) (h1 : n ≤ 1000) :
    EvN w A env (.BinOp l .Mult r pos) s (fun vs _ => ∃ u, us u ∧ vs = (List.replicate n.toNat u).flatten) := fun s' k E =>
  wpAny_BinOp ((hl s' k).here fun v s₁ ⟨a, items, ev, hls, hu, hz⟩ k₁ => (hr s₁ (k.trans k₁)).here fun v₂ s₂ ⟨t, ev₂⟩ k₂ => by
    subst ev ev₂
    obtain ⟨⟨cls, d, data, sl⟩, ho, hcl, kd, hd⟩ := hls.at fun o e => k₂.get _ o e
    simp only at hcl hd
    subst hcl hd
    have hm : items.size * n.toNat ≤ 2 ^ 24 := by
      have := Nat.mul_le_mul hz (show n.toNat ≤ 1000 by omega); omega
    refine wpAny_binaryOp_repeat_ref (T := "list") (U := "int") (by decide) ⟨_, ho, rfl⟩ (fun s' => typeIs_int s' n t) noFill_list_mul PySem.F.fills_int_mul PySem.F.slot_int_rmul repeat_list PySem.F.slot_int_index.lookup
      (call_meets PySem.F.slot_int_rmul (typeIs_int s₂ n t) PySem.F.entry_int_rmul (PySem.F.args_int_rmul_2 _ _) (lm_int_rmul_list_any n t a items kd d sl)
        ⟨ho, rfl, ⟨_, ho, rfl⟩, call_meets PySem.F.slot_list_mul ⟨_, ho, rfl⟩ PySem.F.entry_list_mul (PySem.F.args_list_mul_2 _ _)
          (lm_list_mul_any a items kd d sl n t (by simp [Builtin.List.listFitsIndex]; omega) (by omega) (by simp [Builtin.List.listTooLong, sizeLine]; omega))
          ⟨ho, ?_⟩⟩)
    refine ⟨⟨_, _, rfl, ⟨_, Heap.get?_push_size _ rfl⟩, fresh_of (k₁.trans k₂) (Nat.le_refl _), items.toList, hu, ?_⟩, keeps_trans (k₁.trans k₂).k ⟨_, _, rfl, fun _ _ e => Heap.get?_push_of_some _ e⟩⟩
    exact congrArg Array.toList (listMul_foldl_if items n.toNat))
end
end Law62

set_option maxRecDepth 100000
set_option linter.unusedVariables false
namespace Law62
open PySem PySem.W PySem.Calls PyProof.Rows

section
variable {w : World} {A : Around} {s s₀ : Shared} {env : Env} {Q : Flow → Shared → Prop} {E : Value → Shared → Prop} {m cm : Str → Option Value} {cs : List (Str × Addr)} {ow : List (Addr × List Value)} {hk : Heap} {rest : List Stmt}

theorem setItem_plain {l : Addr} {items : Array Value} {k : Int} {t : Tok} {v : Value} {Q : Unit → Shared → Prop} (hl : s.heap.PlainList l items) (h0 : 0 ≤ k) (hfit : k < 2 ^ 63) (hn : k < items.size)
    (hQ : ∀ h', h'.PlainList l (items.setIfInBounds k.toNat v) → Heap.SameBut l s.heap h' → Q () { s with heap := h' }) :
    wpAny (model pw w) A (setItem (.ref l) (.int k t) v) Q E s := by
  obtain ⟨ne, ho⟩ := id hl
  unfold setItem
  try with_reducible refine wpAny_holding ?_
  first | refine wpAny_bind (wpAny_pure ?_) | skip
  refine wpAny_bind (wpAny_sequenceKey hl.isList.typeIs (by decide) ?_)
  refine wpAny_bind (wpAny_callSpecial?_slot (name := Str.ofString "__setitem__") hl.isList.typeIs slot_list_setitem
    (wpAny_call_entry slot_list_setitem hl.isList.typeIs entry_list_setitem ?_ (args_list_setitem _ _ _)))
  show wpAny _ _ (Builtin.List.listSubscript? (.int k t) >>= _) _ _ s
  refine wpAny_bind (wpAny_listSubscript_int (fitsIndex_of h0 hfit) ?_)
  clear hfit
  obtain ⟨j, rfl⟩ := Int.eq_ofNat_of_zero_le h0
  have hj : j < items.size := by omega
  have hx' : items[j]? = some items[j] := Array.getElem?_eq_getElem hj
  show wpAny _ _ ((seqItemAt l j >>= fun r => pure (r.map (j, ·))) >>= _) _ _ s
  refine wpAny_bind (wpAny_bind (wpAny_seqItemAt ho rfl (wpAny_pure ?_)))
  rw [hx']
  show wpAny _ _ (setSeqItemAt l j v >>= _) _ _ s
  obtain ⟨n', hd'⟩ := Obj.data_mapSeq (o := { cls := .type "list", data := .seq items ne }) rfl (·.setIfInBounds j v)
  have hfin : (s.heap.update l (Obj.mapSeq (·.setIfInBounds j v))).PlainList l (items.setIfInBounds j v) := by
    refine ⟨n', ?_⟩
    rw [Heap.get?_update_self _ ho (Obj.isFreed_of_seq hd')]
    have e : ∀ o : Obj, o.cls = .type "list" → o.dict = none → o.slots = #[] → o.data = .seq (items.setIfInBounds j v) n' → o = { cls := .type "list", data := .seq (items.setIfInBounds j v) n' } := by
      rintro ⟨c, d, dt, sl⟩ h1 h2 h3 h4
      cases h1; cases h2; cases h3; cases h4; rfl
    exact congrArg some (e _ (Obj.cls_mapSeq ..) rfl rfl hd')
  refine wpAny_bind (wpAny_setSeqItemAt ho rfl ?_)
  first
    | exact wpAny_bind (wpAny_pure (wpAny_pure ⟨.none, rfl, wpAny_pure (hQ _ hfin (Heap.SameBut.update ..))⟩))
    | exact wpAny_pure ⟨.none, rfl, wpAny_pure (hQ _ hfin (Heap.SameBut.update ..))⟩

/-- x = value; what the value is says nothing of the heap -/
theorem sx_assign {x : Str} {px pos : Pos} {value : Expr} {P : Value → Prop} (F : FS s₀ env.locals m cs cm ow hk s) (hv : EvP w A env value s (fun v _ => P v)) (hx : ok1 x env)
    (h : ∀ v s', P v → FS s₀ env.locals (upd m x v) cs cm ow hk s' → wpAny (model pw w) A (execs rest env) Q E s') (hs : swapsWith value (some (.Name x px)) pos.line env = pure false := by rfl) :
    wpAny (model pw w) A (execs (.Assign [.Name x px] value pos :: rest) env) Q E s :=
  wpAny_execs_cons (wpAny_Assign_Name (hv.now fun v s₁ r k => wpAny_storeName_local hx.1 (F.grow k).fr.ns (fun h' hn hs' => h v _ r ((F.grow k).setLocal (Nat.le_succ _) hn hs')) hx.2) hs)

/-- x = a new list -/
theorem sx_assignN {x : Str} {px pos : Pos} {value : Expr} {P : List Value → Prop} (F : FS s₀ env.locals m cs cm ow hk s) (hv : EvN w A env value s (fun vs _ => P vs)) (hx : ok1 x env)
    (h : ∀ D items s', P items → s.heap.get? D = none → FS s₀ env.locals (upd m x (.ref D)) cs cm ((D, items) :: ow) hk s' → wpAny (model pw w) A (execs rest env) Q E s') (hs : swapsWith value (some (.Name x px)) pos.line env = pure false := by rfl) :
    wpAny (model pw w) A (execs (.Assign [.Name x px] value pos :: rest) env) Q E s := by
  refine wpAny_execs_cons (wpAny_Assign_Name (wpAny_mono (wpAny_toks_of (Nat.le_refl _) (hv s (WK.refl s) E)) (fun v s₁ y => ?_) fun _ _ e => e.2) hs)
  obtain ⟨ht, ⟨D, items, rfl, hl, hf, hp⟩, kk⟩ := y
  have k : KT s s₁ := ⟨kk, ht⟩
  have hfD := F.fresh hf
  have F₁ := (F.grow k).addOwn (D := D) (items := items.toList) (by simpa using hl) hfD.1 hfD.2
  exact wpAny_storeName_local hx.1 F₁.fr.ns (fun h' hn hs' => h D _ _ hp hf (F₁.setLocal (Nat.le_succ _) hn hs')) hx.2

theorem mem_ow {ow : List (Addr × List Value)} {D : Addr} {items : List Value} (h : (D, items) ∈ ow) : D ∈ ow.map (·.1) := List.mem_map.mpr ⟨_, h, rfl⟩

/-- lst.append(value) -/
theorem sx_append {o value : Expr} {apos pos spos : Pos} {D : Addr} {items : List Value} {P : Value → Prop} (F : FS s₀ env.locals m cs cm ow hk s) (hm : (D, items) ∈ ow) (ho : EvP w A env o s (fun v _ => v = .ref D)) (hv : EvP w A env value s (fun v _ => P v)) (hz : items.length ≤ 1000000)
    (h : ∀ v s', P v → FS s₀ env.locals m cs cm (setOw D (items ++ [v]) ow) hk s' → wpAny (model pw w) A (execs rest env) Q E s')
    (hbase : attributeBase o "append" env (eval o env) = eval o env := by rfl) (hst : starEach [value] env = [(false, eval value env)] := by rfl) (hline : (apos.endLine == pos.line) = true := by rfl)
    (hi : interactive env = false := by rfl) (hs : swapsWith (.Call (.Attribute o "append" apos) [value] [] pos) none spos.line env = pure false := by rfl) :
    wpAny (model pw w) A (execs (.Expr (.Call (.Attribute o "append" apos) [value] [] pos) spos :: rest) env) Q E s := by
  refine wpAny_execs_cons (wpAny_Expr_any ?_ hi hs)
  refine wpAny_Call_method (T := "list") (id := "list.append") hbase (by rw [hst]; rfl) hline PySem.F.plainAttrs_list slot_list_append type_list_append (ho.now fun v s₁ ev k₁ => ?_)
  subst ev
  have F₁ := F.grow k₁
  have hl := (F₁.own _ hm).1
  refine ⟨hl.isList.typeIs, fun a e => by cases e; obtain ⟨n, e⟩ := hl; exact ⟨_, e, rfl⟩, ?_⟩
  rw [hst]
  refine callWith_builtin rfl (evalArgs_plain ?_)
  refine spliced_cons (hv.at k₁.wk fun v s₂ r k₂ => spliced_nil ?_)
  have F₂ := F₁.grow k₂
  have hz' : sizeLine = 16777216 := rfl
  refine wpAny_list_append_plain (items := items.toArray) (hsz := by rw [List.size_toArray]; omega) (F₂.own _ hm).1 fun h' hl' hs' => ?_
  exact h v _ r (F₂.setList (Nat.le_refl _) (mem_ow hm) (by simpa using hl') hs')

/-- lst[i] = value -/
theorem sx_setItem {o i value : Expr} {tpos pos : Pos} {D : Addr} {items : List Value} {k : Int} {P : Value → Prop} (F : FS s₀ env.locals m cs cm ow hk s) (hm : (D, items) ∈ ow) (hv : EvP w A env value s (fun v _ => P v)) (ho : EvP w A env o s (fun v _ => v = .ref D)) (hi : EvI w A env i s k)
    (h0 : 0 ≤ k) (hn : k < items.length) (hz : items.length ≤ 1000000)
    (h : ∀ v s', P v → FS s₀ env.locals m cs cm (setOw D (items.set k.toNat v) ow) hk s' → wpAny (model pw w) A (execs rest env) Q E s')
    (hs : swapsWith value (some (.Subscript o i tpos)) pos.line env = pure false := by rfl) :
    wpAny (model pw w) A (execs (.Assign [.Subscript o i tpos] value pos :: rest) env) Q E s := by
  refine wpAny_execs_cons (wpAny_Assign_Subscript (hv.now fun v s₁ r k₁ => ho.at k₁.wk fun ov s₂ eo k₂ => hi.at (k₁.trans k₂).wk fun iv s₃ ⟨t, ei⟩ k₃ => ?_) hs)
  subst eo ei
  have F₃ := F.grow ((k₁.trans k₂).trans k₃)
  refine setItem_plain (F₃.own _ hm).1 h0 (by omega) (by rw [List.size_toArray]; exact hn) fun h' hl' hs' => ?_
  exact h v _ r (F₃.setList (Nat.le_refl _) (mem_ow hm) (by simpa using hl') hs')

/-- lst[i] += value -/
theorem sx_augItem {o i value : Expr} {tpos pos : Pos} {D : Addr} {items : List Value} {k a b : Int} (F : FS s₀ env.locals m cs cm ow hk s) (hm : (D, items) ∈ ow) (ho : EvP w A env o s (fun v _ => v = .ref D)) (hi : EvI w A env i s k) (hv : EvI w A env value s b)
    (h0 : 0 ≤ k) (ha : ∃ v, items[k.toNat]? = some v ∧ IsI v a) (hz : items.length ≤ 1000000)
    (h : ∀ v s', IsI v (a + b) → FS s₀ env.locals m cs cm (setOw D (items.set k.toNat v) ow) hk s' → wpAny (model pw w) A (execs rest env) Q E s')
    (hs : ∀ ov iv new, augStore i ov iv new = (do holding [new, ov, iv] (setItem ov iv new); release [new, ov, iv] []; pure .next) := by intros; rfl) :
    wpAny (model pw w) A (execs (.AugAssign (.Subscript o i tpos) .Add value pos :: rest) env) Q E s := by
  obtain ⟨old, hold, ⟨t, rfl⟩⟩ := ha
  have hn : k.toNat < items.length := (List.getElem?_eq_some_iff.mp hold).1
  refine wpAny_execs_cons (wpAny_AugAssign_SubscriptAny (ho.now fun ov s₁ eo k₁ => hi.at k₁.wk fun iv s₂ ⟨u, ei⟩ k₂ => ?_) hs)
  subst eo ei
  have F₂ := F.grow (k₁.trans k₂)
  refine getItem_listL (F₂.own _ hm).1.isList h0 (by omega) hold (hv.at (k₁.trans k₂).wk fun v s₃ ⟨t', ev⟩ k₃ => ?_)
  subst ev
  have F₃ := F₂.grow k₃
  refine AutoIntOps.iadd_0 ?_
  have F₄ : FS s₀ env.locals m cs cm ow hk { s₃ with toks := s₃.toks + 1 } := F₃.grow ⟨keeps_toks _ _, Nat.le_succ _⟩
  have hn' : k < (items.length : Int) := by omega
  refine setItem_plain (items := items.toArray) (F₄.own _ hm).1 h0 (by omega) (by rw [List.size_toArray]; exact hn') fun h' hl' hs' => ?_
  exact h _ _ ⟨_, rfl⟩ (F₄.setList (Nat.le_refl _) (mem_ow hm) (by simpa using hl') hs')
end
end Law62

set_option maxRecDepth 100000
set_option linter.unusedVariables false
namespace Law62
open PySem PySem.W PySem.Calls PyProof.Rows

noncomputable def entG (P : Params) : Array DictEntry := match (KE P).lookup 3 with
  | some o => (match o.data with | .dict es _ => es | _ => #[])
  | none => #[]
theorem look3 (P : Params) : ((KE P).lookup 3).isSome = true := by kernel_rfl!
section
variable {w : World} {mg mb : Str → Option Value} {h : Heap}
theorem Gd.at (G : Gd w mg mb h) (x : Str) : mg x = nsFind (entG w.params) x := by
  cases e1 : (KE w.params).lookup 3 with
  | none => have := look3 w.params; rw [e1] at this; cases this
  | some o =>
    obtain ⟨o', es, ep', e3, e4, _, e5⟩ := G.T.g
    have := G.K 3 o e1
    rw [show mainGlobals = 3 from rfl, this] at e3
    cases e3
    have e6 : entG w.params = es := by unfold entG; rw [e1]; simp only; rw [e4]
    rw [e6]
    exact (e5 x).symm
theorem Gd.no (G : Gd w mg mb h) (x : Str) (hx : ∀ P, nsFind (entG P) x = none) : mg x = none := (G.at x).trans (hx _)
theorem Gd.yes (G : Gd w mg mb h) (x : Str) {a : Addr} (hx : ∀ P, nsFind (entG P) x = some (.ref a)) : mg x = some (.ref a) := (G.at x).trans (hx _)
end
theorem g_range (P) : nsFind (entG P) "range" = none := by kernel_rfl!
theorem g_sum (P) : nsFind (entG P) "sum" = none := by kernel_rfl!
theorem g_len (P) : nsFind (entG P) "len" = none := by kernel_rfl!
theorem g_zip (P) : nsFind (entG P) "zip" = none := by kernel_rfl!
theorem g_enumerate (P) : nsFind (entG P) "enumerate" = none := by kernel_rfl!
theorem g_int (P) : nsFind (entG P) "int" = none := by kernel_rfl!
theorem g_abs (P) : nsFind (entG P) "abs" = none := by kernel_rfl!
theorem g_divmod (P) : nsFind (entG P) "divmod" = none := by kernel_rfl!
theorem g_ord (P) : nsFind (entG P) "ord" = none := by kernel_rfl!
theorem g_b1 (P) : nsFind (entG P) "b1_set" = some (.ref 71) := by kernel_rfl!
theorem g_b3 (P) : nsFind (entG P) "b3_exceptions" = some (.ref 82) := by kernel_rfl!
theorem g_esc1 (P) : nsFind (entG P) "_escape_cdata" = some (.ref 28) := by kernel_rfl!
theorem g_esc2 (P) : nsFind (entG P) "_escape_attrib" = some (.ref 35) := by kernel_rfl!
theorem g_esc3 (P) : nsFind (entG P) "_escape_attrib_html" = some (.ref 42) := by kernel_rfl!
theorem g_esc4 (P) : nsFind (entG P) "_escape_cdata_c14n" = some (.ref 49) := by kernel_rfl!
theorem g_esc5 (P) : nsFind (entG P) "_escape_attrib_c14n" = some (.ref 56) := by kernel_rfl!
theorem g_ap (P) : nsFind (entG P) "Int2AP" = some (.ref 63) := by kernel_rfl!
theorem g_inb1 (P) : nsFind (entG P) "in_table_b1" = some (.ref 81) := by kernel_rfl!
theorem g_mapb3 (P) : nsFind (entG P) "map_table_b3" = some (.ref 127) := by kernel_rfl!
theorem g_page (P) : nsFind (entG P) "_law_page" = some (.ref 132) := by kernel_rfl!
theorem g_read (P) : nsFind (entG P) "_law_read" = some (.ref 139) := by kernel_rfl!
theorem g_plain (P) : nsFind (entG P) "_law_plain" = some (.ref 144) := by kernel_rfl!
theorem g_lengths (P) : nsFind (entG P) "_law_lengths" = some (.ref 151) := by kernel_rfl!
theorem g_rows (P) : nsFind (entG P) "_law_rows" = some (.ref 156) := by kernel_rfl!
theorem g_numbers (P) : nsFind (entG P) "_law_numbers" = some (.ref 161) := by kernel_rfl!
theorem g_sums (P) : nsFind (entG P) "_law_sums" = some (.ref 166) := by kernel_rfl!
theorem g_product (P) : nsFind (entG P) "_law_product" = some (.ref 173) := by kernel_rfl!
end Law62

set_option maxRecDepth 100000
set_option linter.unusedVariables false
namespace Law62
open PySem PySem.W PySem.Calls PyProof.Rows

/-- one turn of a loop whose target is a cell -/
structure TrnC (w : World) (A : Around) (tgt : Expr) (env : Env) (c : Addr) (it : Value) {ι : Type} (xs : List ι) (P : ι → Value → Prop) (fp wr : List Addr) (St : Nat → Heap → Prop) : Prop where
  sub : ∀ b ∈ wr, b ∈ fp
  live : ∀ i h, St i h → ∀ b ∈ fp, ∃ o, h.get? b = some o
  frame : ∀ i h h', St i h → (∀ b ∈ fp, ∀ o, h.get? b = some o → h'.get? b = some o) → St i h'
  item : ∀ i x (s : Shared) v₀ (Q : Shared → Prop) (R : Option Value → Shared → Prop) (E : Value → Shared → Prop), xs[i]? = some x → St i s.heap → s.heap.IsCell c v₀ → c ∉ fp →
    (∀ v s₁, wpAny (model pw w) A (letOwnedTupleGo tgt it v) (fun _ s₁' => wpAny (model pw w) A (assign tgt env v) (fun _ s₂ => Q s₂) E s₁') E s₁ → R (some v) s₁) →
    (∀ v h' tk, P x v → h'.IsCell c (some v) → St (i + 1) h' → (∀ b o, b ≠ c → b ∉ wr → s.heap.get? b = some o → h'.get? b = some o) → s.toks ≤ tk → Q { s with heap := h', toks := tk }) →
    wpAny (model pw w) A (pyNext it) R E s
  done : ∀ (s : Shared) (Q : Option Value → Shared → Prop) (E : Value → Shared → Prop), St xs.length s.heap →
    (∀ h' tk, (∀ b o, b ∉ wr → s.heap.get? b = some o → h'.get? b = some o) → s.toks ≤ tk → Q none { s with heap := h', toks := tk }) → wpAny (model pw w) A (pyNext it) Q E s
def okC (x : Str) (c : Addr) (env : Env) : Prop := env.scope.kind = .function ∧ env.kindOf x = some .cell ∧ env.cells.lookup x = some c

section
variable {w : World} {A : Around} {s : Shared} {env : Env} {E : Value → Shared → Prop} {mg mb : Str → Option Value}
theorem TrnC.of_walks {ι : Type} {n : Str} {px : Pos} {I c : Addr} {fp wr : List Addr} {k : Nat} {Pw : Nat → Value → Prop} {St : Nat → Heap → Prop} {xs : List ι} {P : ι → Value → Prop} (W : Walks pw w A I fp wr k Pw St) (hlen : k = xs.length)
    (hP : ∀ i x v, xs[i]? = some x → Pw i v → P x v) (hl : ∀ i h, St i h → ∀ b ∈ fp, ∃ o, h.get? b = some o) (hok : okC n c env) : TrnC w A (.Name n px) env c (.ref I) xs P fp wr St where
  sub := W.sub
  live := hl
  frame := W.frame
  item := fun i x s v₀ Q R E hx st hn hL hR hQ => by
    have hi : i < k := by rw [hlen]; exact (List.getElem?_eq_some_iff.mp hx).1
    refine wpAny_with_toks (n := s.toks) (Nat.le_refl _) (W.item i s _ _ hi st fun v h₁ tk₁ hv st₁ hk₁ htk => hR v _ ?_)
    refine wpAny_of_eq rfl ?_
    have hLw : c ∉ wr := fun h => hL (W.sub _ h)
    obtain ⟨o, e, d⟩ := hn
    refine wpAny_assign_Name (wpAny_storeName_cell hok.1 hok.2.1 hok.2.2 (v₀ := v₀) ⟨o, hk₁ _ o hLw e, d⟩ fun h₂ hn₂ hs₂ => ?_)
    exact hQ v h₂ _ (hP i x v hx hv) hn₂ (W.frame _ _ _ st₁ fun b hb o e => hs₂.extBut b o (fun q => hL (q ▸ hb)) e) (fun b o hb hw e => hs₂.extBut b o hb (hk₁ b o hw e)) htk
  done := fun s Q E st hQ => wpAny_with_toks (n := s.toks) (Nat.le_refl _) (W.done s _ _ (hlen ▸ st) fun h' tk hk ht => hQ h' tk hk ht)

def ItPC (w : World) (A : Around) (env : Env) (e : Expr) (s : Shared) (tgt : Expr) (c : Addr) (ok : Env → Prop) {ι : Type} (xs : List ι) (P : ι → Value → Prop) (src : List Addr) : Prop :=
  ∀ s', WK s s' → ∀ E, wpAny (model pw w) A (eval e env) (fun xv s₁ => wpAny (model pw w) A (pyIter xv) (fun it s₂ => ∃ I fp wr St, it = .ref I ∧ (∀ env', ok env' → TrnC w A tgt env' c it xs P fp wr St) ∧ St 0 s₂.heap ∧
    (∀ b ∈ fp, s'.heap.get? b = none ∨ b ∈ src) ∧ (∀ b ∈ wr, s'.heap.get? b = none) ∧ KT s' s₂) E s₁) E s'

/-- for, with a cell as the target -/
theorem sx_forC {ι : Type} {s₀ : Shared} {m cm : Str → Option Value} {cs : List (Str × Addr)} {ow : List (Addr × List Value)} {hk : Heap} {iter : Expr} {body rest : List Stmt} {pos : Pos} {n : Str} {px : Pos} {c : Addr} {xs : List ι} {P : ι → Value → Prop}
    {src : List Addr} {Q : Flow → Shared → Prop} (F : FS s₀ env.locals m cs cm ow hk s) (hit : ItPC w A env iter s (.Name n px) c (okC n c) xs P src) (hok : okC n c env) (hcc : cs.lookup n = some c) (hsrc : ∀ b ∈ src, ∃ o, s₀.heap.get? b = some o)
    (J : Nat → (Str → Option Value) → (Str → Option Value) → List (Addr × List Value) → Prop) (h0 : J 0 m cm ow)
    (step : ∀ i x v m₁ cm₁ ow₁ s₁, xs[i]? = some x → J i m₁ cm₁ ow₁ → P x v → FS s₀ env.locals m₁ cs (upd cm₁ n v) ow₁ s₁.heap s₁ →
      wpAny (model pw w) A (execs body env) (fun f s₂ => f = .next ∧ ∃ m₂ cm₂ ow₂, FS s₀ env.locals m₂ cs cm₂ ow₂ s₁.heap s₂ ∧ Owx ow₁ ow₂ s₁.heap ∧ J (i + 1) m₂ cm₂ ow₂) (fun _ _ => False) s₁)
    (hR : ∀ m' cm' ow' s', FS s₀ env.locals m' cs cm' ow' hk s' → Owx ow ow' s.heap → J xs.length m' cm' ow' → wpAny (model pw w) A (execs rest env) Q E s')
    (hs : ∀ x, foldedSetIterable iter env x = pure x := by intro _; rfl) (hcs : (cs.map (·.1)).Nodup := by decide) : wpAny (model pw w) A (execs (.For (.Name n px) iter body [] pos :: rest) env) Q E s := by
  refine wpAny_execs_cons (wpAny_For (wpAny_mono (hit s (WK.refl s) E) (fun xv s₁ h₁ => wpAny_mono h₁ (fun it s₂ h₂ => ?_) fun _ _ e => e) fun _ _ e => e) hs)
  obtain ⟨I, fp, wr, St, rfl, hT, st, hfp, hwr, kt⟩ := h₂
  have T := hT env hok
  have F₂ := F.grow kt
  have live : ∀ b ∈ fp, ∃ o, s₂.heap.get? b = some o := T.live 0 _ st
  have hLs : ∃ o, s.heap.get? env.locals = some o := let ⟨o, es, ep, e, _⟩ := F.fr.ns; ⟨o, e⟩
  have src_lt : ∀ b ∈ src, b < env.locals := fun b hb => let ⟨o, e⟩ := hsrc b hb; Nat.lt_of_lt_of_le (Heap.lt_size e) F.fr.above
  have hLf : env.locals ∉ fp := fun h => by
    rcases hfp _ h with e | e
    · obtain ⟨o, e'⟩ := hLs; rw [e] at e'; cases e'
    · exact Nat.lt_irrefl _ (src_lt _ e)
  have hcf : ∀ c ∈ cs, c.2 ∉ fp := fun c hc h => by
    rcases hfp _ h with e | e
    · obtain ⟨o, e', _⟩ := F.cl.cell c.1 c.2 (lookup_of_mem_nodup hcs hc); rw [e] at e'; cases e'
    · exact Nat.lt_irrefl _ (Nat.lt_trans (src_lt _ e) (F.cl.above c.1 c.2 hc))
  have hof : ∀ p ∈ ow, p.1 ∉ fp := fun p hp h => by
    rcases hfp _ h with e | e
    · obtain ⟨o, e'⟩ := (F.own p hp).1; rw [e] at e'; cases e'
    · obtain ⟨o, e'⟩ := hsrc _ e; rw [(F.own p hp).2] at e'; cases e'
  have h0w : ∀ b ∈ wr, s₀.heap.get? b = none := fun b hb => by
    cases e : s₀.heap.get? b with
    | none => rfl
    | some o => have := F.fr.keep b o e; rw [hwr b hb] at this; cases this
  refine codeAny_forLoop_any
    (fun k s' => ∃ m' cm' ow' i, FS s₀ env.locals m' cs cm' ow' s.heap s' ∧ (∃ h' tk, s' = { s₂ with heap := h', toks := tk } ∧ s₂.toks ≤ tk) ∧ St i s'.heap ∧ Owx ow ow' s.heap ∧ (∀ p ∈ ow', p.1 ∉ fp) ∧ J i m' cm' ow' ∧ i ≤ xs.length ∧ k = xs.length + 1 - i) ?_ (xs.length + 1)
    ⟨m, cm, ow, 0, (F.mark.grow kt), ⟨_, _, rfl, Nat.le_refl _⟩, st, Owx.refl _ _, hof, h0, Nat.zero_le _, rfl⟩
  rintro k s' ⟨m', cm', ow', i, F', ⟨h', tk, rfl, htk₀⟩, st', ox, hof', hJ, hi, rfl⟩
  by_cases hlt : i < xs.length
  · obtain ⟨x, hx⟩ : ∃ x, xs[i]? = some x := ⟨xs[i], List.getElem?_eq_getElem hlt⟩
    have hcm : (n, c) ∈ cs := mem_of_lookup hcc
    refine T.item i x _ _ _ _ _ hx st' (F'.cl.cell n c hcc) (hcf _ hcm) (fun v s₃ h₃ => h₃) fun v h₁ tk₁ hB hn₁ st₁ hk₁ htk₁ => ?_
    have F₁ : FS s₀ env.locals m' cs (upd cm' n v) ow' s.heap { s₂ with heap := h₁, toks := tk₁ } := by
      obtain ⟨⟨h₄, t₄, e₄⟩, tk', fr, cl, own, nd, ch⟩ := F'
      obtain ⟨h₅, t₅, e₅⟩ := F₂.same
      have hLc : env.locals < c := cl.above n c hcm
      refine ⟨⟨h₁, tk₁, by rw [e₅]⟩, Nat.le_trans tk' htk₁, ⟨fr.ns.at' fun o e => hk₁ _ o (Nat.ne_of_lt hLc) (fun q => hLf (T.sub _ q)) e, fun b o e => hk₁ b o (fun q => ?_) (fun q => ?_) (fr.keep b o e), fr.above⟩, ⟨fun n' c' e => ?_, cl.apart, cl.above⟩, fun p hp => ⟨(own p hp).1.at fun o e => hk₁ _ o (list_ne_cell (own p hp).1 (cl.cell n c hcc)) (fun q => hof' p hp (T.sub _ q)) e, (own p hp).2⟩, nd,
        fun b o q1 q2 q3 e => hk₁ b o (q2 _ hcm) (fun q => by rw [hwr b q] at e; cases e) (ch b o q1 q2 q3 e)⟩
      · subst q; exact absurd (Heap.lt_size e) (Nat.not_lt.mpr (Nat.le_of_lt (Nat.lt_of_le_of_lt fr.above hLc)))
      · rw [h0w b q] at e; cases e
      · by_cases hn : n' = n
        · subst hn; rw [hcc] at e; cases e; simpa [upd] using hn₁
        · have hcc' : c' ≠ c := fun q => hn (name_of_addr cl.apart (mem_of_lookup e) (q ▸ hcm))
          obtain ⟨o, e', d⟩ := cl.cell n' c' e
          rw [upd_other _ _ hn]
          exact ⟨o, hk₁ c' o hcc' (fun q => hcf _ (mem_of_lookup e) (T.sub _ q)) e', d⟩
    refine wpAny_mono (wpAny_toks_of (n := tk₁) (Nat.le_refl _) (step i x v m' cm' ow' _ hx hJ hB F₁.mark)) (fun f s₃ h₃ => ?_) fun _ _ e => e.2.elim
    obtain ⟨htk₃, rfl, m₂, cm₂, ow₂, F₃, ox₃, hJ₃⟩ := h₃
    have lv₁ : ∀ b ∈ fp, ∃ o, h₁.get? b = some o := T.live _ _ st₁
    have hof₂ : ∀ p ∈ ow₂, p.1 ∉ fp := fun p hp h => by
      rcases ox₃.2 p hp with e | e
      · obtain ⟨q, hq, e'⟩ := List.mem_map.mp e; exact hof' q hq (by rw [e']; exact h)
      · obtain ⟨o, e'⟩ := lv₁ _ h; rw [show h₁.get? p.1 = none from e] at e'; cases e'
    refine ⟨xs.length + 1 - (i + 1), by omega, m₂, cm₂, ow₂, i + 1, F₁.trans F₃ (fun b o q1 q2 q3 e => F₁.ch b o q1 q2 q3 e) ox₃.1, ?_, T.frame _ _ _ st₁ fun b hb o e => F₃.ch b o (fun q => hLf (q ▸ hb)) (fun c hc q => hcf c hc (q ▸ hb)) (fun q => ?_) e, ⟨fun p hp => ?_, fun p hp => ?_⟩, hof₂, hJ₃, hlt, rfl⟩
    · obtain ⟨h₄, t₄, e₄⟩ := F₃.same
      obtain ⟨h₅, t₅, e₅⟩ := F₂.same
      exact ⟨h₄, t₄, by rw [e₄, e₅], by rw [e₄] at htk₃; exact Nat.le_trans htk₀ (Nat.le_trans htk₁ htk₃)⟩
    · obtain ⟨p, hp, e'⟩ := List.mem_map.mp q; exact hof₂ p hp (by rw [e']; exact hb)
    · obtain ⟨q, hq, e'⟩ := List.mem_map.mp (ox.1 p hp); rw [← e']; exact ox₃.1 q hq
    · rcases ox₃.2 p hp with e | e
      · obtain ⟨q, hq, e'⟩ := List.mem_map.mp e; rw [← e']; exact ox.2 q hq
      · by_cases hin : p.1 ∈ ow.map (·.1)
        · exact .inl hin
        · right
          cases e' : s.heap.get? p.1 with
          | none => rfl
          | some o =>
            exfalso
            have e : h₁.get? p.1 = none := e
            by_cases q1 : p.1 = env.locals
            · obtain ⟨o, es, ep, e₂, _⟩ := F₁.fr.ns; rw [← q1] at e₂; rw [show h₁.get? p.1 = _ from e₂] at e; cases e
            · by_cases q2 : ∃ c ∈ cs, p.1 = c.2
              · obtain ⟨c, hc, q2⟩ := q2
                obtain ⟨o, e₂, _⟩ := F₁.cl.cell c.1 c.2 (lookup_of_mem_nodup hcs hc)
                rw [← q2] at e₂; rw [show h₁.get? p.1 = _ from e₂] at e; cases e
              · by_cases q3 : p.1 ∈ ow'.map (·.1)
                · obtain ⟨q, hq, e₃⟩ := List.mem_map.mp q3
                  obtain ⟨o, e₂⟩ := (F₁.own q hq).1
                  have e₃ : q.1 = p.1 := e₃
                  rw [e₃] at e₂; rw [show h₁.get? p.1 = _ from e₂] at e; cases e
                · have := F₁.ch p.1 o q1 (fun c hc q => q2 ⟨c, hc, q⟩) q3 e'
                  rw [show h₁.get? p.1 = _ from this] at e; cases e
  · have hin : i = xs.length := by omega
    subst hin
    refine T.done _ _ _ st' fun h₁ tk₁ hk₁ htk => wpAny_execs_nil ?_
    have F₁ := F'.wr (wr := wr) htk (fun q => hLf (T.sub _ q)) (fun c hc q => hcf c hc (T.sub _ q)) (fun p hp q => hof' p hp (T.sub _ q)) h0w hwr hk₁
    exact hR m' cm' ow' _ (F.trans F₁ (fun b o q1 q2 q3 e => F.ch b o q1 q2 q3 e) ox.1) ox hJ

theorem itPC_list {ι : Type} {e : Expr} {n : Str} {px : Pos} {a c : Addr} {items : Array Value} {xs : List ι} {P : ι → Value → Prop} (hh : A.handled = none) (h : EvP w A env e s (fun v h => v = .ref a ∧ h.IsList a items)) (hP : All2 (fun v x => P x v) items.toList xs) :
    ItPC w A env e s (.Name n px) c (okC n c) xs P [a] := fun s' k E => (h s' k).here fun v s₁ ⟨ev, hl⟩ kt => by
  subst ev
  have hlt := list_lt hl
  refine wpAny_pyIter_list hl ⟨s₁.heap.objs.size, [s₁.heap.objs.size, a], [s₁.heap.objs.size], _, rfl, fun env' hok => TrnC.of_walks (Walks.list hh s₁.heap.objs.size a (Nat.ne_of_lt hlt) items) ?_ ?_ ?_ hok, ⟨⟨_, Heap.get?_push_size _ rfl, rfl, rfl⟩, hl.push _⟩, ?_, ?_, kt.trans (kt_push _ _)⟩
  · rw [← hP.length, Array.length_toList]
  · intro i x v hx hv
    obtain ⟨v', e1, e2⟩ := hP.get i x hx
    rw [Array.getElem?_toList] at e1
    rw [hv] at e1; cases e1; exact e2
  · intro i h st b hb
    simp at hb
    rcases hb with rfl | rfl
    · obtain ⟨o, e, _⟩ := st.1; exact ⟨o, e⟩
    · obtain ⟨o, e, _⟩ := st.2; exact ⟨o, e⟩
  · intro b hb
    simp at hb
    rcases hb with rfl | rfl
    · exact .inl (fresh_of kt (Nat.le_refl _))
    · exact .inr (by simp)
  · intro b hb
    simp at hb; subst hb
    exact fresh_of kt (Nat.le_refl _)


theorem itPC_range {e : Expr} {n : Str} {px : Pos} {cc : Addr} {a b c : Int} {k : Nat} (hh : A.handled = none) (h : EvP w A env e s (fun v h => ∃ r t u v', v = .ref r ∧ IsRange h r a b c t u v')) (hsm : Builtin.Range.small a b c = true) (hsz : Builtin.Range.rangeSize a b c = (k : Int)) :
    ItPC w A env e s (.Name n px) cc (okC n cc) (rangeInts a c k) (fun i v => IsI v i) [] := fun s' kk E => (h s' kk).here fun v s₁ ⟨r, t, u, v', ev, hr⟩ kt => by
  subst ev
  refine wpAny_pyIter_range hr hsm ⟨s₁.heap.objs.size, [s₁.heap.objs.size], [s₁.heap.objs.size], _, rfl, fun env' hok => TrnC.of_walks (Walks.range hh s₁.heap.objs.size a c k) ?_ ?_ ?_ hok, ?_, ?_, ?_, kt.trans (kt_push _ _)⟩
  · rw [rangeInts_length]
  · rintro i x v hx ⟨t, rfl⟩
    have hi : i < k := by have := (List.getElem?_eq_some_iff.mp hx).1; rwa [rangeInts_length] at this
    rw [rangeInts_get hi] at hx
    cases hx; exact ⟨t, rfl⟩
  · intro i h st c hc
    rw [List.mem_singleton.mp hc]
    exact ⟨_, st⟩
  · show IsRangeIter _ _ _ _ _
    have := Heap.get?_push_size s₁.heap (o := { cls := .type "range_iterator", data := .fields #[rawInt a, rawInt (Builtin.Range.rangeSize a b c), rawInt c] }) rfl
    rw [hsz] at this ⊢
    simpa [IsRangeIter] using this
  · intro c hc
    rw [List.mem_singleton.mp hc]
    exact .inl (fresh_of kt (Nat.le_refl _))
  · intro c hc
    rw [List.mem_singleton.mp hc]
    exact fresh_of kt (Nat.le_refl _)


theorem itPC_range1 {e : Expr} {n : Str} {cc : Addr} {p px pos : Pos} {N : Nat} (G : Gd w mg mb s.heap) (hh : A.handled = none) (he : EvI w A env e s N) (hN : N < 1000000) (hg : env.globals = mainGlobals := by rfl) (hb : env.builtins = builtinsNs := by rfl) (hk : env.scope.kind = .function := by rfl) (hl : env.kindOf "range" = some .globalImplicit := by rfl)
    (hst : starEach [e] env = [(false, eval e env)] := by rfl) : ItPC w A env (.Call (.Name "range" p) [e] [] pos) s (.Name n px) cc (okC n cc) (rangeInts 0 1 N) (fun i v => IsI v i) [] :=
  itPC_range hh (ev_range1 G (G.no _ g_range) he hg hb hk hl hst) (small_one (by omega) (by omega) (by omega) (by omega)) (by rw [rangeSize_nat]; omega)
end
end Law62

set_option maxRecDepth 100000
set_option linter.unusedVariables false
namespace Law62
open PySem PySem.W PySem.Calls PyProof.Rows

def figsOf (lens : List Int) (m j : Int) : List Int := (rangeInts 0 1 16).filter fun f => (lens.getD f.toNat 0).fmod m == j
def figAt (lens : List Int) (m place deal j : Int) : Int := (figsOf lens m j).getD ((place + deal.fdiv (4 ^ j.toNat)).fmod ((figsOf lens m j).length : Int)).toNat 0
def rowOf (lens : List Int) (m : Nat) (place deal : Int) : List Int := (rangeInts 0 1 m).map (figAt lens m place deal)
def rowsOf (lens : List Int) (m : Nat) (deals : List Int) : List (List Int) := deals.zipIdx.map fun x => rowOf lens m (x.2 : Int) x.1

/-- v is a list of lists of these ints -/
def LLI (h : Heap) (v : Value) (nss : List (List Int)) : Prop := ∃ a items, v = .ref a ∧ h.IsList a items ∧ All2 (fun v ns => LI h v ns) items.toList nss
theorem sb_LLI (nss : List (List Int)) : Sb (fun v h => LLI h v nss) := fun v h h' k ⟨a, it, e, l, al⟩ => ⟨a, it, e, l.at fun o x => k _ o x, al.mono fun v ns x => x.keeps k⟩

theorem own_pure {κ : Type} (P : κ → Value → Prop) : Own (fun k v _ => P k v) := fun _ _ _ _ _ x => x
theorem Made.all {κ : Type} {P : κ → Value → Prop} {h₀ h : Heap} {off : List Addr} {vs : List Value} {ks : List κ} (x : Made (fun k v _ => P k v) h₀ off h vs ks) : All2 (fun v k => P k v) vs ks := x.1.mono fun _ _ y => y.1
theorem All2.same {ι : Type} : ∀ {vs : List Value} {xs : List ι} {P : ι → Value → Prop}, All2 (fun v x => P x v) vs xs → All2 (fun v x => P x v) vs (xs.map fun x => x) := fun h => by simpa using h

theorem mem_setOw {D a : Addr} {its items : List Value} {ow : List (Addr × List Value)} (h : (a, its) ∈ ow) (hne : a ≠ D) : (a, its) ∈ setOw D items ow := List.mem_map.mpr ⟨_, h, if_neg hne⟩
theorem mem_setOw_self {D : Addr} {its items : List Value} {ow : List (Addr × List Value)} (h : (D, its) ∈ ow) : (D, items) ∈ setOw D items ow := List.mem_map.mpr ⟨_, h, if_pos rfl⟩
theorem owx_set {D : Addr} {items : List Value} {ow ow' : List (Addr × List Value)} {h : Heap} (x : Owx ow ow' h) : Owx ow (setOw D items ow') h :=
  ⟨fun p hp => by rw [setOw_fst]; exact x.1 p hp, fun p hp => by
    have hm : p.1 ∈ ow'.map (·.1) := by rw [← setOw_fst D items]; exact List.mem_map.mpr ⟨p, hp, rfl⟩
    obtain ⟨q, hq, e⟩ := List.mem_map.mp hm
    have e : q.1 = p.1 := e
    rw [← e]; exact x.2 q hq⟩
theorem owx_add {D : Addr} {items : List Value} {ow ow' : List (Addr × List Value)} {h : Heap} (x : Owx ow ow' h) (hf : h.get? D = none) : Owx ow ((D, items) :: ow') h :=
  ⟨fun p hp => by rw [List.map_cons]; exact List.mem_cons_of_mem _ (x.1 p hp), fun p hp => by rcases List.mem_cons.mp hp with rfl | hp; exact .inr hf; exact x.2 p hp⟩

section
variable {w : World} {A : Around} {s s₀ : Shared} {env : Env} {m cm : Str → Option Value} {cs : List (Str × Addr)} {ow : List (Addr × List Value)} {hk : Heap}
theorem evN_nil {pos : Pos} (hst : backTo pos (starEach [] env) = [] := by rfl) : EvN w A env (.List [] pos) s (fun vs _ => vs = []) := fun s' k E =>
  wpAny_mono (evN_ints (es := []) (ns := []) .nil (Nat.zero_le _) hst s' k E) (fun v s'' x => by
    obtain ⟨⟨D, it, e, p, f, q⟩, kk⟩ := x
    exact ⟨⟨D, it, e, p, f, by cases hq : it.toList with | nil => rfl | cons a b => rw [hq] at q; cases q⟩, kk⟩) fun _ _ e => e
theorem EvP.and {e : Expr} {R : Value → Heap → Prop} {T : Heap → Prop} (h : EvP w A env e s R) (hT : T s.heap) (hs : ∀ h h' : Heap, (∀ b o, h.get? b = some o → h'.get? b = some o) → T h → T h') : EvP w A env e s (fun v h => R v h ∧ T h) := fun s' k E =>
  (h s' k).here fun v s'' r kt => ⟨⟨r, hs _ _ (fun b o e => kt.get b o (k.get b o e)) hT⟩, kt.k⟩
theorem isList_keeps {a : Addr} {items : Array Value} : ∀ h h' : Heap, (∀ b o, h.get? b = some o → h'.get? b = some o) → h.IsList a items → h'.IsList a items := fun _ _ k x => x.at fun o e => k _ o e
/-- a local that holds a list which stood at the start -/
theorem ev_localL {x : Str} {pos : Pos} {a : Addr} {items : Array Value} (F : FS s₀ env.locals m cs cm ow hk s) (hl : s₀.heap.IsList a items) (hv : m x = some (.ref a)) (hk : env.scope.kind = .function := by rfl) (hl' : env.kindOf x = some .local := by rfl)
    (hd : (x == ("__debug__" : Str)) = false := by decide) : EvP w A env (.Name x pos) s (fun v h => v = .ref a ∧ h.IsList a items) :=
  (ev_local F.fr.ns hv hk hl' hd).and (T := fun h => h.IsList a items) (isList_keeps _ _ F.kt.get hl) isList_keeps
theorem ev_cellL {x : Str} {pos : Pos} {c a : Addr} {items : Array Value} (hc : env.cells.lookup x = some c) (hcv : s.heap.IsCell c (some (.ref a))) (hl : s.heap.IsList a items) (hk : env.scope.kind = .function := by rfl) (hl' : env.kindOf x = some .cell := by rfl)
    (hd : (x == ("__debug__" : Str)) = false := by decide) : EvP w A env (.Name x pos) s (fun v h => v = .ref a ∧ h.IsList a items) :=
  (ev_cell hc hcv hk hl' hd).and (T := fun h => h.IsList a items) hl isList_keeps
theorem ev_own {x : Str} {pos : Pos} {D : Addr} {items : List Value} (F : FS s₀ env.locals m cs cm ow hk s) (hm : (D, items) ∈ ow) (hv : m x = some (.ref D)) (hk : env.scope.kind = .function := by rfl) (hl' : env.kindOf x = some .local := by rfl)
    (hd : (x == ("__debug__" : Str)) = false := by decide) : EvP w A env (.Name x pos) s (fun v h => v = .ref D ∧ h.IsList D items.toArray) :=
  (ev_local F.fr.ns hv hk hl' hd).and (T := fun h => h.IsList D items.toArray) (F.own _ hm).1.isList isList_keeps
theorem evI_local {x : Str} {pos : Pos} {v : Value} {i : Int} (F : FS s₀ env.locals m cs cm ow hk s) (hv : m x = some v) (hi : IsI v i) (hk : env.scope.kind = .function := by rfl) (hl' : env.kindOf x = some .local := by rfl)
    (hd : (x == ("__debug__" : Str)) = false := by decide) : EvI w A env (.Name x pos) s i := (ev_local F.fr.ns hv hk hl' hd).mono fun _ _ e => e ▸ hi
theorem evI_cell {x : Str} {pos : Pos} {c : Addr} {v : Value} {i : Int} (hc : env.cells.lookup x = some c) (hcv : s.heap.IsCell c (some v)) (hi : IsI v i) (hk : env.scope.kind = .function := by rfl) (hl' : env.kindOf x = some .cell := by rfl)
    (hd : (x == ("__debug__" : Str)) = false := by decide) : EvI w A env (.Name x pos) s i := (ev_cell hc hcv hk hl' hd).mono fun _ _ e => e ▸ hi
theorem FS.cellAt {L : Addr} (F : FS s₀ L m cs cm ow hk s) {x : Str} {c : Addr} {v : Value} (hc : cs.lookup x = some c) (hv : cm x = some v) : s.heap.IsCell c (some v) := hv ▸ F.cl.cell x c hc
theorem get_at {ι κ : Type} {P : ι → κ → Prop} {as : List ι} {bs : List κ} (h : All2 P as bs) {i : Nat} (hi : i < bs.length) : ∃ a b, as[i]? = some a ∧ bs[i]? = some b ∧ P a b := by
  obtain ⟨a, e1, e2⟩ := h.get i bs[i] (List.getElem?_eq_getElem hi)
  exact ⟨a, _, e1, List.getElem?_eq_getElem hi, e2⟩
end

section
variable {s s₀ : Shared} {L : Addr} {m cm : Str → Option Value} {cs : List (Str × Addr)} {ow : List (Addr × List Value)} {hk : Heap}
theorem FS.live (F : FS s₀ L m cs cm ow hk s) (hcs : (cs.map (·.1)).Nodup) {b : Addr} {o : Obj} (h : hk.get? b = some o) : ∃ o', s.heap.get? b = some o' := by
  by_cases q1 : b = L
  · obtain ⟨o, es, ep, e₂, _⟩ := F.fr.ns; rw [← q1] at e₂; exact ⟨_, e₂⟩
  · by_cases q2 : ∃ c ∈ cs, b = c.2
    · obtain ⟨c, hc, q2⟩ := q2
      obtain ⟨o, e₂, _⟩ := F.cl.cell c.1 c.2 (lookup_of_mem_nodup hcs hc)
      rw [← q2] at e₂; exact ⟨_, e₂⟩
    · by_cases q3 : b ∈ ow.map (·.1)
      · obtain ⟨q, hq, e₃⟩ := List.mem_map.mp q3
        obtain ⟨o, e₂⟩ := (F.own q hq).1
        have e₃ : q.1 = b := e₃
        rw [e₃] at e₂; exact ⟨_, e₂⟩
      · exact ⟨_, F.ch b o q1 (fun c hc q => q2 ⟨c, hc, q⟩) q3 h⟩
theorem owx_trans {a b c : List (Addr × List Value)} (x : Owx a b hk) (F : FS s₀ L m cs cm b hk s) (hcs : (cs.map (·.1)).Nodup) (y : Owx b c s.heap) : Owx a c hk :=
  ⟨fun p hp => by obtain ⟨q, hq, e⟩ := List.mem_map.mp (x.1 p hp); rw [← e]; exact y.1 q hq, fun p hp => by
    rcases y.2 p hp with e | e
    · obtain ⟨q, hq, e'⟩ := List.mem_map.mp e; rw [← e']; exact x.2 q hq
    · right
      cases e' : hk.get? p.1 with
      | none => rfl
      | some o => obtain ⟨o', e''⟩ := F.live hcs e'; rw [e] at e''; cases e''⟩
end

theorem lk19 (P : Params) : (KE P).lookup 156 = some (fnO 19 "law_tr0062_01" 2271 155) := by kernel_rfl!
theorem ci19 (P : Params) : codeIn (KE P) (.ref 155) (fname 19) = true := by kernel_rfl!
theorem kp19 (P : Params) : keepIn (KE P) (.ref 156) = true := by kernel_rfl!

theorem rows_small {P : Value → List Int → Prop} {R : List Value} {lens deals : List Int} {m k : Nat} (h : All2 P R ((rowsOf lens m deals).take k)) (hd : deals.length ≤ 1000) : R.length ≤ 1000000 := by
  have := h.length
  rw [List.length_take] at this
  have q : (rowsOf lens m deals).length = deals.length := by unfold rowsOf; simp
  omega
theorem cs19 (n : Nat) : ((cellsFrom n (fsc 19).names []).map (·.1)).Nodup := by
  have e : (cellsFrom n (fsc 19).names []).map (·.1) = (cellsFrom 0 (fsc 19).names []).map (·.1) := by rfl
  rw [e]; decide +kernel

theorem rows_spec {w : World} {A : Around} {s : Shared} {mg mb : Str → Option Value} {n : Nat} (Rm' : Rm A (n + 1)) (G : Gd w mg mb s.heap) {lens deals : List Int} {m : Nat} {lv dv : Value} {t : Tok} (hm : 0 < m) (hm' : m ≤ 5) (hl : LI s.heap lv lens) (hd : LI s.heap dv deals) (hl16 : lens.length = 16) (hd5 : deals.length ≤ 1000)
    (hfig : ∀ j : Nat, j < m → 0 < (figsOf lens m j).length) :
    Gv w A (call (.ref 156) [lv, .int m t, dv]) s (fun v h => LLI h v (rowsOf lens m deals)) := by
  refine fn_call (i := 19) (binds := [("lengths", lv), ("heaps", .int m t), ("deals", dv)]) Rm' G (lk19 _) (by rfl) (ci19 _) (by rfl) (by
    intro n x hx
    simp only [List.mem_cons, List.not_mem_nil, or_false] at hx
    rcases hx with rfl | rfl | rfl
    · right; exact ⟨by rfl, by rfl⟩
    · right; exact ⟨by rfl, by rfl⟩
    · left; rfl) (by rfl) (by rfl) (by rfl) fun s₁ R₁ F => ?_
  have hh := R₁.hh
  obtain ⟨la, litems, rfl, hli, hla⟩ := hl
  obtain ⟨da, ditems, rfl, hdi, hda⟩ := hd
  refine sx_assignN F evN_nil ⟨by rfl, by rfl⟩ (fun DR items s₂ hP hfr F₂ => ?_)
  subst hP
  have Gs : ∀ {s' : Shared}, WK s s' → Gd w mg mb s'.heap := fun k => G.keeps k.get
  refine sx_for F₂ (itP_enum (Gs F₂.kt.wk) (G.no _ g_enumerate) hh (ev_localL F₂ hdi (by rfl)) hda) ⟨⟨by rfl, by rfl⟩, ⟨by rfl, by rfl⟩⟩ (fun b hb => ?_)
    (fun i mm cc ow => mm "rows" = some (.ref DR) ∧ cc "lengths" = some (.ref la) ∧ cc "heaps" = some (.int m t) ∧ ∃ R, (DR, R) ∈ ow ∧ All2 (fun v ns => ∃ a its, v = .ref a ∧ a ≠ DR ∧ (a, its) ∈ ow ∧ All2 IsI its ns) R ((rowsOf lens m deals).take i))
    ⟨by rfl, by rfl, by rfl, [], by simp, by simpa using All2.nil⟩ ?_ ?_ (hcs := cs19 _)
  · simp at hb; subst hb; obtain ⟨o, e, _⟩ := hdi; exact ⟨o, e⟩
  · rintro i ⟨deal, place⟩ m₁ m₁' cm₁ ow₁ s₃ hx ⟨hJ1, hJ2, hJ3, R, hJ4, hJ5⟩ ⟨v₀, v₁, ⟨hv₀, hv₁⟩, rfl⟩ F₃
    have hdl : deals[i]? = some deal ∧ place = i := by
      rw [List.getElem?_zipIdx] at hx
      cases e : deals[i]? with
      | none => rw [e] at hx; cases hx
      | some z => rw [e] at hx; cases hx; exact ⟨rfl, by simp⟩
    obtain ⟨hdl, rfl⟩ := hdl
    refine sx_assignN F₃ evN_nil ⟨by rfl, by rfl⟩ (fun Drow items s₄ hP hfr₄ F₄ => ?_)
    subst hP
    have hDne : Drow ≠ DR := fun q => by
      obtain ⟨k, e⟩ := (F₃.own _ hJ4).1
      rw [q] at hfr₄; rw [show s₃.heap.get? DR = _ from e] at hfr₄; cases hfr₄
    refine sx_forC F₄ (itPC_range1 (Gs F₄.kt.wk) hh (evI_cell (by rfl) (F₄.cellAt (by rfl) hJ3) ⟨_, rfl⟩) (by omega)) ⟨by rfl, by rfl, by rfl⟩ (by rfl) (fun b hb => by cases hb)
      (fun j mm cc ow => mm "rows" = some (.ref DR) ∧ mm "row" = some (.ref Drow) ∧ mm "place" = some v₀ ∧ mm "deal" = some v₁ ∧ cc "lengths" = some (.ref la) ∧ cc "heaps" = some (.int m t) ∧ (DR, R) ∈ ow ∧
        All2 (fun v ns => ∃ a its, v = .ref a ∧ a ≠ DR ∧ a ≠ Drow ∧ (a, its) ∈ ow ∧ All2 IsI its ns) R ((rowsOf lens m deals).take place) ∧ ∃ its, (Drow, its) ∈ ow ∧ All2 IsI its ((rowOf lens m place deal).take j))
      ?_ ?_ ?_ (hcs := cs19 _)
    · refine ⟨(upd_other _ _ (by decide)).trans ((upd_other _ _ (by decide)).trans ((upd_other _ _ (by decide)).trans hJ1)), upd_same _ _ _, (upd_other _ _ (by decide)).trans ((upd_other _ _ (by decide)).trans (upd_same _ _ _)), (upd_other _ _ (by decide)).trans (upd_same _ _ _), hJ2, hJ3, List.mem_cons_of_mem _ hJ4, hJ5.mono fun v ns x => ?_, [], List.mem_cons_self, by simpa using All2.nil⟩
      obtain ⟨a, its, e, hne, hmem, hal⟩ := x
      refine ⟨a, its, e, hne, fun q => ?_, List.mem_cons_of_mem _ hmem, hal⟩
      obtain ⟨k, e'⟩ := (F₃.own _ hmem).1
      rw [q] at e'; rw [show s₃.heap.get? Drow = _ from e'] at hfr₄; cases hfr₄
    · rintro j x v mm cc ow s₅ hx' ⟨h1, h2, h3, h4, h5, h6, h7, h8, its, h9, h10⟩ hv F₅
      have hjm : j < m := by have := (List.getElem?_eq_some_iff.mp hx').1; rwa [rangeInts_length] at this
      rw [rangeInts_get hjm] at hx'
      have hxj : x = (j : Int) := by simp at hx'; exact hx'.symm
      subst hxj
      have hG := Gs F₅.kt.wk
      have hli₅ : s₅.heap.IsList la litems := isList_keeps _ _ F₅.kt.get hli
      have cH : (upd cc "heap" v) "heap" = some v := upd_same _ _ _
      have cHs : (upd cc "heap" v) "heaps" = some (.int m t) := (upd_other _ _ (by decide)).trans h6
      have cL : (upd cc "heap" v) "lengths" = some (.ref la) := (upd_other _ _ (by decide)).trans h5
      have kH := F₅.cellAt (x := "heap") (by rfl) cH
      have kHs := F₅.cellAt (x := "heaps") (by rfl) cHs
      have kL := F₅.cellAt (x := "lengths") (by rfl) cL
      refine sx_assign_comp F₅ (itP_range1 hG (hG.no _ g_range) hh (N := 16) (evI_const 16 _ _) (by decide)) (fun k v _ => IsI v k) (own_pure _) (fun f => (lens.getD f.toNat 0).fmod m == (j : Int)) (fun f => f) (by rw [rangeInts_length]; decide)
        (by rfl) ⟨by rfl, by rfl⟩ (by rfl) (by decide +kernel) (by rfl) (by decide +kernel) (fun C => ⟨by rfl, by rfl⟩) ?_ ?_ ?_
      · rintro C x mm' mm'' s₆ hxm wk ⟨v', hv', rfl⟩ hn
        have hb := mem_rangeInts hxm
        refine tsB_one (tv_eq (evI_mod (evI_item ((ev_cellL (c := _) (by rfl) (kL.keeps wk.get) (isList_keeps _ _ wk.get hli₅)).mono fun v h x => ⟨la, litems, x.1, x.2, hla⟩) ((ev_local hn (upd_same _ _ _)).mono fun _ _ e => e ▸ hv') hb.1 (by omega) (x := lens.getD x.toNat 0) ?_) (evI_cell (by rfl) (kHs.keeps wk.get) ⟨_, rfl⟩) (by omega)) (evI_cell (by rfl) (kH.keeps wk.get) hv))
        rw [List.getD_eq_getElem?_getD, List.getElem?_eq_getElem (by omega)]; rfl
      · rintro C x mm' mm'' s₆ hxm wk hp ⟨v', hv', rfl⟩ hn
        exact evF_pure ((ev_local hn (upd_same _ _ _)).mono fun _ _ e => e ▸ hv') fun v ⟨t, e⟩ T => by rw [e]; exact fun h => by cases h
      · rintro D fitems s₆ F₆ hf hM
        have hfa : All2 IsI fitems (figsOf lens m j) := by
          have := hM.all
          simpa [figsOf] using this
        have hflen := hfa.length
        have hfp := hfig j hjm
        have hG₆ := Gs F₆.kt.wk
        have hpow : (4 : Int) ^ (j : Int).toNat ≠ 0 := Int.pow_ne_zero (by decide)
        have hpow' : ((4 : Int) ^ (j : Int).toNat).natAbs < 1073741824 := by
          have : j = 0 ∨ j = 1 ∨ j = 2 ∨ j = 3 ∨ j = 4 := by omega
          rcases this with rfl | rfl | rfl | rfl | rfl <;> decide
        have l2 : (upd mm "figures" (.ref D)) "place" = some v₀ := (upd_other _ _ (by decide)).trans h3
        have l3 : (upd mm "figures" (.ref D)) "deal" = some v₁ := (upd_other _ _ (by decide)).trans h4
        have l4 : (upd mm "figures" (.ref D)) "row" = some (.ref Drow) := (upd_other _ _ (by decide)).trans h2
        have l5 : (upd mm "figures" (.ref D)) "rows" = some (.ref DR) := (upd_other _ _ (by decide)).trans h1
        have kH₆ := F₆.cellAt (x := "heap") (by rfl) cH
        have hf16 : (figsOf lens m j).length ≤ 16 := by unfold figsOf; exact Nat.le_trans (List.length_filter_le _ _) (by rw [rangeInts_length]; exact Nat.le_refl _)
        have hits : its.length ≤ 5 := by have := h10.length; rw [List.length_take] at this; unfold rowOf at this; rw [List.length_map, rangeInts_length] at this; omega
        have h9' : (Drow, its) ∈ (D, fitems) :: ow := List.mem_cons_of_mem _ h9
        have hlen0 : ((figsOf lens m j).length : Int) ≠ 0 := by omega
        have hk0 := Int.fmod_nonneg_of_pos (((place : Int) + deal.fdiv (4 ^ (j : Int).toNat))) (show (0 : Int) < ((figsOf lens m j).length : Int) by omega)
        have hk1 := Int.fmod_lt_of_pos (((place : Int) + deal.fdiv (4 ^ (j : Int).toNat))) (show (0 : Int) < ((figsOf lens m j).length : Int) by omega)
        obtain ⟨fv, fx, e1, e2, e3⟩ := get_at hfa (i := (((place : Int) + deal.fdiv (4 ^ (j : Int).toNat)).fmod ((figsOf lens m j).length : Int)).toNat) (by omega)
        refine sx_append F₆ h9' (ev_local F₆.fr.ns l4) (P := fun v => v = fv) (ev_item (ev_own F₆ List.mem_cons_self (upd_same _ _ _))
          (evI_mod (evI_add (evI_local F₆ l2 hv₀) (evI_div (evI_local F₆ l3 hv₁) (evI_pow (evI_const 4 _ _) (evI_cell (by rfl) kH₆ hv) (by omega) (by omega) (by decide)) hpow (PyProof.noPylong_small hpow')))
            (evI_lenList hG₆ (hG₆.no _ g_len) ((ev_own F₆ List.mem_cons_self (upd_same _ _ _)).mono fun v h x => ⟨D, _, x.1, x.2, by rw [List.size_toArray, hflen]⟩) (by omega)) hlen0) hk0 (Int.lt_trans hk1 (by omega)) e1) (by omega) fun v s₇ ev F₇ => ?_
        subst ev
        refine wpAny_execs_nil ⟨rfl, _, _, _, F₇, owx_set (owx_add (Owx.refl _ _) hf), l5, l4, l2, l3, cL, cHs, mem_setOw (List.mem_cons_of_mem _ h7) (Ne.symm hDne), h8.mono fun v ns x => ?_, its ++ [v], mem_setOw_self h9', ?_⟩
        · obtain ⟨a, its', e, hne, hne', hmem, hal⟩ := x
          exact ⟨a, its', e, hne, hne', mem_setOw (List.mem_cons_of_mem _ hmem) hne', hal⟩
        · have et : (rowOf lens m place deal).take (j + 1) = (rowOf lens m place deal).take j ++ [fx] := by
            have : (rowOf lens m place deal)[j]? = some fx := by
              unfold rowOf
              rw [List.getElem?_map, rangeInts_get hjm]
              simp only [Option.map_some, figAt]
              rw [show (0 : Int) + (j : Int) * 1 = j by omega, List.getD_eq_getElem?_getD, e2]; rfl
            rw [List.take_add_one, this]; rfl
          rw [et]
          exact h10.append (.cons e3 .nil)
    · rintro mm cc ow s₅ F₅ ox ⟨h1, h2, h3, h4, h5, h6, h7, h8, its, h9, h10⟩
      refine sx_append F₅ h7 ((ev_local F₅.fr.ns h1)) (P := fun v => v = .ref Drow) (ev_local F₅.fr.ns h2) (rows_small h8 hd5) fun v s₆ ev F₆ => ?_
      subst ev
      refine wpAny_execs_nil ⟨rfl, _, _, _, F₆, owx_set (owx_trans (owx_add (Owx.refl _ _) hfr₄) F₄ (cs19 _) ox), ?_⟩
      refine ⟨h1, h5, h6, _, mem_setOw_self h7, ?_⟩
      have et : (rowsOf lens m deals).take (place + 1) = (rowsOf lens m deals).take place ++ [rowOf lens m place deal] := by
        have : (rowsOf lens m deals)[place]? = some (rowOf lens m place deal) := by
          unfold rowsOf; rw [List.getElem?_map, hx]; rfl
        rw [List.take_add_one, this]; rfl
      rw [et]
      refine (h8.mono fun v ns x => ?_).append (.cons ⟨Drow, its, rfl, hDne, mem_setOw h9 hDne, ?_⟩ .nil)
      · obtain ⟨a, its, e, hne, _, hmem, hal⟩ := x
        exact ⟨a, its, e, hne, mem_setOw hmem hne, hal⟩
      · rw [List.take_of_length_le] at h10
        · exact h10
        · unfold rowOf; rw [List.length_map]; exact Nat.le_refl _
  · rintro m' cm' ow' s₃ F₃ ox ⟨hJ1, hJ2, hJ3, R, hJ4, hJ5⟩
    refine sx_return (R := fun v h => LLI h v (rowsOf lens m deals)) ((ev_own F₃ hJ4 hJ1).and (T := fun h => LLI h (.ref DR) (rowsOf lens m deals)) ?_ (fun h h' k x => sb_LLI _ _ _ _ k x) |>.mono fun v h x => x.1.1 ▸ x.2) fun v s₄ hv k => ⟨hv, keeps_trans F₃.keeps k.k⟩
    refine ⟨DR, R.toArray, rfl, (F₃.own _ hJ4).1.isList, ?_⟩
    have e : (rowsOf lens m deals).take deals.zipIdx.length = rowsOf lens m deals := by
      rw [List.take_of_length_le]; unfold rowsOf; rw [List.length_map]; exact Nat.le_refl _
    rw [e] at hJ5
    refine hJ5.mono fun v ns x => ?_
    obtain ⟨a, its, e, hne, hmem, hal⟩ := x
    exact ⟨a, its.toArray, e, (F₃.own _ hmem).1.isList, hal⟩
end Law62

set_option maxRecDepth 100000
set_option linter.unusedVariables false
namespace Law62
open PySem PySem.W PySem.Calls PyProof.Rows

def addAt (xs : List Int) (k : Nat) (d : Int) : List Int := xs.set k (xs.getD k 0 + d)
def turn1 (m : Nat) (dial row : List Int) (worth one : Int) (t : List Int) (other : Int) : List Int := addAt t ((one + other).fmod m).toNat (dial.getD one.toNat 0 * row.getD other.toNat 0 * worth)
def turn2 (m : Nat) (dial row : List Int) (worth : Int) (t : List Int) (one : Int) : List Int := (rangeInts 0 1 m).foldl (turn1 m dial row worth one) t
def turnOf (m : Nat) (dial row : List Int) (worth : Int) : List Int := (rangeInts 0 1 m).foldl (turn2 m dial row worth) (List.replicate m 0)
def worthOf (len place : Nat) : Int := ((place : Int) + 1) * 16 ^ (((len : Int) - 1 - place).toNat)
def dialStep (m len : Nat) (dial : List Int) (x : List Int × Nat) : List Int := turnOf m dial x.1 (worthOf len x.2)
def productOf (m heap : Nat) (rows : List (List Int)) : List Int := rows.zipIdx.foldl (dialStep m rows.length) ((List.replicate m 0).set heap 1)

theorem addAt_length (xs : List Int) (k : Nat) (d : Int) : (addAt xs k d).length = xs.length := by unfold addAt; rw [List.length_set]
theorem foldl_length {α : Type} {f : List Int → α → List Int} (h : ∀ t x, (f t x).length = t.length) : ∀ (l : List α) (t : List Int), (l.foldl f t).length = t.length
  | [], t => rfl
  | a :: l, t => by rw [List.foldl_cons, foldl_length h l, h]
theorem turn1_length (m dial row worth one) (t : List Int) (o : Int) : (turn1 m dial row worth one t o).length = t.length := addAt_length _ _ _
theorem turn2_length (m dial row worth) (t : List Int) (one : Int) : (turn2 m dial row worth t one).length = t.length := foldl_length (fun t x => addAt_length _ _ _) _ _
theorem turnOf_length (m dial row worth) : (turnOf m dial row worth).length = m := by unfold turnOf; rw [foldl_length (fun t x => turn2_length _ _ _ _ _ _), List.length_replicate]
theorem foldl_take {α β : Type} {f : β → α → β} {l : List α} {i : Nat} {x : α} (h : l[i]? = some x) (b : β) : (l.take (i + 1)).foldl f b = f ((l.take i).foldl f b) x := by
  rw [List.take_add_one, h, List.foldl_append]; rfl
theorem All2.set {α β : Type} {P : α → β → Prop} : ∀ {as : List α} {bs : List β} {a : α} {b : β}, All2 P as bs → P a b → ∀ k, All2 P (as.set k a) (bs.set k b)
  | _, _, _, _, .nil, h, k => by simp; exact .nil
  | _, _, _, _, .cons x r, h, 0 => .cons h r
  | _, _, _, _, .cons x r, h, k + 1 => .cons x (r.set h k)

section
variable {w : World} {A : Around} {s : Shared} {env : Env}
/-- [0] * n -/
theorem evN_zeros {r : Expr} {i : Int} {p pos cpos : Pos} {k n : Nat} (hr : EvI w A env r s (n : Int)) (hn : n ≤ 1000) (hst : backTo p (starEach [.Constant (.int i) k cpos] env) = [.Constant (.int i) k cpos].map fun e => (false, eval e env) := by rfl) :
    EvN w A env (.BinOp (.List [.Constant (.int i) k cpos] p) .Mult r pos) s (fun vs _ => All2 IsI vs (List.replicate n i)) := fun s' kk E =>
  wpAny_mono (evN_mul (us := fun u => All2 IsI u [i]) ((evN_ints (ns := [i]) (.cons (evI_const _ _ _) .nil) (by simp) hst).evP.mono fun v h ⟨D, it, e, l, al⟩ => ⟨D, it, e, l, al, by have := al.length; rw [Array.length_toList] at this; simp at this; omega⟩) hr (by omega) (by omega) s' kk E)
    (fun v s'' x => by
      obtain ⟨⟨D, it, e, l, f, u, hu, ev⟩, kk⟩ := x
      refine ⟨⟨D, it, e, l, f, ?_⟩, kk⟩
      cases hu with
      | cons h1 h2 => cases h2; rw [ev]; simpa using All2.replicate h1 n) fun _ _ e => e
end

theorem foldl_dial_length {m len : Nat} : ∀ (l : List (List Int × Nat)) (d : List Int), d.length = m → (l.foldl (dialStep m len) d).length = m
  | [], d, h => h
  | a :: l, d, h => by rw [List.foldl_cons]; exact foldl_dial_length l _ (turnOf_length _ _ _ _)
theorem worth_small {len place : Nat} (h : len ≤ 5) (hp : place < len) : 0 ≤ worthOf len place ∧ worthOf len place < 2 ^ 63 := by
  have : ∀ len : Fin 6, ∀ place : Fin 6, place.val < len.val → 0 ≤ worthOf len.val place.val ∧ worthOf len.val place.val < 2 ^ 63 := by decide
  exact this ⟨len, by omega⟩ ⟨place, by omega⟩ hp
theorem FS.dead {s s₀ : Shared} {L : Addr} {m cm : Str → Option Value} {cs : List (Str × Addr)} {ow : List (Addr × List Value)} {hk : Heap} (F : FS s₀ L m cs cm ow hk s) (hcs : (cs.map (·.1)).Nodup) {b : Addr} (h : s.heap.get? b = none) : hk.get? b = none := by
  cases e : hk.get? b with
  | none => rfl
  | some o => obtain ⟨o', e'⟩ := F.live hcs e; rw [h] at e'; cases e'
theorem lk22 (P : Params) : (KE P).lookup 173 = some (fnO 22 "law_tr0062_01" 2271 172) := by kernel_rfl!
theorem ci22 (P : Params) : codeIn (KE P) (.ref 172) (fname 22) = true := by kernel_rfl!
theorem kp22 (P : Params) : keepIn (KE P) (.ref 173) = true := by kernel_rfl!
theorem cs22 (n : Nat) : ((cellsFrom n (fsc 22).names []).map (·.1)).Nodup := by
  have e : (cellsFrom n (fsc 22).names []).map (·.1) = (cellsFrom 0 (fsc 22).names []).map (·.1) := by rfl
  rw [e]; decide +kernel

theorem bits64 {a : Int} (h : a.natAbs < 2 ^ 64) : Builtin.Int.intBits a ≤ 64 := intBits_le h

theorem product_spec {w : World} {A : Around} {s : Shared} {mg mb : Str → Option Value} {n : Nat} (Rm' : Rm A (n + 1)) (G : Gd w mg mb s.heap) {rows : List (List Int)} {m heap : Nat} {rv : Value} {t t₀ : Tok} (hm : 0 < m) (hm' : m ≤ 5) (hheap : heap < m) (hr : LLI s.heap rv rows)
    (hlen : rows.length ≤ 5) (hrow : ∀ r ∈ rows, r.length = m ∧ ∀ x ∈ r, 0 ≤ x ∧ x < 16) :
    Gv w A (call (.ref 173) [.int heap t₀, .int m t, rv]) s (fun v h => LI h v (productOf m heap rows)) := by
  refine fn_call (i := 22) (binds := [("heap", .int heap t₀), ("heaps", .int m t), ("rows", rv)]) Rm' G (lk22 _) (by rfl) (ci22 _) (by rfl) (by
    intro n x hx
    simp only [List.mem_cons, List.not_mem_nil, or_false] at hx
    rcases hx with rfl | rfl | rfl
    · left; rfl
    · left; rfl
    · left; rfl) (by rfl) (by rfl) (by rfl) fun s₁ R₁ F => ?_
  have hh := R₁.hh
  obtain ⟨ra, ritems, rfl, hri, hra⟩ := hr
  have Gs : ∀ {s' : Shared}, WK s s' → Gd w mg mb s'.heap := fun k => G.keeps k.get
  refine sx_assignN F (evN_zeros (n := m) (evI_local F (by rfl) ⟨_, rfl⟩) (by omega)) ⟨by rfl, by rfl⟩ (fun D₀ items s₂ hP hfr F₂ => ?_)
  have hz := hP.length
  rw [List.length_replicate] at hz
  refine sx_setItem F₂ List.mem_cons_self ((evI_const 1 _ _)) (ev_local F₂.fr.ns (upd_same _ _ _)) (evI_local F₂ (by rfl) ⟨_, rfl⟩) (by omega) (by omega) (by omega) fun v₁ s₃ hv₁ F₃ => ?_
  refine sx_for F₃ (itP_enum (Gs F₃.kt.wk) (G.no _ g_enumerate) hh (ev_localL F₃ hri (by rfl)) hra) ⟨⟨by rfl, by rfl⟩, ⟨by rfl, by rfl⟩⟩ (fun b hb => ?_)
    (fun i mm cc ow => mm "heaps" = some (.int m t) ∧ mm "rows" = some (.ref ra) ∧ ∃ D its, mm "dial" = some (.ref D) ∧ (D, its) ∈ ow ∧ All2 IsI its ((rows.zipIdx.take i).foldl (dialStep m rows.length) ((List.replicate m 0).set heap 1)))
    ⟨by rfl, by rfl, D₀, _, upd_same _ _ _, mem_setOw_self List.mem_cons_self, by simpa using hP.set hv₁ heap⟩ ?_ ?_ (hcs := cs22 _)
  · simp at hb; subst hb; obtain ⟨o, e, _⟩ := hri; exact ⟨o, e⟩
  · rintro i ⟨row, place⟩ m₁ m₁' cm₁ ow₁ s₄ hx ⟨h1, h2, Dd, dits, h3, h4, h5⟩ ⟨v₀, w₁, ⟨hv₀, hw₁⟩, rfl⟩ F₄
    have hdl : rows[i]? = some row ∧ place = i := by
      rw [List.getElem?_zipIdx] at hx
      cases e : rows[i]? with
      | none => rw [e] at hx; cases hx
      | some z => rw [e] at hx; cases hx; exact ⟨rfl, by simp⟩
    obtain ⟨hdl, e⟩ := hdl
    subst e
    have hpl : place < rows.length := (List.getElem?_eq_some_iff.mp hdl).1
    obtain ⟨hrl, hrb⟩ := hrow row (List.mem_of_getElem? hdl)
    obtain ⟨rowa, rowits, rfl, hrowl, hrowa⟩ := hw₁
    have dlen : ((rows.zipIdx.take place).foldl (dialStep m rows.length) ((List.replicate m 0).set heap 1)).length = m := foldl_dial_length _ _ (by simp)
    generalize hdial : (rows.zipIdx.take place).foldl (dialStep m rows.length) ((List.replicate m 0).set heap 1) = dial at h5 dlen
    obtain ⟨hw0, hw1⟩ := worth_small hlen hpl
    have hwb : (worthOf rows.length place).natAbs < 2 ^ 64 := by omega
    have e1 : (upd (upd m₁ "place" v₀) "row" (.ref rowa)) "heaps" = some (.int m t) := (upd_other _ _ (by decide)).trans ((upd_other _ _ (by decide)).trans h1)
    have e2 : (upd (upd m₁ "place" v₀) "row" (.ref rowa)) "rows" = some (.ref ra) := (upd_other _ _ (by decide)).trans ((upd_other _ _ (by decide)).trans h2)
    have e3 : (upd (upd m₁ "place" v₀) "row" (.ref rowa)) "dial" = some (.ref Dd) := (upd_other _ _ (by decide)).trans ((upd_other _ _ (by decide)).trans h3)
    have e4 : (upd (upd m₁ "place" v₀) "row" (.ref rowa)) "place" = some v₀ := (upd_other _ _ (by decide)).trans (upd_same _ _ _)
    have e5 : (upd (upd m₁ "place" v₀) "row" (.ref rowa)) "row" = some (.ref rowa) := upd_same _ _ _
    generalize upd (upd m₁ "place" v₀) "row" (.ref rowa) = mA at F₄ e1 e2 e3 e4 e5
    have hG₄ := Gs F₄.kt.wk
    have hrlen : ritems.size = rows.length := by rw [← hra.length, Array.length_toList]
    refine sx_assign F₄ (P := fun v => IsI v (worthOf rows.length place)) (evI_mul (evI_add (evI_local F₄ e4 hv₀) (evI_const 1 _ _)) (evI_pow (evI_const 16 _ _) (evI_sub (evI_sub (evI_lenList hG₄ (hG₄.no _ g_len) ((ev_localL F₄ hri e2).mono fun v h x => ⟨_, _, x.1, x.2, hrlen⟩) (by omega)) (evI_const 1 _ _)) (evI_local F₄ e4 hv₀)) (by omega) (by omega) (by decide)) ?_) ⟨by rfl, by rfl⟩ fun v₂ s₅ hv₂ F₅ => ?_
    · exact IntMulOk.of_left (intBits_le_64 (by omega) (by omega))
    have f1 := (upd_other mA v₂ (show ("heaps" : Str) ≠ "worth" by decide)).trans e1
    have f2 := (upd_other mA v₂ (show ("rows" : Str) ≠ "worth" by decide)).trans e2
    have f3 := (upd_other mA v₂ (show ("dial" : Str) ≠ "worth" by decide)).trans e3
    have f5 := (upd_other mA v₂ (show ("row" : Str) ≠ "worth" by decide)).trans e5
    have f6 := upd_same mA "worth" v₂
    generalize upd mA "worth" v₂ = mB at F₅ f1 f2 f3 f5 f6
    refine sx_assignN F₅ (evN_zeros (n := m) (evI_local F₅ f1 ⟨_, rfl⟩) (by omega)) ⟨by rfl, by rfl⟩ (fun Dt items s₆ hPt hfr₆ F₆ => ?_)
    have hDne : Dt ≠ Dd := fun q => by
      obtain ⟨k, e⟩ := (F₅.own _ h4).1
      rw [q] at hfr₆; rw [show s₅.heap.get? Dd = _ from e] at hfr₆; cases hfr₆
    have g1 := (upd_other mB (.ref Dt) (show ("heaps" : Str) ≠ "turned" by decide)).trans f1
    have g2 := (upd_other mB (.ref Dt) (show ("rows" : Str) ≠ "turned" by decide)).trans f2
    have g3 := (upd_other mB (.ref Dt) (show ("dial" : Str) ≠ "turned" by decide)).trans f3
    have g5 := (upd_other mB (.ref Dt) (show ("row" : Str) ≠ "turned" by decide)).trans f5
    have g6 := (upd_other mB (.ref Dt) (show ("worth" : Str) ≠ "turned" by decide)).trans f6
    have g7 := upd_same mB "turned" (.ref Dt)
    generalize upd mB "turned" (.ref Dt) = mC at F₆ g1 g2 g3 g5 g6 g7
    refine sx_for F₆ (itP_range1 (Gs F₆.kt.wk) (G.no _ g_range) hh (evI_local F₆ g1 ⟨_, rfl⟩) (by omega)) ⟨by rfl, by rfl⟩ (fun b hb => by cases hb)
      (fun a mm cc ow => mm "heaps" = some (.int m t) ∧ mm "rows" = some (.ref ra) ∧ mm "dial" = some (.ref Dd) ∧ mm "row" = some (.ref rowa) ∧ mm "worth" = some v₂ ∧ mm "turned" = some (.ref Dt) ∧ (Dd, dits) ∈ ow ∧
        ∃ its, (Dt, its) ∈ ow ∧ All2 IsI its (((rangeInts 0 1 m).take a).foldl (turn2 m dial row (worthOf rows.length place)) (List.replicate m 0)))
      ⟨g1, g2, g3, g5, g6, g7, List.mem_cons_of_mem _ h4, _, List.mem_cons_self, hPt⟩ ?_ ?_ (hcs := cs22 _)
    · rintro a one mD mD' cc ow s₇ hx₁ ⟨k1, k2, k3, k5, k6, k7, k8, its, k9, k10⟩ ⟨v₃, hv₃, rfl⟩ F₇
      have ham : a < m := by have := (List.getElem?_eq_some_iff.mp hx₁).1; rwa [rangeInts_length] at this
      have hone : one = (a : Int) := by rw [rangeInts_get ham] at hx₁; simp at hx₁; exact hx₁.symm
      have l1 := (upd_other mD v₃ (show ("heaps" : Str) ≠ "one" by decide)).trans k1
      have l2 := (upd_other mD v₃ (show ("rows" : Str) ≠ "one" by decide)).trans k2
      have l3 := (upd_other mD v₃ (show ("dial" : Str) ≠ "one" by decide)).trans k3
      have l5 := (upd_other mD v₃ (show ("row" : Str) ≠ "one" by decide)).trans k5
      have l6 := (upd_other mD v₃ (show ("worth" : Str) ≠ "one" by decide)).trans k6
      have l7 := (upd_other mD v₃ (show ("turned" : Str) ≠ "one" by decide)).trans k7
      have l8 := upd_same mD "one" v₃
      generalize upd mD "one" v₃ = mE at F₇ l1 l2 l3 l5 l6 l7 l8
      generalize hT₀ : ((rangeInts 0 1 m).take a).foldl (turn2 m dial row (worthOf rows.length place)) (List.replicate m 0) = T₀ at k10
      have hT₀l : T₀.length = m := by rw [← hT₀, foldl_length (fun t x => turn2_length _ _ _ _ _ _), List.length_replicate]
      refine sx_for F₇ (itP_range1 (Gs F₇.kt.wk) (G.no _ g_range) hh (evI_local F₇ l1 ⟨_, rfl⟩) (by omega)) ⟨by rfl, by rfl⟩ (fun b hb => by cases hb)
        (fun b mm cc ow => mm "heaps" = some (.int m t) ∧ mm "rows" = some (.ref ra) ∧ mm "dial" = some (.ref Dd) ∧ mm "row" = some (.ref rowa) ∧ mm "worth" = some v₂ ∧ mm "turned" = some (.ref Dt) ∧ mm "one" = some v₃ ∧ (Dd, dits) ∈ ow ∧
          ∃ its, (Dt, its) ∈ ow ∧ All2 IsI its (((rangeInts 0 1 m).take b).foldl (turn1 m dial row (worthOf rows.length place) one) T₀))
        ⟨l1, l2, l3, l5, l6, l7, l8, k8, its, k9, k10⟩ ?_ ?_ (hcs := cs22 _)
      · rintro b other mF mF' cc' ow' s₈ hx₂ ⟨n1, n2, n3, n5, n6, n7, n8, n9, its', n10, n11⟩ ⟨v₄, hv₄, rfl⟩ F₈
        have hbm : b < m := by have := (List.getElem?_eq_some_iff.mp hx₂).1; rwa [rangeInts_length] at this
        have hoth : other = (b : Int) := by rw [rangeInts_get hbm] at hx₂; simp at hx₂; exact hx₂.symm
        have o1 := (upd_other mF v₄ (show ("heaps" : Str) ≠ "other" by decide)).trans n1
        have o2 := (upd_other mF v₄ (show ("rows" : Str) ≠ "other" by decide)).trans n2
        have o3 := (upd_other mF v₄ (show ("dial" : Str) ≠ "other" by decide)).trans n3
        have o5 := (upd_other mF v₄ (show ("row" : Str) ≠ "other" by decide)).trans n5
        have o6 := (upd_other mF v₄ (show ("worth" : Str) ≠ "other" by decide)).trans n6
        have o7 := (upd_other mF v₄ (show ("turned" : Str) ≠ "other" by decide)).trans n7
        have o8 := (upd_other mF v₄ (show ("one" : Str) ≠ "other" by decide)).trans n8
        have o9 := upd_same mF "other" v₄
        generalize upd mF "other" v₄ = mG at F₈ o1 o2 o3 o5 o6 o7 o8 o9
        have hcur : (((rangeInts 0 1 m).take b).foldl (turn1 m dial row (worthOf rows.length place) one) T₀).length = m := by rw [foldl_length (fun t x => turn1_length _ _ _ _ _ _ _), hT₀l]
        have hf := foldl_take (f := turn1 m dial row (worthOf rows.length place) one) hx₂ T₀
        generalize ((rangeInts 0 1 m).take b).foldl (turn1 m dial row (worthOf rows.length place) one) T₀ = cur at n11 hcur hf
        have hk0 := Int.fmod_nonneg_of_pos (one + other) (show (0 : Int) < m by omega)
        have hk1 := Int.fmod_lt_of_pos (one + other) (show (0 : Int) < m by omega)
        obtain ⟨cv, cx, c1, c2, c3⟩ := get_at n11 (i := ((one + other).fmod (m : Int)).toNat) (by omega)
        obtain ⟨dv, dx, d1, d2, d3⟩ := get_at h5 (i := a) (by omega)
        obtain ⟨xv, xx, x1, x2, x3⟩ := get_at hrowa (i := b) (by show b < row.length; omega)
        have hxb := hrb xx (List.mem_of_getElem? x2)
        have hil := n11.length
        refine sx_augItem F₈ n10 (ev_local F₈.fr.ns o7) (evI_mod (evI_add (evI_local F₈ o8 hv₃) (evI_local F₈ o9 hv₄)) (evI_local F₈ o1 ⟨_, rfl⟩) (by omega))
          (evI_mul (evI_mul (evI_item (ns := dial) ((ev_own F₈ n9 o3).mono fun v h x => ⟨_, _, x.1, x.2, h5⟩) (evI_local F₈ o8 hv₃) (by rw [hone]; exact Int.natCast_nonneg _) (by rw [hone]; omega) (by rw [hone]; exact d2))
            (evI_item (ns := row) ((ev_localL F₈ hrowl o5).mono fun v h x => ⟨_, _, x.1, x.2, hrowa⟩) (evI_local F₈ o9 hv₄) (by rw [hoth]; exact Int.natCast_nonneg _) (by rw [hoth]; omega) (by rw [hoth]; exact x2)) (IntMulOk.of_right (bits64 (by omega)))) (evI_local F₈ o6 hv₂) (IntMulOk.of_right (bits64 hwb)))
          hk0 ⟨cv, c1, c3⟩ (by rw [hil]; omega) fun v s₉ hv F₉ => ?_
        refine wpAny_execs_nil ⟨rfl, _, _, _, F₉, owx_set (Owx.refl _ _), o1, o2, o3, o5, o6, o7, o8, mem_setOw n9 (Ne.symm hDne), _, mem_setOw_self n10, ?_⟩
        rw [hf]
        have he : turn1 m dial row (worthOf rows.length place) one cur other = cur.set ((one + other).fmod (m : Int)).toNat (cx + dx * xx * worthOf rows.length place) := by
          unfold turn1 addAt
          rw [hone, hoth] at *
          rw [List.getD_eq_getElem?_getD, List.getD_eq_getElem?_getD, List.getD_eq_getElem?_getD, c2]
          rw [show ((a : Int)).toNat = a from rfl, show ((b : Int)).toNat = b from rfl, d2, x2]; rfl
        rw [he]
        exact n11.set hv _
      · rintro mF cc' ow' s₈ F₈ ox ⟨n1, n2, n3, n5, n6, n7, n8, n9, its', n10, n11⟩
        refine wpAny_execs_nil ⟨rfl, _, _, _, F₈, ox, n1, n2, n3, n5, n6, n7, n9, its', n10, ?_⟩
        rw [List.take_length] at n11
        rw [foldl_take hx₁, hT₀]
        exact n11
    · rintro mD cc ow s₇ F₇ ox ⟨k1, k2, k3, k5, k6, k7, k8, its, k9, k10⟩
      rw [List.take_length] at k10
      refine sx_assign F₇ (ev_local F₇.fr.ns k7) ⟨by rfl, by rfl⟩ fun v s₈ hv F₈ => ?_
      subst hv
      refine wpAny_execs_nil ⟨rfl, _, _, _, F₈, owx_trans (owx_add (Owx.refl _ _) (F₅.dead (cs22 _) hfr₆)) F₆ (cs22 _) ox, (upd_other _ _ (by decide)).trans k1, (upd_other _ _ (by decide)).trans k2, Dt, its, upd_same _ _ _, k9, ?_⟩
      rw [foldl_take hx, hdial]
      exact k10
  · rintro m' cm' ow' s₄ F₄ ox ⟨h1, h2, D, its, h3, h4, h5⟩
    rw [List.take_length] at h5
    exact sx_return (R := fun v h => LI h v (productOf m heap rows)) ((ev_own F₄ h4 h3).mono fun v h x => ⟨D, _, x.1, x.2, h5⟩) fun v s₄ hv k => ⟨hv, keeps_trans F₄.keeps k.k⟩
end Law62

set_option maxRecDepth 100000
set_option linter.unusedVariables false
namespace Law62
open PySem PySem.W PySem.Calls PyProof.Rows

def sumStep1 (n : Int) (h : Nat) (S : List (List Int)) (p : Int) : List (List Int) := S.set p.toNat (addAt (S.getD p.toNat []) h (n ^ p.toNat))
def sumStep (m pl : Nat) (S : List (List Int)) (x : Int × Str) : List (List Int) := (rangeInts 0 1 (pl + 1)).foldl (sumStep1 x.1 ((x.2.length : Int).fmod m).toNat) S
def sumsOf (m pl : Nat) (numbers : List Int) (pages : List Str) : List (List Int) := (numbers.zip pages).foldl (sumStep m pl) (List.replicate (pl + 1) (List.replicate m 0))

theorem All2.mono' {α β : Type} {P Q : α → β → Prop} : ∀ {as : List α} {bs : List β}, All2 P as bs → (∀ a ∈ as, ∀ b, P a b → Q a b) → All2 Q as bs
  | _, _, .nil, _ => .nil
  | _, _, .cons x r, h => .cons (h _ List.mem_cons_self _ x) (r.mono' fun a ha b => h a (List.mem_cons_of_mem _ ha) b)
/-- R of a new list with ints -/
def RL (ns : List Int) (v : Value) (h : Heap) : Prop := ∃ D items, v = .ref D ∧ h.PlainList D items ∧ All2 IsI items.toList ns
theorem own_RL : Own (κ := List Int) RL := fun k v h h' hk ⟨D, it, e, p, al⟩ => ⟨D, it, e, p.at fun o x => hk D e o x, al⟩
theorem RL.li {ns : List Int} {v : Value} {h : Heap} (x : RL ns v h) : LI h v ns := let ⟨D, it, e, p, al⟩ := x; ⟨D, it, e, p.isList, al⟩

/-- rows of own lists -/
def Rws (rws : List (Addr × List Value)) (items : List Value) (nss : List (List Int)) : Prop := items = rws.map (fun p => .ref p.1) ∧ (rws.map (·.1)).Nodup ∧ All2 (fun p ns => All2 IsI p.2 ns) rws nss

section
variable {s s₀ : Shared} {L : Addr} {m cm : Str → Option Value} {cs : List (Str × Addr)} {ow : List (Addr × List Value)} {hk h₀ : Heap}
theorem FS.addRows : ∀ {off : List Addr} {items : List Value} {nss : List (List Int)} (ow : List (Addr × List Value)), FS s₀ L m cs cm ow hk s → Made RL h₀ off s.heap items nss → (∀ b o, s₀.heap.get? b = some o → h₀.get? b = some o) → (∀ p ∈ ow, p.1 ∈ off ∨ ∃ o, h₀.get? p.1 = some o) →
    ∃ rws, Rws rws items nss ∧ FS s₀ L m cs cm (rws ++ ow) hk s ∧ (∀ p ∈ rws, p.1 ∉ off ∧ h₀.get? p.1 = none)
  | off, [], nss, ow, F, M, h1, h2 => by
    have := M.1; cases this
    exact ⟨[], ⟨rfl, List.nodup_nil, .nil⟩, F, fun p hp => by cases hp⟩
  | off, v :: items, nss, ow, F, M, h1, h2 => by
    obtain ⟨M1, M2⟩ := M
    cases M1 with
    | @cons _ ns _ nss x r =>
    rw [List.pairwise_cons] at M2
    obtain ⟨⟨D, its, e, pl, al⟩, hD⟩ := x
    obtain ⟨hD0, hDo, _⟩ := hD D e
    have F' := F.addOwn (D := D) (items := its.toList) (by simpa using pl) (by
      cases e' : s₀.heap.get? D with
      | none => rfl
      | some o => have := h1 _ _ e'; rw [hD0] at this; cases this) (fun hm => by
      obtain ⟨p, hp, e'⟩ := List.mem_map.mp hm
      have e' : p.1 = D := e'
      rcases h2 p hp with q | ⟨o, q⟩
      · rw [e'] at q; exact hDo q
      · rw [e', hD0] at q; cases q)
    obtain ⟨rws, ⟨ei, nd, al'⟩, F₂, ho⟩ := FS.addRows (off := D :: off) ((D, its.toList) :: ow) F' ⟨r.mono' fun a ha k' y => ⟨y.1, fun T eT => ⟨(y.2 T eT).1, fun hm => by
        rcases List.mem_cons.mp hm with q | q
        · exact M2.1 a ha D e (q ▸ eT)
        · exact (y.2 T eT).2.1 q, (y.2 T eT).2.2⟩⟩, M2.2⟩ h1 (fun p hp => by
      rcases List.mem_cons.mp hp with rfl | hp
      · exact .inl List.mem_cons_self
      · rcases h2 p hp with q | q
        · exact .inl (List.mem_cons_of_mem _ q)
        · exact .inr q)
    have F₃ : FS s₀ L m cs cm ((D, its.toList) :: rws ++ ow) hk s := by
      refine ⟨F₂.same, F₂.tk, F₂.fr, F₂.cl, fun p hp => F₂.own p (by simp at hp ⊢; rcases hp with h | h | h; exact .inr (.inl h); exact .inl h; exact .inr (.inr h)), ?_, fun b o q1 q2 q3 e => F₂.ch b o q1 q2 (fun q => q3 ?_) e⟩
      · have := F₂.nd
        rw [List.map_append, List.map_cons] at this
        rw [List.cons_append, List.map_cons, List.map_append]
        exact (List.perm_middle.nodup_iff).mp this
      · simp only [List.map_append, List.map_cons, List.mem_append, List.mem_cons, List.cons_append] at q ⊢
        rcases q with q | q | q
        · exact .inr (.inl q)
        · exact .inl q
        · exact .inr (.inr q)
    refine ⟨(D, its.toList) :: rws, ⟨by rw [List.map_cons, ← ei, e], ?_, .cons al al'⟩, F₃, fun p hp => ?_⟩
    · rw [List.map_cons, List.nodup_cons]
      refine ⟨fun hm => ?_, nd⟩
      obtain ⟨p, hp, e'⟩ := List.mem_map.mp hm
      have e' : p.1 = D := e'
      exact (ho p hp).1 (by rw [e']; exact List.mem_cons_self)
    · rcases List.mem_cons.mp hp with rfl | hp
      · exact ⟨hDo, hD0⟩
      · exact ⟨fun q => (ho p hp).1 (List.mem_cons_of_mem _ q), (ho p hp).2⟩
end
theorem All2.mapLeft {α β γ : Type} {P : α → β → Prop} {Q : γ → β → Prop} {f : α → γ} : ∀ {as : List α} {bs : List β}, (∀ a ∈ as, ∀ b, P a b → Q (f a) b) → All2 P as bs → All2 Q (as.map f) bs
  | _, _, _, .nil => .nil
  | _, _, h, .cons x r => .cons (h _ List.mem_cons_self _ x) (All2.mapLeft (fun a ha b => h a (List.mem_cons_of_mem _ ha) b) r)
theorem setOw_notin {T : Addr} {its : List Value} : ∀ {rws : List (Addr × List Value)}, T ∉ rws.map (·.1) → setOw T its rws = rws
  | [], _ => rfl
  | p :: rws, h => by
    rw [List.map_cons, List.mem_cons, not_or] at h
    show (if p.1 = T then (T, its) else p) :: setOw T its rws = p :: rws
    rw [if_neg (fun q => h.1 q.symm), setOw_notin h.2]
theorem all2_setOw {T : Addr} {its' : List Value} {ns' : List Int} (h' : All2 IsI its' ns') : ∀ {rws : List (Addr × List Value)} {nss : List (List Int)} {k : Nat} {its : List Value}, (rws.map (·.1)).Nodup → All2 (fun p ns => All2 IsI p.2 ns) rws nss → rws[k]? = some (T, its) →
    All2 (fun p ns => All2 IsI p.2 ns) (setOw T its' rws) (nss.set k ns')
  | [], _, k, _, _, _, e => by simp at e
  | p :: rws, _, 0, its, nd, .cons x r, e => by
    simp at e; subst e
    rw [List.map_cons, List.nodup_cons] at nd
    show All2 _ ((if (T, its).1 = T then (T, its') else (T, its)) :: setOw T its' rws) _
    rw [if_pos rfl, setOw_notin nd.1]
    exact .cons h' r
  | p :: rws, _, k + 1, its, nd, .cons x r, e => by
    simp at e
    rw [List.map_cons, List.nodup_cons] at nd
    show All2 _ ((if p.1 = T then (T, its') else p) :: setOw T its' rws) _
    rw [if_neg (fun q => nd.1 (by rw [q]; exact List.mem_map.mpr ⟨_, List.mem_of_getElem? e, rfl⟩))]
    exact .cons x (all2_setOw h' nd.2 r e)
theorem Rws.set {rws : List (Addr × List Value)} {items : List Value} {nss : List (List Int)} {T : Addr} {its its' : List Value} {ns' : List Int} {k : Nat} (h : Rws rws items nss) (hk : rws[k]? = some (T, its)) (h' : All2 IsI its' ns') : Rws (setOw T its' rws) items (nss.set k ns') := by
  refine ⟨?_, by rw [setOw_fst]; exact h.2.1, all2_setOw h' h.2.1 h.2.2 hk⟩
  rw [h.1]
  have : ∀ l : List (Addr × List Value), l.map (fun p => Value.ref p.1) = (l.map (·.1)).map Value.ref := fun l => by rw [List.map_map]; rfl
  rw [this, this, setOw_fst]
theorem Rws.sub {rws ow : List (Addr × List Value)} {T : Addr} {its' : List Value} (h : ∀ p ∈ rws, p ∈ ow) : ∀ p ∈ setOw T its' rws, p ∈ setOw T its' ow := fun p hp => by
  obtain ⟨q, hq, e⟩ := List.mem_map.mp hp
  exact List.mem_map.mpr ⟨q, h q hq, e⟩

def Sz (m k : Nat) (S : List (List Int)) : Prop := S.length = k ∧ ∀ r ∈ S, r.length = m
theorem sz_step1 {m k : Nat} {n : Int} {h : Nat} {S : List (List Int)} {p : Int} (x : Sz m k S) : Sz m k (sumStep1 n h S p) := by
  unfold sumStep1
  refine ⟨by rw [List.length_set]; exact x.1, fun r hr => ?_⟩
  by_cases hp : p.toNat < S.length
  · rcases List.mem_or_eq_of_mem_set hr with q | q
    · exact x.2 r q
    · rw [q, addAt_length, List.getD_eq_getElem?_getD, List.getElem?_eq_getElem hp]
      exact x.2 _ (List.getElem_mem hp)
  · rw [List.set_eq_of_length_le (by omega)] at hr
    exact x.2 r hr
theorem sz_foldl {α : Type} {m k : Nat} {f : List (List Int) → α → List (List Int)} (hf : ∀ S a, Sz m k S → Sz m k (f S a)) : ∀ (l : List α) (S : List (List Int)), Sz m k S → Sz m k (l.foldl f S)
  | [], S, h => h
  | a :: l, S, h => by rw [List.foldl_cons]; exact sz_foldl hf l _ (hf _ _ h)
theorem sz_init (m k : Nat) : Sz m k (List.replicate k (List.replicate m 0)) := ⟨List.length_replicate, fun r hr => by rw [List.eq_of_mem_replicate hr, List.length_replicate]⟩
theorem EvI.cast {w : World} {A : Around} {env : Env} {e : Expr} {s : Shared} {a b : Int} (h : EvI w A env e s a) (he : a = b) : EvI w A env e s b := he ▸ h
theorem lk21 (P : Params) : (KE P).lookup 166 = some (fnO 21 "law_tr0062_01" 2271 165) := by kernel_rfl!
theorem ci21 (P : Params) : codeIn (KE P) (.ref 165) (fname 21) = true := by kernel_rfl!
theorem kp21 (P : Params) : keepIn (KE P) (.ref 166) = true := by kernel_rfl!
theorem cs21 (n : Nat) : ((cellsFrom n (fsc 21).names []).map (·.1)).Nodup := by
  have e : (cellsFrom n (fsc 21).names []).map (·.1) = (cellsFrom 0 (fsc 21).names []).map (·.1) := by rfl
  rw [e]; decide +kernel
theorem rangeInts_map_const {κ : Type} (a c : Int) (n : Nat) (x : κ) : (rangeInts a c n).map (fun _ => x) = List.replicate n x := by
  rw [List.map_const', rangeInts_length]
theorem filter_tt {ι : Type} (l : List ι) : l.filter (fun _ => true) = l := by simp

theorem sums_spec {w : World} {A : Around} {s : Shared} {mg mb : Str → Option Value} {n : Nat} (Rm' : Rm A (n + 1)) (G : Gd w mg mb s.heap) {numbers : List Int} {pages : List Str} {m pl : Nat} {nv pv : Value} {t t₀ : Tok} (hm : 0 < m) (hm' : m ≤ 5) (hpl : pl ≤ 5)
    (hn : LI s.heap nv numbers) (hp : LS s.heap pv pages) (hnb : ∀ x ∈ numbers, x.natAbs < 2 ^ 64) (hpb : ∀ x ∈ pages, x.length ≤ 1000000) :
    Gv w A (call (.ref 166) [nv, pv, .int m t, .int pl t₀]) s (fun v h => LLI h v (sumsOf m pl numbers pages)) := by
  refine fn_call (i := 21) (binds := [("numbers", nv), ("pages", pv), ("heaps", .int m t), ("places", .int pl t₀)]) Rm' G (lk21 _) (by rfl) (ci21 _) (by rfl) (by
    intro n x hx
    simp only [List.mem_cons, List.not_mem_nil, or_false] at hx
    rcases hx with rfl | rfl | rfl | rfl
    · left; rfl
    · left; rfl
    · right; exact ⟨by rfl, by rfl⟩
    · left; rfl) (by rfl) (by rfl) (by rfl) fun s₁ R₁ F => ?_
  have hh := R₁.hh
  obtain ⟨na, nits, rfl, hnl, hna⟩ := hn
  obtain ⟨pa, pits, rfl, hpli, hpa⟩ := hp
  have Gs : ∀ {s' : Shared}, WK s s' → Gd w mg mb s'.heap := fun k => G.keeps k.get
  have kHs := F.cellAt (x := "heaps") (v := .int m t) (by rfl) (by rfl)
  refine sx_assign_comp F (itP_range1 (Gs F.kt.wk) (G.no _ g_range) hh (N := pl + 1) (EvI.cast (evI_add (evI_local F (by rfl) ⟨_, rfl⟩) (evI_const 1 _ _)) (by simp)) (by omega)) RL own_RL (fun _ => true) (fun _ => List.replicate m 0) (by rw [rangeInts_length]; omega)
    (by rfl) ⟨by rfl, by rfl⟩ (by rfl) (by decide +kernel) (by rfl) (by decide +kernel) (fun C => ⟨by rfl, by rfl⟩) (fun C x mm mm' s₃ hx wk hB hn => tsB_nil) (fun C x mm mm' s₃ hx wk hp hB hn => ?_) fun DS items s₂ F₂ hf hM => ?_
  · exact evF_list (evN_zeros (evI_cell (by rfl) (kHs.keeps wk.get) ⟨_, rfl⟩) (by omega))
  rw [filter_tt, rangeInts_map_const] at hM
  obtain ⟨rws, hR, F₃, hro⟩ := FS.addRows [(DS, items)] F₂ hM F.kt.get (fun p hp => by rw [List.mem_singleton.mp hp]; exact .inl List.mem_cons_self)
  refine sx_for F₃ (itP_zip (Gs F₃.kt.wk) (G.no _ g_zip) hh (ev_localL F₃ hnl (by rfl)) (ev_localL F₃ hpli (by rfl)) hna hpa) ⟨⟨by rfl, by rfl⟩, ⟨by rfl, by rfl⟩⟩ (fun b hb => ?_)
    (fun i mm cc ow => mm "places" = some (.int pl t₀) ∧ cc "heaps" = some (.int m t) ∧ mm "sums" = some (.ref DS) ∧ (DS, items) ∈ ow ∧ ∃ rws, DS ∉ rws.map (·.1) ∧ (∀ p ∈ rws, p ∈ ow) ∧ Rws rws items (((numbers.zip pages).take i).foldl (sumStep m pl) (List.replicate (pl + 1) (List.replicate m 0))))
    ⟨by rfl, by rfl, upd_same _ _ _, by simp, rws, fun hm => ?_, fun p hp => List.mem_append_left _ hp, hR⟩ ?_ ?_ (hcs := cs21 _)
  · simp at hb
    rcases hb with rfl | rfl
    · obtain ⟨o, e, _⟩ := hnl; exact ⟨o, e⟩
    · obtain ⟨o, e, _⟩ := hpli; exact ⟨o, e⟩
  · obtain ⟨p, hp, e⟩ := List.mem_map.mp hm
    exact (hro p hp).1 (by rw [show p.1 = DS from e]; exact List.mem_cons_self)
  · rintro i ⟨number, page⟩ m₁ m₁' cm₁ ow₁ s₄ hx ⟨h1, h2, h3, h4, rws', h5, h6, h7⟩ ⟨v₀, v₁, ⟨hv₀, hv₁⟩, rfl⟩ F₄
    have hzx := List.getElem?_zip_eq_some.mp hx
    have hnumb := hnb number (List.mem_of_getElem? hzx.1)
    have hpagb := hpb page (List.mem_of_getElem? hzx.2)
    have e1 : (upd (upd m₁ "number" v₀) "page" v₁) "places" = some (.int pl t₀) := (upd_other _ _ (by decide)).trans ((upd_other _ _ (by decide)).trans h1)
    have e3 : (upd (upd m₁ "number" v₀) "page" v₁) "sums" = some (.ref DS) := (upd_other _ _ (by decide)).trans ((upd_other _ _ (by decide)).trans h3)
    have e4 : (upd (upd m₁ "number" v₀) "page" v₁) "number" = some v₀ := (upd_other _ _ (by decide)).trans (upd_same _ _ _)
    have e5 : (upd (upd m₁ "number" v₀) "page" v₁) "page" = some v₁ := upd_same _ _ _
    generalize upd (upd m₁ "number" v₀) "page" v₁ = mA at F₄ e1 e3 e4 e5
    have hG₄ := Gs F₄.kt.wk
    refine sx_assign F₄ (P := fun v => IsI v ((page.length : Int).fmod m)) (evI_mod (evI_lenS hG₄ (hG₄.no _ g_len) ((ev_local F₄.fr.ns e5).mono fun v h e => e ▸ hv₁) hpagb) (evI_cell (by rfl) (F₄.cellAt (x := "heaps") (by rfl) h2) ⟨_, rfl⟩) (by omega)) ⟨by rfl, by rfl⟩ fun v₂ s₅ hv₂ F₅ => ?_
    have f1 := (upd_other mA v₂ (show ("places" : Str) ≠ "heap" by decide)).trans e1
    have f3 := (upd_other mA v₂ (show ("sums" : Str) ≠ "heap" by decide)).trans e3
    have f4 := (upd_other mA v₂ (show ("number" : Str) ≠ "heap" by decide)).trans e4
    have f5 := upd_same mA "heap" v₂
    generalize upd mA "heap" v₂ = mB at F₅ f1 f3 f4 f5
    have hk0 := Int.fmod_nonneg_of_pos (page.length : Int) (show (0 : Int) < m by omega)
    have hk1 := Int.fmod_lt_of_pos (page.length : Int) (show (0 : Int) < m by omega)
    have hsz : Sz m (pl + 1) (((numbers.zip pages).take i).foldl (sumStep m pl) (List.replicate (pl + 1) (List.replicate m 0))) := sz_foldl (fun S a h => sz_foldl (fun S a h => sz_step1 h) _ _ h) _ _ (sz_init m (pl + 1))
    have hfold := foldl_take (f := sumStep m pl) hx (List.replicate (pl + 1) (List.replicate m 0))
    generalize ((numbers.zip pages).take i).foldl (sumStep m pl) (List.replicate (pl + 1) (List.replicate m 0)) = S₀ at h7 hsz hfold
    refine sx_for F₅ (itP_range1 (Gs F₅.kt.wk) (G.no _ g_range) hh (N := pl + 1) (EvI.cast (evI_add (evI_local F₅ f1 ⟨_, rfl⟩) (evI_const 1 _ _)) (by simp)) (by omega)) ⟨by rfl, by rfl⟩ (fun b hb => by cases hb)
      (fun p mm cc ow => mm "places" = some (.int pl t₀) ∧ cc "heaps" = some (.int m t) ∧ mm "sums" = some (.ref DS) ∧ mm "number" = some v₀ ∧ mm "heap" = some v₂ ∧ (DS, items) ∈ ow ∧ ∃ rws, DS ∉ rws.map (·.1) ∧ (∀ p ∈ rws, p ∈ ow) ∧ Rws rws items (((rangeInts 0 1 (pl + 1)).take p).foldl (sumStep1 number ((page.length : Int).fmod m).toNat) S₀))
      ⟨f1, h2, f3, f4, f5, h4, rws', h5, h6, h7⟩ ?_ ?_ (hcs := cs21 _)
    · rintro p power mC mC' cc ow s₆ hx₁ ⟨k1, k2, k3, k4, k5, k6, rw₁, k7, k8, k9⟩ ⟨v₃, hv₃, rfl⟩ F₆
      have hpm : p < pl + 1 := by have := (List.getElem?_eq_some_iff.mp hx₁).1; rwa [rangeInts_length] at this
      have hpow : power = (p : Int) := by rw [rangeInts_get hpm] at hx₁; simp at hx₁; exact hx₁.symm
      have l1 := (upd_other mC v₃ (show ("places" : Str) ≠ "power" by decide)).trans k1
      have l3 := (upd_other mC v₃ (show ("sums" : Str) ≠ "power" by decide)).trans k3
      have l4 := (upd_other mC v₃ (show ("number" : Str) ≠ "power" by decide)).trans k4
      have l5 := (upd_other mC v₃ (show ("heap" : Str) ≠ "power" by decide)).trans k5
      have l6 := upd_same mC "power" v₃
      generalize upd mC "power" v₃ = mD at F₆ l1 l3 l4 l5 l6
      have hsz₁ : Sz m (pl + 1) (((rangeInts 0 1 (pl + 1)).take p).foldl (sumStep1 number ((page.length : Int).fmod m).toNat) S₀) := sz_foldl (fun S a h => sz_step1 h) _ _ hsz
      have hf := foldl_take (f := sumStep1 number ((page.length : Int).fmod m).toNat) hx₁ S₀
      generalize ((rangeInts 0 1 (pl + 1)).take p).foldl (sumStep1 number ((page.length : Int).fmod m).toNat) S₀ = S₁ at k9 hsz₁ hf
      obtain ⟨⟨T, its⟩, ns, r1, r2, r3⟩ := get_at k9.2.2 (i := p) (by rw [hsz₁.1]; exact hpm)
      have hnl' : ns.length = m := hsz₁.2 ns (List.mem_of_getElem? r2)
      have r3 : All2 IsI its ns := r3
      have hil : its.length = m := by rw [r3.length, hnl']
      obtain ⟨cv, cx, c1, c2, c3⟩ := get_at r3 (i := ((page.length : Int).fmod (m : Int)).toNat) (by omega)
      have hTow : (T, its) ∈ ow := k8 _ (List.mem_of_getElem? r1)
      have hitem : items[p]? = some (.ref T) := by rw [k9.1, List.getElem?_map, r1]; rfl
      refine sx_augItem F₆ hTow (ev_item (ev_own F₆ k6 l3) (evI_local F₆ l6 hv₃) (by rw [hpow]; exact Int.natCast_nonneg _) (by rw [hpow]; omega) (by rw [hpow]; exact hitem)) (evI_local F₆ l5 hv₂)
        (evI_pow (evI_local F₆ l4 hv₀) (evI_local F₆ l6 hv₃) (by rw [hpow]; exact Int.natCast_nonneg _) (by rw [hpow]; omega) hnumb) hk0 ⟨cv, c1, c3⟩ (by rw [hil]; omega) fun v s₇ hv F₇ => ?_
      have hTne : T ≠ DS := fun q => k7 (q ▸ List.mem_map.mpr ⟨_, List.mem_of_getElem? r1, rfl⟩)
      refine wpAny_execs_nil ⟨rfl, _, _, _, F₇, owx_set (Owx.refl _ _), l1, k2, l3, l4, l5, mem_setOw k6 (Ne.symm hTne), setOw T (its.set ((page.length : Int).fmod (m : Int)).toNat v) rw₁, by rw [setOw_fst]; exact k7, Rws.sub k8, ?_⟩
      rw [hf]
      have he : sumStep1 number ((page.length : Int).fmod m).toNat S₁ power = S₁.set p (ns.set ((page.length : Int).fmod m).toNat (cx + number ^ power.toNat)) := by
        unfold sumStep1 addAt
        rw [hpow, show ((p : Int)).toNat = p from rfl, List.getD_eq_getElem?_getD, r2]
        simp only [Option.getD_some]
        rw [List.getD_eq_getElem?_getD, c2]; rfl
      rw [he]
      exact k9.set r1 (r3.set hv _)
    · rintro mC cc ow s₆ F₆ ox ⟨k1, k2, k3, k4, k5, k6, rw₁, k7, k8, k9⟩
      rw [List.take_length] at k9
      refine wpAny_execs_nil ⟨rfl, _, _, _, F₆, owx_trans (Owx.refl _ _) F₅ (cs21 _) ox, k1, k2, k3, k6, rw₁, k7, k8, ?_⟩
      rw [hfold]
      exact k9
  · rintro m' cm' ow' s₄ F₄ ox ⟨h1, h2, h3, h4, rws', h5, h6, h7⟩
    rw [List.take_length] at h7
    refine sx_return (R := fun v h => LLI h v (sumsOf m pl numbers pages)) ((ev_own F₄ h4 h3).and (T := fun h => LLI h (.ref DS) (sumsOf m pl numbers pages)) ?_ (fun h h' k x => sb_LLI _ _ _ _ k x) |>.mono fun v h x => x.1.1 ▸ x.2) fun v s₄ hv k => ⟨hv, keeps_trans F₄.keeps k.k⟩
    refine ⟨DS, items.toArray, rfl, (F₄.own _ h4).1.isList, ?_⟩
    show All2 _ items _
    rw [h7.1]
    refine All2.mapLeft (fun p hp ns x => ?_) h7.2.2
    exact ⟨p.1, p.2.toArray, rfl, (F₄.own _ (h6 p hp)).1.isList, x⟩
end Law62

set_option maxRecDepth 100000
set_option linter.unusedVariables false
namespace Law62
open PySem PySem.W PySem.Calls PyProof.Rows

section
variable {w : World} {A : Around} {s : Shared} {env : Env} {E : Value → Shared → Prop} {R : Result → Shared → Prop}
variable {elt t0 i0 t1 i1 : Expr} {scope : Scope} {pos : Pos} {it acc : Value}

theorem turn_inner : compTurn (.ListComp elt [⟨t0, i0, [], 0⟩, ⟨t1, i1, [], 0⟩] scope pos) 1 it acc env = (do
      standAt i1.pos
      match ← pyNext it with
      | none => pure (.done .next)
      | some v =>
        letOwnedTupleGo t1 it v
        assign t1 env v
        (do let _ ← call (.builtin "list.append") [acc, ← eval elt env])
        again (.compLoop (.ListComp elt [⟨t0, i0, [], 0⟩, ⟨t1, i1, [], 0⟩] scope pos) 1 it acc env)) := by rfl
theorem turn_outer : compTurn (.ListComp elt [⟨t0, i0, [], 0⟩, ⟨t1, i1, [], 0⟩] scope pos) 0 it acc env = (do
      standAt i0.pos
      match ← pyNext it with
      | none => pure (.done .next)
      | some v =>
        letOwnedTupleGo t0 it v
        assign t0 env v
        let x ← eval i1 env
        standAt i1.pos
        let x ← foldedSetIterable i1 env x
        let _ ← runOwn (.compStart (.ListComp elt [⟨t0, i0, [], 0⟩, ⟨t1, i1, [], 0⟩] scope pos) 1 (← holding [x] (pyIter x)) acc env) env
        again (.compLoop (.ListComp elt [⟨t0, i0, [], 0⟩, ⟨t1, i1, [], 0⟩] scope pos) 0 it acc env)) := by rfl

theorem codeAny_inner (I : Nat → Shared → Prop)
    (turn : ∀ n s, I n s → wpAny (model pw w) A (pyNext it) (fun r s₁ => match r with
      | none => R (.ok .next) s₁
      | some v => wpAny (model pw w) A (letOwnedTupleGo t1 it v) (fun _ s₁' => wpAny (model pw w) A (assign t1 env v) (fun _ s₂ =>
          wpAny (model pw w) A (eval elt env) (fun x s₄ =>
              wpAny (model pw w) A (call (.builtin "list.append") [acc, x]) (fun _ s₅ => ∃ m, m < n ∧ I m s₅) (notedBy (model pw w) A env fun e s' => R (.error e) s') s₄) (notedBy (model pw w) A env fun e s' => R (.error e) s') s₂)
          (notedBy (model pw w) A env fun e s' => R (.error e) s') s₁') (notedBy (model pw w) A env fun e s' => R (.error e) s') s₁) (notedBy (model pw w) A env fun e s' => R (.error e) s') s)
    (n : Nat) (h : I n s) : codeAny (model pw w) A (.compLoop (.ListComp elt [⟨t0, i0, [], 0⟩, ⟨t1, i1, [], 0⟩] scope pos) 1 it acc env) R s := by
  refine codeAny_loop rfl I (fun n s hI => ?_) n h
  show wpAny _ A ((compTurn (.ListComp elt [⟨t0, i0, [], 0⟩, ⟨t1, i1, [], 0⟩] scope pos) 1 it acc env).onRaise (fun x => do noteFrame x env; theTreesLotGoes x)) _ _ s
  refine wpAny_noted ?_
  rw [turn_inner]
  refine wpAny_bind (wpAny_standAt (wpAny_bind (wpAny_mono (turn n s hI) (fun r s₁ h₁ => ?_) fun _ _ h' => h')))
  cases r with
  | none => exact wpAny_pure h₁
  | some v =>
    refine wpAny_bind (wpAny_mono h₁ (fun _ s₁' h₁' => ?_) fun _ _ h' => h')
    refine wpAny_bind (wpAny_mono h₁' (fun _ s₂ h₂ => ?_) fun _ _ h' => h')
    exact wpAny_bind (wpAny_bind (wpAny_mono h₂ (fun x s₄ h₄ => wpAny_bind (wpAny_mono h₄ (fun _ s₅ h₅ => wpAny_pure (wpAny_pure ⟨rfl, h₅⟩)) fun _ _ h' => h')) fun _ _ h' => h'))

theorem codeAny_outer (I : Nat → Shared → Prop)
    (turn : ∀ n s, I n s → wpAny (model pw w) A (pyNext it) (fun r s₁ => match r with
      | none => R (.ok .next) s₁
      | some v => wpAny (model pw w) A (letOwnedTupleGo t0 it v) (fun _ s₁' => wpAny (model pw w) A (assign t0 env v) (fun _ s₂ =>
          wpAny (model pw w) A (eval i1 env) (fun xv s₃ => wpAny (model pw w) A (pyIter xv) (fun it' s₄ =>
            codeAny (model pw w) A (.compStart (.ListComp elt [⟨t0, i0, [], 0⟩, ⟨t1, i1, [], 0⟩] scope pos) 1 it' acc env) (fun r s₅ => match r with | .ok f => ∃ m, m < n ∧ I m s₅ | .error e => cameBackBy (model pw w) A env (notedBy (model pw w) A env fun e s' => R (.error e) s') e s₅) s₄)
            (notedBy (model pw w) A env fun e s' => R (.error e) s') s₃) (notedBy (model pw w) A env fun e s' => R (.error e) s') s₂)
          (notedBy (model pw w) A env fun e s' => R (.error e) s') s₁') (notedBy (model pw w) A env fun e s' => R (.error e) s') s₁) (notedBy (model pw w) A env fun e s' => R (.error e) s') s)
    (n : Nat) (h : I n s) (hs : ∀ x, foldedSetIterable i1 env x = pure x := by intro _; rfl) : codeAny (model pw w) A (.compLoop (.ListComp elt [⟨t0, i0, [], 0⟩, ⟨t1, i1, [], 0⟩] scope pos) 0 it acc env) R s := by
  refine codeAny_loop rfl I (fun n s hI => ?_) n h
  show wpAny _ A ((compTurn (.ListComp elt [⟨t0, i0, [], 0⟩, ⟨t1, i1, [], 0⟩] scope pos) 0 it acc env).onRaise (fun x => do noteFrame x env; theTreesLotGoes x)) _ _ s
  refine wpAny_noted ?_
  rw [turn_outer]
  refine wpAny_bind (wpAny_standAt (wpAny_bind (wpAny_mono (turn n s hI) (fun r s₁ h₁ => ?_) fun _ _ h' => h')))
  cases r with
  | none => exact wpAny_pure h₁
  | some v =>
    refine wpAny_bind (wpAny_mono h₁ (fun _ s₁' h₁' => ?_) fun _ _ h' => h')
    refine wpAny_bind (wpAny_mono h₁' (fun _ s₂ h₂ => ?_) fun _ _ h' => h')
    refine wpAny_bind (wpAny_mono h₂ (fun x s₃ h₃ => wpAny_bind (wpAny_standAt (wpAny_bind (wpAny_of_eq (hs x) (wpAny_bind (wpAny_holding (wpAny_mono h₃ (fun it' s₄ h₄ => ?_) fun _ _ h' => h'))))))) fun _ _ h' => h')
    refine wpAny_bind (wpAny_runOwn (codeAny_mono h₄ fun r s₅ h₅ => ?_))
    cases r with
    | ok f => exact wpAny_pure ⟨rfl, h₅⟩
    | error e => exact h₅

theorem codeAny_start1 (h0 : codeAny (model pw w) A (.compLoop (.ListComp elt [⟨t0, i0, [], 0⟩, ⟨t1, i1, [], 0⟩] scope pos) 1 it acc env) R s)
    (h : wpAny (model pw w) A (pyIter it) (fun it' s' => codeAny (model pw w) A (.compLoop (.ListComp elt [⟨t0, i0, [], 0⟩, ⟨t1, i1, [], 0⟩] scope pos) 1 it' acc env) R s') (notedBy (model pw w) A env fun x s' => R (.error x) s') s) :
    codeAny (model pw w) A (.compStart (.ListComp elt [⟨t0, i0, [], 0⟩, ⟨t1, i1, [], 0⟩] scope pos) 1 it acc env) R s := by
  refine codeAny_of_tree ?_
  show wpAny _ _ ((compStart (.ListComp elt [⟨t0, i0, [], 0⟩, ⟨t1, i1, [], 0⟩] scope pos) 1 it acc env).onRaise (fun x => do noteFrame x env; standAt theWindowsPlace)) _ _ s
  refine wpAny_notedAt ?_
  unfold compStart
  show wpAny _ _ (ask >>= _) _ _ s
  refine wpAny_bind (wpAny_askSetting (wpAny_ite ?_))
  split
  · first
      | exact wpAny_bind (wpAny_pure (wpAny_pure (And.intro rfl h0)))
      | exact wpAny_pure (And.intro rfl h0)
  · first
      | exact wpAny_bind (wpAny_rule (wpAny_bind (wpAny_standAt (wpAny_bind (wpAny_mono h (fun it' s' h' => wpAny_pure (And.intro rfl h')) fun _ _ x => x)))))
      | (refine wpAny_bind (wpAny_rule ?_); show wpAny _ _ (standAt i1.pos >>= _) _ _ s; exact wpAny_bind (wpAny_standAt (wpAny_bind (wpAny_mono h (fun it' s' h' => wpAny_pure (And.intro rfl h')) fun _ _ x => x))))

/-- the inner loop: ints are appended, one for each entry of zs -/
theorem inner_block {ι : Type} {zs : List ι} {B : ι → (Str → Option Value) → (Str → Option Value) → Prop} {I D : Addr} {fp wr : List Addr} {St : Nat → Heap → Prop} {T₀ : Nat} {acc : Array Value} {m : Str → Option Value}
    (T : Trn w A t1 env (.ref I) zs B fp wr St T₀) (hT₀ : T₀ ≤ s.toks) (g : ι → Int) (inv : (Str → Option Value) → Prop) (hinv : ∀ z m m', inv m → B z m m' → inv m')
    (hDC : D ≠ env.locals) (hDf : D ∉ fp) (hCf : env.locals ∉ fp) (hst : St 0 s.heap) (hacc : s.heap.PlainList D acc) (hn : s.heap.Ns env.locals m) (hm : inv m) (hz : acc.size + zs.length ≤ 16000000)
    (helt : ∀ z m₁ m₂ s₃, z ∈ zs → inv m₁ → B z m₁ m₂ → s₃.heap.Ns env.locals m₂ → (∀ b o, b ≠ env.locals → b ≠ D → b ∉ wr → s.heap.get? b = some o → s₃.heap.get? b = some o) → s.toks ≤ s₃.toks → Gv w A (eval elt env) s₃ (fun v _ => IsI v (g z)))
    (hR : ∀ h' tk m' new, inv m' → h'.Ns env.locals m' → h'.PlainList D (acc ++ new) → All2 IsI new.toList (zs.map g) → (∀ b o, b ≠ env.locals → b ≠ D → b ∉ wr → s.heap.get? b = some o → h'.get? b = some o) → s.toks ≤ tk → R (.ok .next) { s with heap := h', toks := tk }) :
    codeAny (model pw w) A (.compLoop (.ListComp elt [⟨t0, i0, [], 0⟩, ⟨t1, i1, [], 0⟩] scope pos) 1 (.ref I) (.ref D) env) R s := by
  have hCw : env.locals ∉ wr := fun h => hCf (T.sub _ h)
  have hDw : D ∉ wr := fun h => hDf (T.sub _ h)
  refine codeAny_inner
    (fun n s₄ => ∃ h' tk m' new i, s₄ = { s with heap := h', toks := tk } ∧ St i h' ∧ h'.PlainList D (acc ++ new) ∧ h'.Ns env.locals m' ∧ inv m' ∧ All2 IsI new.toList ((zs.take i).map g) ∧ i ≤ zs.length ∧ n = zs.length + 1 - i ∧
      (∀ b o, b ≠ env.locals → b ≠ D → b ∉ wr → s.heap.get? b = some o → h'.get? b = some o) ∧ s.toks ≤ tk) ?_ (zs.length + 1)
    ⟨s.heap, s.toks, m, #[], 0, rfl, hst, by simpa using hacc, hn, hm, by simpa using All2.nil, Nat.zero_le _, rfl, fun _ _ _ _ _ e => e, Nat.le_refl _⟩
  rintro n s₄ ⟨H, tk, m', new, i, rfl, hst', hacc', hn', hm', hM, hi, rfl, hk, htk⟩
  by_cases hlt : i < zs.length
  · obtain ⟨z, hzx⟩ : ∃ z, zs[i]? = some z := ⟨zs[i], List.getElem?_eq_getElem hlt⟩
    have hzm : z ∈ zs := List.mem_of_getElem? hzx
    refine T.item i z _ m' _ _ _ hzx hst' hn' hCf (Nat.le_trans hT₀ htk) (fun v s₃ h₃ => h₃) fun h₂ tk₂ m₂ hB hn₂ hst₂ hk₂ htk₂ => ?_
    refine (helt z m' m₂ { s with heap := h₂, toks := tk₂ } hzm hm' hB hn₂ (fun b o q1 q2 q3 e => hk₂ b o q1 q3 (hk b o q1 q2 q3 e)) (Nat.le_trans htk htk₂)).here fun y s₅ hy kt₅ => ?_
    obtain ⟨⟨h₃, tk₃, rfl, hk₃⟩, htk₃⟩ := kt₅
    have hl₃ : h₃.PlainList D (acc ++ new) := hacc'.at fun o e => hk₃ _ o (hk₂ D o hDC hDw e)
    have hsz : (acc ++ new).size ≤ sizeLine := by
      have e1 := hM.length
      rw [List.length_map, List.length_take, Array.length_toList] at e1
      have : sizeLine = 16777216 := rfl
      rw [Array.size_append]; omega
    refine wpAny_list_append_plain (hsz := hsz) hl₃ fun h₅ hl₅ hs₅ => ?_
    refine ⟨zs.length + 1 - (i + 1), by omega, h₅, tk₃, _, new.push y, i + 1, rfl, T.frame _ _ _ hst₂ fun b hb o e => hs₅.extBut b o (fun q => hDf (q ▸ hb)) (hk₃ b o e), ?_, (hn₂.keeps hk₃).sameBut hs₅ (Ne.symm hDC), hinv z _ _ hm' hB, ?_, hlt, rfl,
      fun b o q1 q2 q3 e => hs₅.extBut b o q2 (hk₃ b o (hk₂ b o q1 q3 (hk b o q1 q2 q3 e))), Nat.le_trans htk (Nat.le_trans htk₂ htk₃)⟩
    · rw [Array.append_push]; exact hl₅
    · rw [List.take_add_one, hzx, List.map_append, Array.toList_push]
      exact hM.append (.cons hy .nil)
  · have hin : i = zs.length := by omega
    subst hin
    refine T.done _ _ _ hst' fun h₂ tk₂ hk₂ htk₂ => ?_
    rw [List.take_length] at hM
    exact hR h₂ tk₂ m' new hm' (hn'.at' fun o e => hk₂ _ o hCw e) (hacc'.at fun o e => hk₂ _ o hDw e) hM (fun b o q1 q2 q3 e => hk₂ b o q3 (hk b o q1 q2 q3 e)) (Nat.le_trans htk htk₂)
/-- the block of a list comprehension of two clauses, of ints -/
theorem comp_block2 {ι ι₂ : Type} {elt iter tgt i1 t1 : Expr} {scope : Scope} {cl : List (Str × Addr)} {pos : Pos} {ok : Env → Prop} {xs : List ι} {B : ι → (Str → Option Value) → (Str → Option Value) → Prop} {I : Addr} {fp wr : List Addr} {St : Nat → Heap → Prop} {s' s₂ : Shared}
    {zs : List ι₂} {ok₁ : Env → Prop} {B₁ : ι₂ → (Str → Option Value) → (Str → Option Value) → Prop} {src₁ : List Addr} (f : ι → ι₂ → Int) (hlen : xs.length * zs.length ≤ 15000000) (inv : ι → (Str → Option Value) → Prop) (hinv₀ : ∀ x m m', B x m m' → inv x m') (hinv : ∀ x z m m', inv x m → B₁ z m m' → inv x m') (hzl : zs.length ≤ 1000000)
    (hcell : ∀ y ∈ scope.names, y.2 ≠ .cell) (hkind : scope.kind = .function) (hok : ∀ C, ok (compEnvC scope cl C env))
    (hok₁ : ∀ C, ok₁ (compEnvC scope cl C env)) (hit₁ : ∀ C s₃, WK s s₃ → ItP w A (compEnvC scope cl C env) i1 s₃ t1 ok₁ zs B₁ src₁) (hsrc₁ : ∀ b ∈ src₁, ∃ o, s.heap.get? b = some o)
    (helt : ∀ C x z m m' s₃, x ∈ xs → z ∈ zs → WK s s₃ → inv x m → B₁ z m m' → s₃.heap.Ns C m' → Gv w A (eval elt (compEnvC scope cl C env)) s₃ (fun v _ => IsI v (f x z)))
    {T₀ : Nat} (hT : ∀ env', ok env' → Trn w A tgt env' (.ref I) xs B fp wr St T₀) (hT₀ : T₀ ≤ s₂.toks) (hst : St 0 s₂.heap) (hwr : ∀ b ∈ wr, s'.heap.get? b = none) (k : WK s s') (kt : KT s' s₂) {RR : Value → Addr → Result → Shared → Prop} (hs₁ : ∀ env' x, foldedSetIterable i1 env' x = pure x)
    (hRR : ∀ D C h₂ tk m' (ys : Array Value), D ≠ C → s₂.heap.get? D = none → s₂.heap.get? C = none → s'.heap.get? D = none → s'.heap.get? C = none → h₂.Ns C m' → h₂.PlainList D ys → All2 IsI ys.toList (xs.flatMap fun x => zs.map (f x)) → (∀ b o, b ∉ wr → s₂.heap.get? b = some o → h₂.get? b = some o) → s₂.toks ≤ tk →
      RR (.ref D) C (.ok .next) { s₂ with heap := h₂, toks := tk }) :
    wpAny (model pw w) A (newList []) (fun acc s₃ => wpAny (model pw w) A (newFunctionEnv scope env.globals cl [] env.qual none .none (some env)) (fun cenv s₄ =>
      codeAny (model pw w) A (.compStart (.ListComp elt [⟨tgt, iter, [], 0⟩, ⟨t1, i1, [], 0⟩] scope pos) 0 (.ref I) acc { cenv with scope := relabel scope env }) (RR acc cenv.locals) s₄) E s₃) E s₂ := by
  have live₀ : ∀ b ∈ fp, ∃ o, s₂.heap.get? b = some o := (hT _ (hok 0)).live 0 _ hst
  have hfp : ∀ b ∈ fp, b < s₂.heap.objs.size := fun b hb => let ⟨o, e⟩ := live₀ b hb; Heap.lt_size e
  refine wpAny_newObj_type (wpAny_newFunctionEnv hcell (by intro y hy; simp at hy) (fun h₁ hns₁ hsb₁ => ?_) hkind)
  dsimp only at hns₁ hsb₁ ⊢
  generalize hH2 : s₂.heap.push { cls := .type "list", dict := none, data := .seq ([] : List Value).toArray } = H2 at hns₁ hsb₁ ⊢
  have hC : H2.objs.size = s₂.heap.objs.size + 1 := by rw [← hH2, Heap.size_push]
  have hDC : s₂.heap.objs.size ≠ H2.objs.size := by rw [hC]; exact Nat.ne_of_lt (Nat.lt_succ_self _)
  have below : ∀ b, b < s₂.heap.objs.size → b ≠ H2.objs.size ∧ b ≠ s₂.heap.objs.size := fun b hb => ⟨by rw [hC]; exact Nat.ne_of_lt (Nat.lt_succ_of_lt hb), Nat.ne_of_lt hb⟩
  have hDf : s₂.heap.objs.size ∉ fp := fun hm => Nat.lt_irrefl _ (hfp _ hm)
  have hCf : H2.objs.size ∉ fp := fun hm => by have := hfp _ hm; rw [hC] at this; exact Nat.lt_irrefl _ (Nat.lt_of_succ_lt this)
  have old : ∀ b o, s₂.heap.get? b = some o → h₁.get? b = some o := fun b o e => hsb₁.extBut b o (below b (Heap.lt_size e)).1 (Heap.get?_push_of_some _ (hH2 ▸ Heap.get?_push_of_some _ e))
  have hacc : h₁.PlainList s₂.heap.objs.size #[] := ⟨_, hsb₁.extBut _ _ hDC (Heap.get?_push_of_some _ (hH2 ▸ Heap.get?_push_size _ rfl))⟩
  have fresh : ∀ a, s₂.heap.objs.size ≤ a → s'.heap.get? a = none := fun a ha => by
    cases e : s'.heap.get? a with
    | none => rfl
    | some o' => exact absurd (Heap.lt_size (kt.get _ _ e)) (Nat.not_lt.mpr ha)
  have T := hT _ (hok H2.objs.size)
  have hst₁ : St 0 h₁ := T.frame _ _ _ hst fun b _ o e => old b o e
  have hD₀ := fresh _ (Nat.le_refl _)
  have hC₀ := fresh H2.objs.size (by rw [hC]; exact Nat.le_succ _)
  have loop : ∀ s₃ : Shared, s₃ = { s₂ with heap := h₁, toks := s₂.toks + ([] : List (Str × Value)).length } →
      codeAny (model pw w) A (.compLoop (.ListComp elt [⟨tgt, iter, [], 0⟩, ⟨t1, i1, [], 0⟩] scope pos) 0 (.ref I) (.ref s₂.heap.objs.size) (compEnvC scope cl H2.objs.size env))
        (RR (.ref s₂.heap.objs.size) H2.objs.size) s₃ := by
    rintro s₃ rfl
    refine codeAny_outer
      (fun n s₄ => ∃ h' tk m' ys i, s₄ = { s₂ with heap := h', toks := tk } ∧ St i h' ∧ h'.PlainList s₂.heap.objs.size ys ∧ h'.Ns H2.objs.size m' ∧ All2 IsI ys.toList ((xs.take i).flatMap fun x => zs.map (f x)) ∧ i ≤ xs.length ∧ n = xs.length + 1 - i ∧
        (∀ b o, b ≠ H2.objs.size → b ≠ s₂.heap.objs.size → b ∉ wr → s₂.heap.get? b = some o → h'.get? b = some o) ∧ s₂.toks ≤ tk) ?_ (xs.length + 1)
      ⟨h₁, _, _, #[], 0, rfl, hst₁, hacc, hns₁, by simpa using All2.nil, Nat.zero_le _, rfl, fun b o _ _ _ e => old b o e, Nat.le_refl _⟩ (hs₁ _)
    rintro n s₄ ⟨H, tk, m', ys, i, rfl, hst', hacc', hn', hM, hi, rfl, hk, htk⟩
    have hCw : H2.objs.size ∉ wr := fun h => hCf (T.sub _ h)
    have hDw : s₂.heap.objs.size ∉ wr := fun h => hDf (T.sub _ h)
    by_cases hlt : i < xs.length
    · obtain ⟨x, hx⟩ : ∃ x, xs[i]? = some x := ⟨xs[i], List.getElem?_eq_getElem hlt⟩
      have hxm : x ∈ xs := List.mem_of_getElem? hx
      refine T.item i x _ m' _ _ _ hx hst' hn' hCf (Nat.le_trans hT₀ htk) (fun v s₃ h₃ => h₃) fun h₂ tk₂ m₂ hB hn₂ hst₂ hk₂ htk₂ => ?_
      have hk₂' : ∀ b o, b ≠ H2.objs.size → b ∉ wr → H.get? b = some o → h₂.get? b = some o := hk₂
      have up₂ : ∀ b o, s'.heap.get? b = some o → h₂.get? b = some o := fun b o e => hk₂' b o (fun q => by subst q; rw [hC₀] at e; cases e) (fun q => by rw [hwr b q] at e; cases e) (hk b o (fun q => by subst q; rw [hC₀] at e; cases e) (fun q => by subst q; rw [hD₀] at e; cases e) (fun q => by rw [hwr b q] at e; cases e) (kt.get _ _ e))
      have wk₂ : WK s { s₂ with heap := h₂, toks := tk₂ } := k.ww ⟨up₂, Nat.le_trans kt.t (Nat.le_trans htk htk₂)⟩
      have htake : (xs.take (i + 1)).flatMap (fun x => zs.map (f x)) = ((xs.take i).flatMap fun x => zs.map (f x)) ++ zs.map (f x) := by rw [List.take_add_one, hx, List.flatMap_append]; simp
      refine wpAny_mono (hit₁ H2.objs.size { s₂ with heap := h₂, toks := tk₂ } wk₂ { s₂ with heap := h₂, toks := tk₂ } (WK.refl _) _) (fun xv s₃ h₃ => wpAny_mono h₃ (fun it' s₄ h₄ => ?_) fun _ _ e => e) fun _ _ e => e
      obtain ⟨I₁, fp₁, wr₁, St₁, T₁, rfl, hT₁, hT₁₀, hst₁', hfp₁, hwr₁, kt₁⟩ := h₄
      have TT := hT₁ _ (hok₁ H2.objs.size)
      have lv : ∀ b ∈ fp₁, ∃ o, s₄.heap.get? b = some o := TT.live 0 _ hst₁'
      have liveC : ∃ o, h₂.get? H2.objs.size = some o := let ⟨o, es, ep, e, _⟩ := hn₂; ⟨o, e⟩
      have hl₂ : h₂.PlainList s₂.heap.objs.size ys := hacc'.at fun o e => hk₂' _ o hDC hDw e
      have srcOk : ∀ b ∈ src₁, ∃ o, s'.heap.get? b = some o := fun b hb => let ⟨o, e⟩ := hsrc₁ b hb; ⟨o, k.get b o e⟩
      have hC₁ : H2.objs.size ∉ fp₁ := fun h => by
        rcases hfp₁ _ h with q | q
        · obtain ⟨o, e⟩ := liveC; rw [show h₂.get? H2.objs.size = none from q] at e; cases e
        · obtain ⟨o, e⟩ := srcOk _ q; rw [hC₀] at e; cases e
      have hD₁ : s₂.heap.objs.size ∉ fp₁ := fun h => by
        rcases hfp₁ _ h with q | q
        · obtain ⟨nn, e⟩ := hl₂; rw [show h₂.get? s₂.heap.objs.size = none from q] at e; cases e
        · obtain ⟨o, e⟩ := srcOk _ q; rw [hD₀] at e; cases e
      have hfpw : ∀ b, b ∈ fp → b ∉ wr₁ := fun b hb q => by
        obtain ⟨o, e⟩ := T.live _ _ hst₂ b hb
        rw [show h₂.get? b = none from hwr₁ b q] at e; cases e
      have hys : ys.size + zs.length ≤ 16000000 := by
        have e1 := hM.length
        rw [Array.length_toList] at e1
        have e2 : ((xs.take i).flatMap fun x => zs.map (f x)).length ≤ xs.length * zs.length := by
          have : ∀ l : List ι, (l.flatMap fun x => zs.map (f x)).length = l.length * zs.length := fun l => by
            induction l with
            | nil => simp
            | cons a l ih => rw [List.flatMap_cons, List.length_append, ih, List.length_map, List.length_cons, Nat.succ_mul, Nat.add_comm]
          rw [this]
          exact Nat.mul_le_mul_right _ (by rw [List.length_take]; omega)
        omega
      have hinvx := hinv₀ x m' m₂ hB
      have hn₄ : s₄.heap.Ns H2.objs.size m₂ := hn₂.keeps kt₁.get
      have hl₄ : s₄.heap.PlainList s₂.heap.objs.size ys := hl₂.at fun o e => kt₁.get _ o e
      have loop1 : ∀ K : Shared → Prop, (∀ s₅, (∃ m, m < xs.length + 1 - i ∧ ∃ h' tk m' ys i, s₅ = { s₂ with heap := h', toks := tk } ∧ St i h' ∧ h'.PlainList s₂.heap.objs.size ys ∧ h'.Ns H2.objs.size m' ∧ All2 IsI ys.toList ((xs.take i).flatMap fun x => zs.map (f x)) ∧ i ≤ xs.length ∧ m = xs.length + 1 - i ∧
              (∀ b o, b ≠ H2.objs.size → b ≠ s₂.heap.objs.size → b ∉ wr → s₂.heap.get? b = some o → h'.get? b = some o) ∧ s₂.toks ≤ tk) → K s₅) →
          codeAny (model pw w) A (.compLoop (.ListComp elt [⟨tgt, iter, [], 0⟩, ⟨t1, i1, [], 0⟩] scope pos) 1 (.ref I₁) (.ref s₂.heap.objs.size) (compEnvC scope cl H2.objs.size env))
            (fun r s₅ => match r with
              | .ok f => K s₅
              | .error e => cameBackBy (model pw w) A (compEnvC scope cl H2.objs.size env) (notedBy (model pw w) A (compEnvC scope cl H2.objs.size env) fun e s' => RR (.ref s₂.heap.objs.size) H2.objs.size (.error e) s') e s₅) s₄ := by
        intro K hK
        refine inner_block TT hT₁₀ (f x) (inv x) (hinv x) hDC hD₁ hC₁ hst₁' hl₄ hn₄ hinvx hys (fun z m₃ m₄ s₅ hzm hi₃ hB₃ hn₅ hk₅ ht₅ => helt _ x z m₃ m₄ s₅ hxm hzm ?_ hi₃ hB₃ hn₅) ?_
        · refine ⟨fun b o e => ?_, Nat.le_trans wk₂.t (Nat.le_trans kt₁.t ht₅)⟩
          have e' := k.get b o e
          have e₂ := up₂ b o e'
          exact hk₅ b o (fun q => by have q : b = H2.objs.size := q; subst q; rw [hC₀] at e'; cases e') (fun q => by subst q; rw [hD₀] at e'; cases e') (fun q => by rw [show h₂.get? b = none from hwr₁ b q] at e₂; cases e₂) (kt₁.get b o e₂)
        · intro h₆ tk₆ m₆ new hi₆ hn₆ hl₆ hM₆ hk₆ htk₆
          obtain ⟨⟨h₅, t₅, e₅, kk₅⟩, htk₅⟩ := kt₁
          refine hK _ ⟨xs.length + 1 - (i + 1), by omega, h₆, tk₆, m₆, ys ++ new, i + 1, by rw [e₅], T.frame _ _ _ hst₂ fun b hb o e => hk₆ b o (fun q => hCf (by have q : b = H2.objs.size := q; rw [← q]; exact hb)) (fun q => hDf (q ▸ hb)) (hfpw b hb) ?_, hl₆, hn₆, ?_, hlt, rfl, fun b o q1 q2 q3 e => hk₆ b o q1 q2 (fun q => ?_) ?_, ?_⟩
          · rw [e₅]; exact kk₅ b o e
          · rw [htake, Array.toList_append]; exact hM.append hM₆
          · have : h₂.get? b = some o := hk₂' b o q1 q3 (hk b o q1 q2 q3 e)
            rw [show h₂.get? b = none from hwr₁ b q] at this; cases this
          · rw [e₅]; exact kk₅ b o (hk₂' b o q1 q3 (hk b o q1 q2 q3 e))
          · exact Nat.le_trans htk (Nat.le_trans htk₂ (Nat.le_trans htk₅ htk₆))
      exact codeAny_start1 (loop1 _ fun _ x => x) (TT.self _ _ _ hst₁' (loop1 _ fun _ x => x))
    · have hin : i = xs.length := by omega
      subst hin
      refine T.done _ _ _ hst' fun h₂ tk₂ hk₂ htk₂ => ?_
      rw [List.take_length] at hM
      have fresh₂ : ∀ a, s₂.heap.objs.size ≤ a → s₂.heap.get? a = none := fun a ha => get_size_none _ ha
      exact hRR _ _ h₂ tk₂ m' ys hDC (fresh₂ _ (Nat.le_refl _)) (fresh₂ _ (by rw [hC]; exact Nat.le_succ _)) hD₀ hC₀ (hn'.at' fun o e => hk₂ _ o hCw e) (hacc'.at fun o e => hk₂ _ o hDw e) hM
        (fun b o hb e => hk₂ b o hb (hk b o (fun q => by subst q; have := Heap.lt_size e; rw [hC] at this; exact absurd this (Nat.not_lt.mpr (Nat.le_succ _))) (fun q => by subst q; exact absurd (Heap.lt_size e) (Nat.lt_irrefl _)) hb e)) (Nat.le_trans htk htk₂)
  exact codeAny_compStart_list (loop _ rfl) (T.self _ _ _ hst₁ (loop _ rfl))

end
end Law62

set_option maxRecDepth 100000
set_option linter.unusedVariables false
namespace Law62
open PySem PySem.W PySem.Calls PyProof.Rows

section
variable {w : World} {A : Around} {s : Shared} {env : Env} {E : Value → Shared → Prop}
/-- x = [comprehension]; the whole goes by the road of the used value -/
theorem sx_assign_comp2 {ι ι₂ : Type} {s₀ : Shared} {m cm : Str → Option Value} {cs : List (Str × Addr)} {ow : List (Addr × List Value)} {hk : Heap} {elt iter tgt i1 t1 : Expr} {scope : Scope} {cl : List (Str × Addr)} {y : Str} {py pos spos : Pos} {ok : Env → Prop} {xs : List ι} {B : ι → (Str → Option Value) → (Str → Option Value) → Prop} {src : List Addr}
    {Q : Flow → Shared → Prop} {rest : List Stmt} (F : FS s₀ env.locals m cs cm ow hk s) (hit : ItP w A env iter s tgt ok xs B src) {zs : List ι₂} {ok₁ : Env → Prop} {B₁ : ι₂ → (Str → Option Value) → (Str → Option Value) → Prop} {src₁ : List Addr} (f : ι → ι₂ → Int) (hlen : xs.length * zs.length ≤ 15000000) (inv : ι → (Str → Option Value) → Prop) (hinv₀ : ∀ x m m', B x m m' → inv x m') (hinv : ∀ x z m m', inv x m → B₁ z m m' → inv x m') (hzl : zs.length ≤ 1000000)
    (hsw : swapsWith (.ListComp elt [⟨tgt, iter, [], 0⟩, ⟨t1, i1, [], 0⟩] scope pos) (some (.Name y py)) spos.line env = pure true) (hy : ok1 y env)
    (hclos : closureFor scope env = pure cl) (hcell : ∀ y ∈ scope.names, y.2 ≠ .cell) (hkind : scope.kind = .function) (hnames : ∀ y ∈ scope.names, y.2 = .local → scope.names.lookup y.1 = some .local) (hok : ∀ C, ok (compEnvC scope cl C env))
    (hok₁ : ∀ C, ok₁ (compEnvC scope cl C env)) (hit₁ : ∀ C s₃, WK s s₃ → ItP w A (compEnvC scope cl C env) i1 s₃ t1 ok₁ zs B₁ src₁) (hsrc₁ : ∀ b ∈ src₁, ∃ o, s.heap.get? b = some o)
    (helt : ∀ C x z m m' s₃, x ∈ xs → z ∈ zs → WK s s₃ → inv x m → B₁ z m m' → s₃.heap.Ns C m' → Gv w A (eval elt (compEnvC scope cl C env)) s₃ (fun v _ => IsI v (f x z)))
    (h : ∀ D items s', FS s₀ env.locals (upd m y (.ref D)) cs cm ((D, items) :: ow) hk s' → s.heap.get? D = none → All2 IsI items (xs.flatMap fun x => zs.map (f x)) → wpAny (model pw w) A (execs rest env) Q E s')
    (hs : ∀ x, foldedSetIterable iter env x = pure x := by intro _; rfl) (hs₁ : ∀ env' x, foldedSetIterable i1 env' x = pure x := by intro _ _; rfl) :
    wpAny (model pw w) A (execs (.Assign [.Name y py] (.ListComp elt [⟨tgt, iter, [], 0⟩, ⟨t1, i1, [], 0⟩] scope pos) spos :: rest) env) Q E s := by
  refine wpAny_execs_cons ?_
  rw [exec_Assign_Name_used _ _ _ _ hsw]
  refine wpAny_bind (wpAny_standAt (wpAny_bind ?_))
  show wpAny _ A (do let _ ← comprehension (.ListComp elt [⟨tgt, iter, [], 0⟩, ⟨t1, i1, [], 0⟩] scope pos) scope env _ (newList []) false (eval iter env) (some (assign (.Name y py) env))) _ _ s
  refine wpAny_bind (wpAny_mono (wpAny_comprehension_free (use := some (assign (.Name y py) env)) (Q := fun _ s' => wpAny (model pw w) A (execs rest env) Q E s') rfl hs hclos hkind hnames
    (wpAny_mono (hit s (WK.refl s) E) (fun xv s₁ h₁ => wpAny_mono h₁ (fun it s₂ h₂ => ?_) fun _ _ e => e) fun _ _ e => e)) (fun _ s' hq => wpAny_pure (wpAny_pure hq)) fun _ _ e => e)
  obtain ⟨I, fp, wr, St, T₀, rfl, hT, hT₀, hst, hfp', hwr, kt⟩ := h₂
  refine comp_block2 (hs₁ := hs₁) (RR := fun acc C => compPost (model pw w) A E (some (assign (.Name y py) env)) (fun _ s' => wpAny (model pw w) A (execs rest env) Q E s') acc C) f hlen inv hinv₀ hinv hzl hcell hkind hok hok₁ hit₁ hsrc₁ helt hT hT₀ hst hwr (WK.refl s) kt
    fun D C h₂ tk m' ys hDC hD hC hD₀ hC₀ hn hl hM hk₂ htk => ?_
  have F₂ := F.grow kt
  have hLs : ∃ o, s₂.heap.get? env.locals = some o := let ⟨o, es, ep, e, _⟩ := F₂.fr.ns; ⟨o, e⟩
  have hLC : env.locals ≠ C := by rintro rfl; obtain ⟨o, e⟩ := hLs; rw [hC] at e; cases e
  have hLD : env.locals ≠ D := by rintro rfl; obtain ⟨o, e⟩ := hLs; rw [hD] at e; cases e
  have old : ∀ b o, s.heap.get? b = some o → h₂.get? b = some o := fun b o e => hk₂ b o (fun q => by rw [hwr b q] at e; cases e) (kt.get _ _ e)
  have kt₂ : KT s { s₂ with heap := h₂, toks := tk } := by
    obtain ⟨⟨hh, tt, rfl, kk⟩, t⟩ := kt
    exact ⟨⟨_, _, rfl, old⟩, Nat.le_trans t htk⟩
  have F₃ := F.grow kt₂
  refine wpAny_assign_Name (wpAny_storeName_local hy.1 F₃.fr.ns (fun h₃ hn₃ hs₃ => ?_) hy.2)
  replace hs₃ : Heap.SameBut env.locals h₂ h₃ := hs₃
  refine ⟨m', hn.sameBut hs₃ (Ne.symm hLC), fun h₄ hs₄ => ?_⟩
  have F₄ : FS s₀ env.locals (upd m y (.ref D)) cs cm ow hk { s₂ with heap := h₃, toks := tk + 1 } := F₃.setLocal (Nat.le_succ tk) hn₃ hs₃
  have hCo : ∀ b, (∃ o, s.heap.get? b = some o) → b ≠ C := fun b ⟨o, e⟩ q => by subst q; rw [hC₀] at e; cases e
  have F₅ : FS s₀ env.locals (upd m y (.ref D)) cs cm ow hk { s₂ with heap := h₄, toks := tk + 1 } := by
    obtain ⟨⟨h₅, t₅, e₅⟩, tk', fr, cl', own, nd, ch⟩ := F₄
    obtain ⟨h₆, t₆, e₆⟩ := F₂.same
    refine ⟨⟨h₄, tk + 1, by rw [e₆]⟩, tk', ⟨fr.ns.sameBut hs₄ hLC, fun b o e => hs₄.extBut b o (hCo b ⟨o, F.fr.keep b o e⟩) (fr.keep b o e), fr.above⟩, ⟨fun n c e => ?_, cl'.apart, cl'.above⟩, fun q hq => ⟨(own q hq).1.at fun o e => hs₄.extBut _ o (hCo _ ?_) e, (own q hq).2⟩, nd,
      fun b o q1 q2 q3 e => hs₄.extBut b o (hCo b ⟨o, F.ch b o q1 q2 q3 e⟩) (ch b o q1 q2 q3 e)⟩
    · obtain ⟨o, e', d⟩ := cl'.cell n c e
      obtain ⟨o', e'', _⟩ := F.cl.cell n c e
      exact ⟨o, hs₄.extBut c o (hCo c ⟨o', e''⟩) e', d⟩
    · obtain ⟨o, e⟩ := (F.own q hq).1; exact ⟨_, e⟩
  have hfD := F.fresh hD₀
  refine h D ys.toList _ (F₅.addOwn ?_ hfD.1 hfD.2) hD₀ hM
  simpa using ((hl.at fun o e => hs₃.extBut _ o (Ne.symm hLD) e).at fun o e => hs₄.extBut _ o hDC e)
end

def nStep (ns row : List Int) : List Int := ns.flatMap fun n => row.map fun f => 16 * n + f
def numbersOf (lead : Int) (rows : List (List Int)) : List Int := rows.foldl nStep [lead]
theorem nStep_length (ns row : List Int) : (nStep ns row).length = ns.length * row.length := by
  unfold nStep
  induction ns with
  | nil => simp
  | cons a l ih => rw [List.flatMap_cons, List.length_append, ih, List.length_map, List.length_cons, Nat.succ_mul, Nat.add_comm]
theorem nums_length : ∀ (rows : List (List Int)) (ns : List Int), (∀ r ∈ rows, r.length ≤ 5) → (rows.foldl nStep ns).length ≤ ns.length * 5 ^ rows.length
  | [], ns, _ => by simp
  | r :: rows, ns, h => by
    rw [List.foldl_cons]
    refine Nat.le_trans (nums_length rows _ fun q hq => h q (List.mem_cons_of_mem _ hq)) ?_
    rw [nStep_length, List.length_cons, Nat.pow_succ, Nat.mul_comm (5 ^ rows.length) 5, ← Nat.mul_assoc]
    exact Nat.mul_le_mul_right _ (Nat.mul_le_mul_left _ (h r List.mem_cons_self))
theorem lk20 (P : Params) : (KE P).lookup 161 = some (fnO 20 "law_tr0062_01" 2271 160) := by kernel_rfl!
theorem ci20 (P : Params) : codeIn (KE P) (.ref 160) (fname 20) = true := by kernel_rfl!
theorem kp20 (P : Params) : keepIn (KE P) (.ref 161) = true := by kernel_rfl!
theorem cs20 (n : Nat) : ((cellsFrom n (fsc 20).names []).map (·.1)).Nodup := by
  have e : (cellsFrom n (fsc 20).names []).map (·.1) = (cellsFrom 0 (fsc 20).names []).map (·.1) := by rfl
  rw [e]; decide +kernel

theorem numbers_spec {w : World} {A : Around} {s : Shared} {mg mb : Str → Option Value} {n : Nat} (Rm' : Rm A (n + 1)) (G : Gd w mg mb s.heap) {rows : List (List Int)} {lead : Int} {rv : Value} {t : Tok} (hr : LLI s.heap rv rows)
    (hrow : ∀ r ∈ rows, r.length ≤ 5) (hlen : rows.length ≤ 5) :
    Gv w A (call (.ref 161) [.int lead t, rv]) s (fun v h => LI h v (numbersOf lead rows)) := by
  refine fn_call (i := 20) (binds := [("lead", .int lead t), ("rows", rv)]) Rm' G (lk20 _) (by rfl) (ci20 _) (by rfl) (by
    intro n x hx
    simp only [List.mem_cons, List.not_mem_nil, or_false] at hx
    rcases hx with rfl | rfl
    · left; rfl
    · left; rfl) (by rfl) (by rfl) (by rfl) fun s₁ R₁ F => ?_
  have hh := R₁.hh
  obtain ⟨ra, ritems, rfl, hri, hra⟩ := hr
  have Gs : ∀ {s' : Shared}, WK s s' → Gd w mg mb s'.heap := fun k => G.keeps k.get
  refine sx_assignN F (evN_ints (ns := [lead]) (.cons (evI_local F (by rfl) ⟨_, rfl⟩) .nil) (by simp)) ⟨by rfl, by rfl⟩ (fun D₀ items s₂ hP hfr F₂ => ?_)
  refine sx_forC F₂ (itPC_list hh (ev_localL F₂ hri (by rfl)) hra) ⟨by rfl, by rfl, by rfl⟩ (by rfl) (fun b hb => ?_)
    (fun i mm cc ow => mm "rows" = some (.ref ra) ∧ ∃ D its, mm "numbers" = some (.ref D) ∧ (D, its) ∈ ow ∧ All2 IsI its ((rows.take i).foldl nStep [lead]))
    ⟨by rfl, D₀, _, upd_same _ _ _, List.mem_cons_self, hP⟩ ?_ ?_ (hcs := cs20 _)
  · simp at hb; subst hb; obtain ⟨o, e, _⟩ := hri; exact ⟨o, e⟩
  · rintro i row v mm cc ow s₅ hx ⟨h1, D, its, h3, h4, h5⟩ ⟨rowa, rowits, rfl, hrl, hral⟩ F₅
    have hnl : ((rows.take i).foldl nStep [lead]).length ≤ 3125 := by
      refine Nat.le_trans (nums_length _ _ fun r hr => hrow r (List.mem_of_mem_take hr)) ?_
      rw [List.length_take]
      have : min i rows.length ≤ 5 := by omega
      calc [lead].length * 5 ^ (min i rows.length) = 5 ^ (min i rows.length) := by simp
        _ ≤ 5 ^ 5 := Nat.pow_le_pow_right (by decide) this
        _ = 3125 := by decide
    have hrl5 := hrow row (List.mem_of_getElem? hx)
    have hf := foldl_take (f := nStep) hx [lead]
    have kR := F₅.cellAt (x := "row") (by rfl) (upd_same cc "row" (.ref rowa))
    refine sx_assign_comp2 F₅ (itP_list (P := fun x v => IsI v x) hh (ev_own F₅ h4 h3) (by simpa using h5)) (fun x z => 16 * x + z) (Nat.le_trans (Nat.mul_le_mul hnl hrl5) (by decide)) (fun x m => ∃ v, m "number" = some v ∧ IsI v x)
      (fun x m m' ⟨v, hv, e⟩ => ⟨v, by rw [e]; exact upd_same _ _ _, hv⟩) (B₁ := B1 "figure" fun x v => IsI v x) (fun x z m m' ⟨v, hv, hi⟩ ⟨v', hv', e⟩ => ⟨v, by rw [e]; exact (upd_other _ _ (by decide)).trans hv, hi⟩) (Nat.le_trans hrl5 (by decide))
      (by rfl) ⟨by rfl, by rfl⟩ (by rfl) (by decide +kernel) (by rfl) (by decide +kernel) (fun C => ⟨by rfl, by rfl⟩) (ok₁ := ok1 "figure") (fun C => ⟨by rfl, by rfl⟩)
      (src₁ := [rowa]) (fun C s₆ wk => itP_list (P := fun x v => IsI v x) hh (ev_cellL (by rfl) (kR.keeps wk.get) (isList_keeps _ _ wk.get (isList_keeps _ _ F₅.kt.get hrl))) hral) (fun b hb => ?_)
      (fun C x z m m' s₆ hxm hzm wk ⟨v, hv, hi⟩ ⟨v', hv', e⟩ hn => ?_) fun D' its' s₆ F₆ hf₆ hM => ?_
    · simp at hb; subst hb; obtain ⟨o, e, _⟩ := isList_keeps _ _ F₅.kt.get hrl; exact ⟨o, e⟩
    · subst e
      have q1 : (upd m "figure" v') "number" = some v := (upd_other _ _ (by decide)).trans hv
      exact (evI_add (evI_mul (evI_const 16 _ _) ((ev_local hn q1).mono fun _ _ e => e ▸ hi) (IntMulOk.of_left (bits64 (by decide)))) ((ev_local hn (upd_same _ _ _)).mono fun _ _ e => e ▸ hv')) s₆ (WK.refl _)
    · refine wpAny_execs_nil ⟨rfl, _, _, _, F₆, owx_add (Owx.refl _ _) hf₆, (upd_other _ _ (by decide)).trans h1, D', its', upd_same _ _ _, List.mem_cons_self, ?_⟩
      rw [hf]
      exact hM
  · rintro m' cm' ow' s₄ F₄ ox ⟨h1, D, its, h3, h4, h5⟩
    rw [List.take_length] at h5
    exact sx_return (R := fun v h => LI h v (numbersOf lead rows)) ((ev_own F₄ h4 h3).mono fun v h x => ⟨D, _, x.1, x.2, h5⟩) fun v s₄ hv k => ⟨hv, keeps_trans F₄.keeps k.k⟩
end Law62

set_option maxRecDepth 100000
set_option linter.unusedVariables false
namespace Law62
open PySem PySem.W PySem.Calls PyProof.Rows

theorem lk71 (P : Params) : (KE P).lookup 71 = some (o_71 P) := by kernel_rfl!
def esS (P : Params) : Array (Int × Value) := match (o_71 P).data with | .set es _ _ => es | _ => #[]
def epS (P : Params) : Nat := match (o_71 P).data with | .set _ ep _ => ep | _ => 0
def tbS (P : Params) : SetTable := match (o_71 P).data with | .set _ _ t => t | _ => default
theorem data71 (P : Params) : (o_71 P).data = .set (esS P) (epS P) (tbS P) := rfl
def inB1 (P : Params) (k : Int) : Bool := (esS P).toList.any fun e => Value.isInt k e.2
theorem all71 (P : Params) : ((esS P).toList.all fun e => match e.2 with | .int k _ => e.1 == hashInt k && e.2.scannable | _ => false) = true := by kernel_rfl!
theorem fits71 (P : Params) : (tbS P).fits (esS P).size = true := by kernel_rfl!
theorem small71 (P : Params) : decide ((esS P).size < scanBound) = true := by kernel_rfl!
theorem setOf71 {w : World} {h : Heap} (hk : h.get? 71 = some (o_71 w.params)) : h.SetOf (intKind pw w) 71 (inB1 w.params) (esS w.params).size := by
  refine ⟨_, _, _, _, hk, ⟨rfl, rfl, rfl⟩, data71 _, fun e he => ?_, fun k => ?_, of_decide_eq_true (small71 _), fits71 _, rfl⟩
  · have := List.all_eq_true.mp (all71 w.params) e he
    split at this
    · rename_i k t heq
      rw [Bool.and_eq_true] at this
      exact ⟨⟨k, by rw [heq]; exact intKind_is _ _ _ _, eq_of_beq this.1⟩, this.2⟩
    · cases this
  · unfold inB1
    rw [List.any_eq_true]
    exact Iff.rfl

theorem lk81 (P : Params) : (KE P).lookup 81 = some (fnO 11 "cpy313.stringprep" 243 80) := by kernel_rfl!
theorem ci81 (P : Params) : codeIn (KE P) (.ref 80) (fname 11) = true := by kernel_rfl!
theorem kp81 (P : Params) : keepIn (KE P) (.ref 81) = true := by kernel_rfl!

theorem b1_spec {w : World} {A : Around} {s : Shared} {mg mb : Str → Option Value} {n : Nat} (Rm' : Rm A (n + 1)) (G : Gd w mg mb s.heap) (c : Nat) (t : Tok) :
    Gv w A (call (.ref 81) [.str ⟨#[c]⟩ t]) s (fun v _ => v = .bool (inB1 w.params c)) := by
  refine fn_call (i := 11) (binds := [("code", .str ⟨#[c]⟩ t)]) Rm' G (lk81 _) (by rfl) (ci81 _) (by rfl) (by
    intro n x hx
    simp only [List.mem_cons, List.not_mem_nil, or_false] at hx
    subst hx
    left; rfl) (by rfl) (by rfl) (by rfl) fun s₁ R₁ F => ?_
  have hG := G.keeps F.kt.get
  refine sx_return (R := fun v _ => v = .bool (inB1 w.params c)) (fun s' k E => wpAny_Compare1 ?_) fun v s' hv k => ⟨hv, keeps_trans F.keeps k.k⟩
  refine ((ev_call1 (R := fun v _ => IsI v (c : Int)) (ev_builtin hG (hG.no _ g_ord) (show bootBuiltins "ord" = some (.builtin "ord") by decide +kernel) (by decide)) (cb_builtin _) (ev_local F.fr.ns (by rfl)) (fun v s' k ev E => by
    subst ev
    exact P.ord_of_char ⟨⟨_, rfl⟩, keeps_toks _ _⟩)) s' k).here fun v s₂ ⟨u, ev⟩ k₂ => ?_
  subst ev
  refine EvP.at (ev_global hG (hG.yes _ g_b1)) (k.trans k₂) fun v s₃ ev k₃ => ?_
  subst ev
  have hk71 : s₃.heap.get? 71 = some (o_71 w.params) := (hG.keeps ((k.trans k₂).trans k₃).get).K 71 _ (lk71 _)
  exact wpAny_inSet_of (knd := intKind pw w) (k := (c : Int)) (intKind_is _ _ _ _) rfl (setOf71 hk71) ⟨rfl, keeps_trans (k₂.trans k₃).k (keeps_toks _ _)⟩
end Law62

set_option maxRecDepth 100000
set_option linter.unusedVariables false
namespace Law62
open PySem PySem.W PySem.Calls PyProof.Rows

theorem lk82 (P : Params) : (KE P).lookup 82 = some big12 := by kernel_rfl!
def esD : Array DictEntry := match big12.data with | .dict es _ => es | _ => #[]
def epD : Nat := match big12.data with | .dict _ ep => ep | _ => 0
theorem data82 : big12.data = .dict esD epD := by kernel_rfl!
theorem all82 : (esD.toList.all fun e => match e.key with | .int k _ => e.hash == hashInt k | _ => false) = true := by kernel_rfl!
theorem exact82 : big12.ExactDict := ⟨rfl, rfl, rfl⟩
theorem mapOf82 {w : World} {h : Heap} (hk : h.get? 82 = some big12) : h.MapOf (intKind pw w) 82 (findBy Value.isInt esD) := by
  refine ⟨_, _, _, hk, exact82, data82, fun e he => ?_, fun k => rfl⟩
  have := List.all_eq_true.mp all82 e (by simpa using he)
  split at this
  · rename_i k t heq
    exact ⟨k, by rw [heq]; exact intKind_is _ _ _ _, eq_of_beq this⟩
  · cases this

/-- what the table says of a sign -/
def b3Of (c : Nat) : Str := match findBy Value.isInt esD c with | some (.str x _) => x | _ => Txt.lower ⟨#[c]⟩
def b3Ok (c : Nat) : Bool := match findBy Value.isInt esD c with | some (.str _ _) => true | none => !Builtin.Str.tooLong (Txt.lower ⟨#[c]⟩).length | _ => false

theorem lk127 (P : Params) : (KE P).lookup 127 = some (fnO 13 "cpy313.stringprep" 243 126) := by kernel_rfl!
theorem ci127 (P : Params) : codeIn (KE P) (.ref 126) (fname 13) = true := by kernel_rfl!
theorem kp127 (P : Params) : keepIn (KE P) (.ref 127) = true := by kernel_rfl!

section
variable {w : World} {A : Around} {s : Shared} {env : Env}
theorem tv_notNone {e : Expr} {k : Nat} {cp pos : Pos} {P : Value → Prop} {b : Bool} (h : EvP w A env e s (fun v _ => P v)) (hb : ∀ v, P v → (∃ x t, v = .str x t ∧ b = true) ∨ (v = .none ∧ b = false)) (hm : behindInMarks .IsNot (.Constant .none k cp) = false := by with_unfolding_all rfl) :
    TvB w A env (.Compare e [.IsNot] [.Constant .none k cp] pos) s b := fun s' kk E =>
  wpAny_isTrue_Compare1 ((h s' kk).here fun v s₁ hp k₁ => by
    refine wpAny_of_eq (a := Value.none) rfl ?_
    rcases hb v hp with ⟨x, t, rfl, rfl⟩ | ⟨rfl, rfl⟩
    · exact isnot_str_none (wpAny_truthy_bool ⟨rfl, k₁.k⟩)
    · exact wpAny_isNot_self rfl (wpAny_truthy_bool ⟨rfl, k₁.k⟩)) hm
theorem evS_lower {o : Expr} {apos pos : Pos} {x : Str} (h : EvS w A env o s x) (hf : Builtin.Str.tooLong (Txt.lower x).length = false) (hbase : attributeBase o "lower" env (eval o env) = eval o env := by rfl) (hline : (apos.endLine == pos.line) = true := by rfl) :
    EvS w A env (.Call (.Attribute o "lower" apos) [] [] pos) s (Txt.lower x) := fun s' k E =>
  Call_method0 hbase hline ((h s' k).here fun v s₁ ⟨t, ev⟩ k₁ => by
    subst ev
    exact SB.lower hf ⟨⟨_, rfl⟩, keeps_trans k₁.k (keeps_toks _ _)⟩)
end

theorem b3_spec {w : World} {A : Around} {s : Shared} {mg mb : Str → Option Value} {n : Nat} (Rm' : Rm A (n + 1)) (G : Gd w mg mb s.heap) (c : Nat) (t : Tok) (hc : b3Ok c = true) :
    Gv w A (call (.ref 127) [.str ⟨#[c]⟩ t]) s (fun v _ => IsS v (b3Of c)) := by
  refine fn_call (i := 13) (binds := [("code", .str ⟨#[c]⟩ t)]) Rm' G (lk127 _) (by rfl) (ci127 _) (by rfl) (by
    intro n x hx
    simp only [List.mem_cons, List.not_mem_nil, or_false] at hx
    subst hx
    left; rfl) (by rfl) (by rfl) (by rfl) fun s₁ R₁ F => ?_
  have hG := G.keeps F.kt.get
  refine sx_assign F (P := fun v => v = (findBy Value.isInt esD c).getD .none) (fun s' k E => ?_) ⟨by rfl, by rfl⟩ fun v s₂ ev F₂ => ?_
  · refine wpAny_Call_method (T := "dict") (id := "dict.get") (by rfl) (by rfl) (by rfl) PySem.F.plainAttrs_dict PySem.F.slot_dict_get PySem.F.type_dict_get ?_
    refine EvP.at (ev_global hG (hG.yes _ g_b3)) k fun v s₂ ev k₂ => ?_
    subst ev
    have hk82 : s₂.heap.get? 82 = some big12 := (hG.keeps (k.trans k₂).get).K 82 _ (lk82 _)
    refine ⟨(mapOf82 (w := w) hk82).typeIs, (mapOf82 (w := w) hk82).noDict, ?_⟩
    refine callWith_builtin rfl (evalArgs_plain ?_)
    refine spliced_cons (EvP.at (ev_call1 (R := fun v _ => IsI v (c : Int)) (ev_builtin hG (hG.no _ g_ord) (show bootBuiltins "ord" = some (.builtin "ord") by decide +kernel) (by decide)) (cb_builtin _) (ev_local F.fr.ns (by rfl)) (fun v s' k ev E => by
      subst ev
      exact P.ord_of_char ⟨⟨_, rfl⟩, keeps_toks _ _⟩)) (k.trans k₂) fun v s₃ ⟨u, ev⟩ k₃ => spliced_nil ?_)
    subst ev
    have hk82' : s₃.heap.get? 82 = some big12 := k₃.get _ _ hk82
    exact call_meetsIn PySem.F.slot_dict_get (mapOf82 (w := w) hk82').typeIs PySem.F.entry_dict_get (PySem.F.args_dict_get_2 _ _) (meets_dict_get (intKind pw w) 82 (k := (c : Int)) (intKind_is _ _ _ _) rfl) ⟨_, mapOf82 hk82', ⟨rfl, keeps_trans (k₂.trans k₃).k (keeps_toks _ _)⟩⟩
  · have hr := ev_local (env := envF 13 s.heap.objs.size 127 126) (w := w) (A := A.deeper (envF 13 s.heap.objs.size 127 126)) (pos := default) F₂.fr.ns (upd_same _ "r" v)
    unfold b3Ok at hc
    cases hf : findBy Value.isInt esD (c : Int) with
    | none =>
      rw [hf] at ev hc
      refine sx_ifF0 (tv_notNone (P := fun y => y = v) (ev_local F₂.fr.ns (upd_same _ _ _)) fun y hy => .inr ⟨hy.trans ev, rfl⟩) fun s₃ k₃ => ?_
      refine sx_return (R := fun v _ => IsS v (b3Of c)) (EvP.mono (evS_lower (x := ⟨#[c]⟩) ((ev_local (F₂.grow k₃).fr.ns (show _ = some (.str ⟨#[c]⟩ t) from by rfl)).mono fun _ _ e => ⟨t, e⟩) (by simpa using hc)) fun v h x => ?_) fun v s' hv k => ⟨hv, keeps_trans (F₂.grow k₃).keeps k.k⟩
      unfold b3Of; rw [hf]; exact x
    | some y =>
      rw [hf] at ev hc
      cases y with
      | str x tx =>
        refine sx_ifT (tv_notNone (P := fun y => y = v) (ev_local F₂.fr.ns (upd_same _ _ _)) fun y hy => .inl ⟨x, tx, hy.trans ev, rfl⟩) fun s₃ k₃ => ?_
        refine sx_return (R := fun v _ => IsS v (b3Of c)) (EvP.mono (ev_local (F₂.grow k₃).fr.ns (upd_same _ _ _)) fun v' h e => ?_) fun v s' hv k => ⟨hv, keeps_trans (F₂.grow k₃).keeps k.k⟩
        unfold b3Of; rw [hf]; exact ⟨tx, e.trans ev⟩
      | _ => cases hc
end Law62

set_option maxRecDepth 100000
set_option linter.unusedVariables false
namespace Law62
open PySem PySem.W PySem.Calls PyProof.Rows

def escStep (x : Str) (p : Str × Str) : Str := if Txt.contains x p.1 then Txt.replace x p.1 p.2 else x

section
variable {w : World} {A : Around} {s s₀ : Shared} {env : Env} {Q : Flow → Shared → Prop} {E : Value → Shared → Prop} {m cm : Str → Option Value} {cs : List (Str × Addr)} {ow : List (Addr × List Value)} {hk : Heap} {rest : List Stmt}

/-- if c in text: text = text.replace(c, e) -/
theorem sx_esc {x c e : Str} {t : Tok} {j₁ j₂ j₃ : Nat} {p₁ p₂ p₃ p₄ p₅ p₆ p₇ p₈ p₉ q₁ q₂ : Pos} (F : FS s₀ env.locals m cs cm ow hk s) (hv : m "text" = some (.str x t)) (hx : x.length ≤ 1048576) (he : e.length ≤ 14) (hce : (c == e) = false) (hok : ok1 "text" env)
    (h : ∀ m' t' s', m' "text" = some (.str (escStep x (c, e)) t') → FS s₀ env.locals m' cs cm ow hk s' → wpAny (model pw w) A (execs rest env) Q E s')
    (hk' : env.scope.kind = .function := by rfl) (hline : (p₆.endLine == p₉.line) = true := by rfl) (hm : behindInMarks .In (.Name "text" p₂) = false := by with_unfolding_all rfl) :
    wpAny (model pw w) A (execs (.If (.Compare (.Constant (.str c) j₁ p₁) [.In] [.Name "text" p₂] p₃) [.Assign [.Name "text" p₄] (.Call (.Attribute (.Name "text" p₅) "replace" p₆) [.Constant (.str c) j₂ p₇, .Constant (.str e) j₃ p₈] [] p₉) q₁] [] q₂ :: rest) env) Q E s := by
  have hl : env.kindOf "text" = some .local := hok.1
  refine wpAny_execs_cons (wpAny_If (wpAny_isTrue_Compare1 (Constant_str ?_) hm))
  have F₁ : FS s₀ env.locals m cs cm ow hk { s with toks := s.toks + 1 } := F.grow ⟨keeps_toks _ _, Nat.le_succ _⟩
  refine EvP.at (ev_local F₁.fr.ns hv hk' hl) (WK.refl _) fun v s₂ ev k₂ => ?_
  subst ev
  have htk : 1 ≤ s₂.toks := Nat.le_trans (Nat.succ_le_succ (Nat.zero_le _)) k₂.t
  have F₂ := F₁.grow k₂
  refine SB.contains (wpAny_truthy_bool ?_)
  cases hc : Txt.contains x c with
  | false =>
    show wpAny _ A (execs [] env) _ E s₂
    refine wpAny_execs_nil (h m t s₂ ?_ F₂)
    unfold escStep; rw [hc]; exact hv
  | true =>
    show wpAny _ A (execs [_] env) _ E s₂
    have hst : starEach [.Constant (.str c) j₂ p₇, .Constant (.str e) j₃ p₈] env = [(false, eval (.Constant (.str c) j₂ p₇) env), (false, eval (.Constant (.str e) j₃ p₈) env)] := rfl
    refine wpAny_execs_cons (wpAny_Assign_Name (wpAny_Call_method (T := "str") (id := "str.replace") (by rfl) (by rfl) hline PySem.F.plainAttrs_str PySem.F.slot_str_replace PySem.F.type_str_replace (EvP.at (ev_local F₂.fr.ns hv hk' hl) (WK.refl _) fun v s₃ ev k₃ => ?_)) (by rfl))
    subst ev
    refine ⟨typeIs_str _ _ _, fun a e => (by cases e), ?_⟩
    rw [hst]
    refine callWith_builtin rfl (evalArgs_plain (spliced_cons (Constant_str (k := j₂) (pos := p₇) (spliced_cons (Constant_str (k := j₃) (pos := p₈) (spliced_nil ?_))))))
    have h3 := k₃.t
    refine wpAny_mono (wpAny_toks_of (n := s₃.toks) (Nat.le_succ_of_le (Nat.le_succ _)) (SC.replaceW (E := E) (Q := fun v s' => ∃ t' kk, v = .str (Txt.replace x c e) t' ∧ s' = { s₃ with toks := kk }) (by show s₃.toks ≠ 0; omega) (by show s₃.toks + 1 ≠ 0; omega) (by show s₃.toks ≠ s₃.toks + 1; omega) hce hx he fun t' kk => ⟨t', kk, rfl, rfl⟩)) (fun v s₄ y => ?_) fun _ _ y => y.2
    obtain ⟨hkk, t', kk, rfl, rfl⟩ := y
    have F₃ : FS s₀ env.locals m cs cm ow hk { s₃ with toks := kk } := (F₂.grow k₃).grow ⟨keeps_toks _ _, hkk⟩
    refine wpAny_storeName_local hok.1 F₃.fr.ns (fun h' hn hs' => wpAny_execs_nil ?_) hok.2
    refine h _ t' _ ?_ (F₃.setLocal (Nat.le_succ _) hn hs')
    unfold escStep; rw [hc]; exact upd_same _ _ _
end

def esc2 : List (Str × Str) := [("&", "&amp;"), ("<", "&lt;"), (">", "&gt;")]
def esc3 : List (Str × Str) := [("&", "&amp;"), ("<", "&lt;"), (">", "&gt;"), ("\"", "&quot;"), ("\x0d", "&#13;"), ("\n", "&#10;"), ("\t", "&#09;")]
def esc4 : List (Str × Str) := [("&", "&amp;"), (">", "&gt;"), ("\"", "&quot;")]
def esc5 : List (Str × Str) := [("&", "&amp;"), ("<", "&lt;"), (">", "&gt;"), ("\x0d", "&#xD;")]
def esc6 : List (Str × Str) := [("&", "&amp;"), ("<", "&lt;"), ("\"", "&quot;"), ("\t", "&#x9;"), ("\n", "&#xA;"), ("\x0d", "&#xD;")]
def escBy (hand : Nat) : List (Str × Str) := if hand = 0 then esc2 else if hand = 1 then esc3 else if hand = 2 then esc4 else if hand = 3 then esc5 else esc6

theorem lkE2 (P : Params) : (KE P).lookup 28 = some (fnO 2 "cpy313.xml.etree.ElementTree" 187 27) := by kernel_rfl!
theorem ciE2 (P : Params) : codeIn (KE P) (.ref 27) (fname 2) = true := by kernel_rfl!
theorem kpE2 (P : Params) : keepIn (KE P) (.ref 28) = true := by kernel_rfl!
theorem esc_spec2 {w : World} {A : Around} {s : Shared} {mg mb : Str → Option Value} {n : Nat} (Rm' : Rm A (n + 1)) (G : Gd w mg mb s.heap) (x : Str) (t : Tok) (hx : ∀ k, ((esc2.take k).foldl escStep x).length ≤ 1048576) :
    Gv w A (call (.ref 28) [.str x t]) s (fun v _ => IsS v (esc2.foldl escStep x)) := by
  refine fn_call (i := 2) (binds := [("text", .str x t)]) Rm' G (lkE2 _) (by rfl) (ciE2 _) (by rfl) (by
    intro n x hx
    simp only [List.mem_cons, List.not_mem_nil, or_false] at hx
    subst hx
    left; rfl) (by rfl) (by rfl) (by rfl) fun s₁ R₁ F => ?_
  refine wpAny_execs_cons (wpAny_Try_except ?_)
  refine sx_esc F (by rfl) (hx 0) (by decide) (by decide) ⟨by rfl, by rfl⟩ fun m0 t0 s0 h0 F0 => ?_
  refine sx_esc F0 h0 (hx 1) (by decide) (by decide) ⟨by rfl, by rfl⟩ fun m1 t1 s1 h1 F1 => ?_
  refine sx_esc F1 h1 (hx 2) (by decide) (by decide) ⟨by rfl, by rfl⟩ fun m2 t2 s2 h2 F2 => ?_
  exact sx_return (R := fun v _ => IsS v (esc2.foldl escStep x)) ((ev_local F2.fr.ns h2).mono fun v h e => ⟨t2, e⟩) fun v s' hv k => ⟨hv, keeps_trans F2.keeps k.k⟩

theorem lkE3 (P : Params) : (KE P).lookup 35 = some (fnO 3 "cpy313.xml.etree.ElementTree" 187 34) := by kernel_rfl!
theorem ciE3 (P : Params) : codeIn (KE P) (.ref 34) (fname 3) = true := by kernel_rfl!
theorem kpE3 (P : Params) : keepIn (KE P) (.ref 35) = true := by kernel_rfl!
theorem esc_spec3 {w : World} {A : Around} {s : Shared} {mg mb : Str → Option Value} {n : Nat} (Rm' : Rm A (n + 1)) (G : Gd w mg mb s.heap) (x : Str) (t : Tok) (hx : ∀ k, ((esc3.take k).foldl escStep x).length ≤ 1048576) :
    Gv w A (call (.ref 35) [.str x t]) s (fun v _ => IsS v (esc3.foldl escStep x)) := by
  refine fn_call (i := 3) (binds := [("text", .str x t)]) Rm' G (lkE3 _) (by rfl) (ciE3 _) (by rfl) (by
    intro n x hx
    simp only [List.mem_cons, List.not_mem_nil, or_false] at hx
    subst hx
    left; rfl) (by rfl) (by rfl) (by rfl) fun s₁ R₁ F => ?_
  refine wpAny_execs_cons (wpAny_Try_except ?_)
  refine sx_esc F (by rfl) (hx 0) (by decide) (by decide) ⟨by rfl, by rfl⟩ fun m0 t0 s0 h0 F0 => ?_
  refine sx_esc F0 h0 (hx 1) (by decide) (by decide) ⟨by rfl, by rfl⟩ fun m1 t1 s1 h1 F1 => ?_
  refine sx_esc F1 h1 (hx 2) (by decide) (by decide) ⟨by rfl, by rfl⟩ fun m2 t2 s2 h2 F2 => ?_
  refine sx_esc F2 h2 (hx 3) (by decide) (by decide) ⟨by rfl, by rfl⟩ fun m3 t3 s3 h3 F3 => ?_
  refine sx_esc F3 h3 (hx 4) (by decide) (by decide) ⟨by rfl, by rfl⟩ fun m4 t4 s4 h4 F4 => ?_
  refine sx_esc F4 h4 (hx 5) (by decide) (by decide) ⟨by rfl, by rfl⟩ fun m5 t5 s5 h5 F5 => ?_
  refine sx_esc F5 h5 (hx 6) (by decide) (by decide) ⟨by rfl, by rfl⟩ fun m6 t6 s6 h6 F6 => ?_
  exact sx_return (R := fun v _ => IsS v (esc3.foldl escStep x)) ((ev_local F6.fr.ns h6).mono fun v h e => ⟨t6, e⟩) fun v s' hv k => ⟨hv, keeps_trans F6.keeps k.k⟩

theorem lkE4 (P : Params) : (KE P).lookup 42 = some (fnO 4 "cpy313.xml.etree.ElementTree" 187 41) := by kernel_rfl!
theorem ciE4 (P : Params) : codeIn (KE P) (.ref 41) (fname 4) = true := by kernel_rfl!
theorem kpE4 (P : Params) : keepIn (KE P) (.ref 42) = true := by kernel_rfl!
theorem esc_spec4 {w : World} {A : Around} {s : Shared} {mg mb : Str → Option Value} {n : Nat} (Rm' : Rm A (n + 1)) (G : Gd w mg mb s.heap) (x : Str) (t : Tok) (hx : ∀ k, ((esc4.take k).foldl escStep x).length ≤ 1048576) :
    Gv w A (call (.ref 42) [.str x t]) s (fun v _ => IsS v (esc4.foldl escStep x)) := by
  refine fn_call (i := 4) (binds := [("text", .str x t)]) Rm' G (lkE4 _) (by rfl) (ciE4 _) (by rfl) (by
    intro n x hx
    simp only [List.mem_cons, List.not_mem_nil, or_false] at hx
    subst hx
    left; rfl) (by rfl) (by rfl) (by rfl) fun s₁ R₁ F => ?_
  refine wpAny_execs_cons (wpAny_Try_except ?_)
  refine sx_esc F (by rfl) (hx 0) (by decide) (by decide) ⟨by rfl, by rfl⟩ fun m0 t0 s0 h0 F0 => ?_
  refine sx_esc F0 h0 (hx 1) (by decide) (by decide) ⟨by rfl, by rfl⟩ fun m1 t1 s1 h1 F1 => ?_
  refine sx_esc F1 h1 (hx 2) (by decide) (by decide) ⟨by rfl, by rfl⟩ fun m2 t2 s2 h2 F2 => ?_
  exact sx_return (R := fun v _ => IsS v (esc4.foldl escStep x)) ((ev_local F2.fr.ns h2).mono fun v h e => ⟨t2, e⟩) fun v s' hv k => ⟨hv, keeps_trans F2.keeps k.k⟩

theorem lkE5 (P : Params) : (KE P).lookup 49 = some (fnO 5 "cpy313.xml.etree.ElementTree" 187 48) := by kernel_rfl!
theorem ciE5 (P : Params) : codeIn (KE P) (.ref 48) (fname 5) = true := by kernel_rfl!
theorem kpE5 (P : Params) : keepIn (KE P) (.ref 49) = true := by kernel_rfl!
theorem esc_spec5 {w : World} {A : Around} {s : Shared} {mg mb : Str → Option Value} {n : Nat} (Rm' : Rm A (n + 1)) (G : Gd w mg mb s.heap) (x : Str) (t : Tok) (hx : ∀ k, ((esc5.take k).foldl escStep x).length ≤ 1048576) :
    Gv w A (call (.ref 49) [.str x t]) s (fun v _ => IsS v (esc5.foldl escStep x)) := by
  refine fn_call (i := 5) (binds := [("text", .str x t)]) Rm' G (lkE5 _) (by rfl) (ciE5 _) (by rfl) (by
    intro n x hx
    simp only [List.mem_cons, List.not_mem_nil, or_false] at hx
    subst hx
    left; rfl) (by rfl) (by rfl) (by rfl) fun s₁ R₁ F => ?_
  refine wpAny_execs_cons (wpAny_Try_except ?_)
  refine sx_esc F (by rfl) (hx 0) (by decide) (by decide) ⟨by rfl, by rfl⟩ fun m0 t0 s0 h0 F0 => ?_
  refine sx_esc F0 h0 (hx 1) (by decide) (by decide) ⟨by rfl, by rfl⟩ fun m1 t1 s1 h1 F1 => ?_
  refine sx_esc F1 h1 (hx 2) (by decide) (by decide) ⟨by rfl, by rfl⟩ fun m2 t2 s2 h2 F2 => ?_
  refine sx_esc F2 h2 (hx 3) (by decide) (by decide) ⟨by rfl, by rfl⟩ fun m3 t3 s3 h3 F3 => ?_
  exact sx_return (R := fun v _ => IsS v (esc5.foldl escStep x)) ((ev_local F3.fr.ns h3).mono fun v h e => ⟨t3, e⟩) fun v s' hv k => ⟨hv, keeps_trans F3.keeps k.k⟩

theorem lkE6 (P : Params) : (KE P).lookup 56 = some (fnO 6 "cpy313.xml.etree.ElementTree" 187 55) := by kernel_rfl!
theorem ciE6 (P : Params) : codeIn (KE P) (.ref 55) (fname 6) = true := by kernel_rfl!
theorem kpE6 (P : Params) : keepIn (KE P) (.ref 56) = true := by kernel_rfl!
theorem esc_spec6 {w : World} {A : Around} {s : Shared} {mg mb : Str → Option Value} {n : Nat} (Rm' : Rm A (n + 1)) (G : Gd w mg mb s.heap) (x : Str) (t : Tok) (hx : ∀ k, ((esc6.take k).foldl escStep x).length ≤ 1048576) :
    Gv w A (call (.ref 56) [.str x t]) s (fun v _ => IsS v (esc6.foldl escStep x)) := by
  refine fn_call (i := 6) (binds := [("text", .str x t)]) Rm' G (lkE6 _) (by rfl) (ciE6 _) (by rfl) (by
    intro n x hx
    simp only [List.mem_cons, List.not_mem_nil, or_false] at hx
    subst hx
    left; rfl) (by rfl) (by rfl) (by rfl) fun s₁ R₁ F => ?_
  refine wpAny_execs_cons (wpAny_Try_except ?_)
  refine sx_esc F (by rfl) (hx 0) (by decide) (by decide) ⟨by rfl, by rfl⟩ fun m0 t0 s0 h0 F0 => ?_
  refine sx_esc F0 h0 (hx 1) (by decide) (by decide) ⟨by rfl, by rfl⟩ fun m1 t1 s1 h1 F1 => ?_
  refine sx_esc F1 h1 (hx 2) (by decide) (by decide) ⟨by rfl, by rfl⟩ fun m2 t2 s2 h2 F2 => ?_
  refine sx_esc F2 h2 (hx 3) (by decide) (by decide) ⟨by rfl, by rfl⟩ fun m3 t3 s3 h3 F3 => ?_
  refine sx_esc F3 h3 (hx 4) (by decide) (by decide) ⟨by rfl, by rfl⟩ fun m4 t4 s4 h4 F4 => ?_
  refine sx_esc F4 h4 (hx 5) (by decide) (by decide) ⟨by rfl, by rfl⟩ fun m5 t5 s5 h5 F5 => ?_
  exact sx_return (R := fun v _ => IsS v (esc6.foldl escStep x)) ((ev_local F5.fr.ns h5).mono fun v h e => ⟨t5, e⟩) fun v s' hv k => ⟨hv, keeps_trans F5.keeps k.k⟩

end Law62

set_option maxRecDepth 100000
set_option linter.unusedVariables false
namespace Law62
open PySem PySem.W PySem.Calls PyProof.Rows

section
variable {w : World} {A : Around} {s s₀ : Shared} {env : Env} {Q : Flow → Shared → Prop} {E : Value → Shared → Prop} {m cm : Str → Option Value} {cs : List (Str × Addr)} {ow : List (Addr × List Value)} {hk : Heap} {rest : List Stmt} {mg mb : Str → Option Value}

/-- e hands on a pair -/
def EvT (w : World) (A : Around) (env : Env) (e : Expr) (s : Shared) (P : Value → Value → Prop) : Prop :=
  ∀ s', WK s s' → ∀ E, wpAny (model pw w) A (eval e env) (fun v s'' => (∃ T v₀ v₁, v = .ref T ∧ s''.heap.IsTuple T #[v₀, v₁] ∧ P v₀ v₁) ∧ Keeps s' s'') E s'

/-- x, y = a pair, both names plain locals -/
theorem sx_assignT {n₀ n₁ : Str} {p₀ p₁ pt pos : Pos} {x1 : Nat} {value : Expr} {P : Value → Value → Prop} (hh : A.handled = none) (F : FS s₀ env.locals m cs cm ow hk s) (hv : EvT w A env value s P) (hok : ok2 n₀ n₁ env)
    (h : ∀ v₀ v₁ s', P v₀ v₁ → FS s₀ env.locals (upd (upd m n₀ v₀) n₁ v₁) cs cm ow hk s' → wpAny (model pw w) A (execs rest env) Q E s')
    (hs : swapsWithSole [.Tuple [.Name n₀ p₀, .Name n₁ p₁] x1 pt] value pos.line env = pure false := by rfl) (hw : swappedStores [.Tuple [.Name n₀ p₀, .Name n₁ p₁] x1 pt] value env = pure none := by rfl) :
    wpAny (model pw w) A (execs (.Assign [.Tuple [.Name n₀ p₀, .Name n₁ p₁] x1 pt] value pos :: rest) env) Q E s := by
  refine wpAny_execs_cons (Assign_Tuple (wpAny_mono (wpAny_toks_of (Nat.le_refl _) (hv s (WK.refl s) E)) (fun v s₁ y => ?_) fun _ _ e => e.2) hs hw)
  obtain ⟨ht, ⟨T, v₀, v₁, rfl, hT, hp⟩, kk⟩ := y
  have F₁ := F.grow ⟨kk, ht⟩
  refine wpAny_assign_Tuple hh hT rfl rfl fun h₃ hx₃ => ?_
  replace hx₃ : Heap.ExtBut s₁.heap.objs.size s₁.heap h₃ := hx₃
  have up₃ : ∀ b o, s₁.heap.get? b = some o → h₃.get? b = some o := fun b o x => hx₃ b o (Nat.ne_of_lt (Heap.lt_size x)) x
  have F₂ := F₁.grow (kt_heap up₃)
  show wpAny _ A (do holding [v₁] (assign (.Name n₀ p₀) env v₀); do holding [] (assign (.Name n₁ p₁) env v₁); pure ()) _ _ _
  refine wpAny_bind (wpAny_holding (wpAny_assign_Name (wpAny_storeName_local hok.1.1 F₂.fr.ns (fun h₄ hn₄ hs₄ => ?_) hok.1.2)))
  have F₃ := F₂.setLocal (Nat.le_succ _) hn₄ hs₄
  refine wpAny_bind (wpAny_holding (wpAny_assign_Name (wpAny_storeName_local hok.2.1 F₃.fr.ns (fun h₅ hn₅ hs₅ => wpAny_pure ?_) hok.2.2)))
  exact h v₀ v₁ _ hp (F₃.setLocal (Nat.le_succ _) hn₅ hs₅)

theorem ev_divmod {e₁ e₂ : Expr} {p pos : Pos} {a b : Int} (G : Gd w mg mb s.heap) (hn : mg "divmod" = none) (h1 : EvI w A env e₁ s a) (h2 : EvI w A env e₂ s b) (hb0 : b ≠ 0) (hp : Builtin.divisionGoesByPylong a b = false)
    (hg : env.globals = mainGlobals := by rfl) (hb : env.builtins = builtinsNs := by rfl) (hk : env.scope.kind = .function := by rfl) (hl : env.kindOf "divmod" = some .globalImplicit := by rfl)
    (hst : starEach [e₁, e₂] env = [(false, eval e₁ env), (false, eval e₂ env)] := by rfl) : EvT w A env (.Call (.Name "divmod" p) [e₁, e₂] [] pos) s (fun v₀ v₁ => IsI v₀ (a.fdiv b) ∧ IsI v₁ (a.fmod b)) :=
  ev_call2 (R := fun v h => ∃ T v₀ v₁, v = .ref T ∧ h.IsTuple T #[v₀, v₁] ∧ IsI v₀ (a.fdiv b) ∧ IsI v₁ (a.fmod b)) (ev_builtin G hn (show bootBuiltins "divmod" = some (.builtin "divmod") by decide +kernel) (by decide) hg hb hk hl) (cb_builtin _) h1 h2 (sb_pure _) (fun v₁ v₂ s' k ⟨t, ev⟩ ⟨t', ev'⟩ E => by
    subst ev ev'
    exact divmod_int hb0 ⟨⟨_, _, _, rfl, ⟨_, Heap.get?_push_size _ rfl, rfl, _, rfl⟩, ⟨_, rfl⟩, ⟨_, rfl⟩⟩, ⟨_, _, rfl, fun _ _ e => Heap.get?_push_of_some _ e⟩⟩ (.inl hp)) hst

/-- while, with a measure -/
theorem sx_while {test : Expr} {body : List Stmt} {pos : Pos} (F : FS s₀ env.locals m cs cm ow hk s) (J : Nat → (Str → Option Value) → Prop) (b : Nat → Bool) (k : Nat) (h0 : J k m)
    (htest : ∀ k m' s', J k m' → FS s₀ env.locals m' cs cm ow hk s' → TvB w A env test s' (b k))
    (step : ∀ k m' s', J k m' → b k = true → FS s₀ env.locals m' cs cm ow hk s' → wpAny (model pw w) A (execs body env) (fun f s₂ => f = .next ∧ ∃ m₂ k₂, k₂ < k ∧ FS s₀ env.locals m₂ cs cm ow hk s₂ ∧ J k₂ m₂) (fun _ _ => False) s')
    (hR : ∀ k m' s', J k m' → b k = false → FS s₀ env.locals m' cs cm ow hk s' → wpAny (model pw w) A (execs rest env) Q E s') : wpAny (model pw w) A (execs (.While test body [] pos :: rest) env) Q E s := by
  refine wpAny_execs_cons (wpAny_While ?_)
  refine codeAny_whileLoop (fun n s' => ∃ m', J n m' ∧ FS s₀ env.locals m' cs cm ow hk s') ?_ k ⟨m, h0, F⟩
  rintro n s' ⟨m', hJ, F'⟩
  refine (htest n m' s' hJ F').now fun s₂ k₂ => ?_
  have F₂ := F'.grow k₂
  cases hb : b n with
  | true =>
    rw [if_pos rfl]
    refine wpAny_mono (step n m' s₂ hJ hb F₂) (fun f s₃ y => ?_) fun _ _ e => e.elim
    obtain ⟨rfl, m₂, k₂, hlt, F₃, hJ₃⟩ := y
    exact ⟨k₂, hlt, m₂, hJ₃, F₃⟩
  | false =>
    rw [if_neg (by decide)]
    exact wpAny_execs_nil (hR n m' s₂ hJ hb F₂)

theorem tv_int {e : Expr} {a : Int} (h : EvI w A env e s a) (he : isTrue e env (eval e env) = (do let v ← eval e env; standAt e.pos; holding [v] (truthy v)) := by rfl) : TvB w A env e s (a != 0) := fun s' k E =>
  isTrue_plain ((h s' k).here fun v s₁ ⟨t, ev⟩ k₁ => by
    subst ev
    exact P.truthy_int ⟨rfl, k₁.k⟩) he

def IsB (v : Value) (b : Array UInt8) : Prop := ∃ t, v = .bytes b t
theorem evB_slice {e lo hi : Expr} {p pos : Pos} {b : Array UInt8} {x y : Int} (h : EvP w A env e s (fun v _ => IsB v b)) (hz : b.size ≤ 1000) (h1 : EvI w A env lo s x) (h2 : EvI w A env hi s y)
    (hs : ∀ o i, subscripted (.Slice (some lo) (some hi) none p) false o i = operate [i, o] (getItem o i) := by intro _ _; with_unfolding_all rfl) (ht : ∀ o r, letTemporaryGo e o r = pure () := by intro _ _; with_unfolding_all rfl) :
    EvP w A env (.Subscript e (.Slice (some lo) (some hi) none p) pos) s (fun v _ => IsB v (KBy.picked b (some x) (some y))) := fun s' k E => by
  refine Subscript_ ((h s' k).here fun v s₁ ⟨t, ev⟩ k₁ => wpAny_Slice ((evPart_int h1 s₁ (k.trans k₁)).here fun vl s₂ pl k₂ => (evPart_int h2 s₂ ((k.trans k₁).trans k₂)).here fun vu s₃ pu k₃ => evalPart_none_step ?_))
  subst ev
  have kk := (k₁.trans k₂).trans k₃
  refine tail_of_ItemOn ⟨"bytes", _, FB.slot_bytes_getitem.lookup, typeIs_bytes _ _ _, getItem_meets (typeIs_bytes _ _ _) (by decide) FB.slot_bytes_getitem FB.entry_bytes_getitem (FB.args_bytes_getitem_2 _ _) (KBc.meets_slice2 b t _ pl pu)
    ⟨Heap.IsSliceOf.new _ _ _ _, Nat.le_trans (KBc.size_picked_le b _ _) (by rw [sizeLine_eq]; omega), fun t' k => ⟨⟨t', rfl⟩, keeps_trans kk.k ⟨_, _, rfl, fun _ _ e => Heap.get?_push_of_some _ e⟩⟩⟩⟩ (hs _ _) (ht _)
theorem evB_add {l r : Expr} {pos : Pos} {b c : Array UInt8} (hl : EvP w A env l s (fun v _ => IsB v b)) (hr : EvP w A env r s (fun v _ => IsB v c)) (hz : b.size + c.size ≤ 1000) : EvP w A env (.BinOp l .Add r pos) s (fun v _ => IsB v (b ++ c)) :=
  ev_binop hl hr (fun _ _ _ _ _ x => x) fun va vb s' _ ⟨t, ea⟩ ⟨u, eb⟩ E => by
    subst ea eb
    exact KBy.add_bytes (by omega) fun t' k => ⟨⟨t', rfl⟩, keeps_toks _ _⟩
end
end Law62

set_option maxRecDepth 100000
set_option linter.unusedVariables false
namespace Law62
open PySem PySem.W PySem.Calls PyProof.Rows

/-- the digits of n, base 16, as letters; the empty text for 0 -/
def apd (n : Nat) : List UInt8 := if n = 0 then [] else apd (n / 16) ++ [UInt8.ofNat (65 + n % 16)]
termination_by n
decreasing_by omega
theorem apd_zero : apd 0 = [] := by rw [apd]; rfl
theorem apd_pos {n : Nat} (h : n ≠ 0) : apd n = apd (n / 16) ++ [UInt8.ofNat (65 + n % 16)] := by rw [apd, if_neg h]
theorem apd_len : ∀ (n k : Nat), n < 16 ^ k → (apd n).length ≤ k
  | n, 0, h => by simp at h; subst h; rw [apd_zero]; exact Nat.le_refl _
  | n, k + 1, h => by
    by_cases h0 : n = 0
    · subst h0; rw [apd_zero]; exact Nat.zero_le _
    · rw [apd_pos h0, List.length_append, List.length_singleton]
      have : n / 16 < 16 ^ k := Nat.div_lt_of_lt_mul (by rw [Nat.mul_comm, ← Nat.pow_succ]; exact h)
      exact Nat.succ_le_succ (apd_len _ k this)

def apB : Array UInt8 := #[65, 66, 67, 68, 69, 70, 71, 72, 73, 74, 75, 76, 77, 78, 79, 80]
theorem ap_cut : ∀ k : Fin 16, KBy.picked apB (some (k.val : Int)) (some ((k.val : Int) + 1)) = #[UInt8.ofNat (65 + k.val)] := by decide +kernel

theorem lk63 (P : Params) : (KE P).lookup 63 = some (fnO 8 "cpy313.imaplib" 231 62) := by kernel_rfl!
theorem ci63 (P : Params) : codeIn (KE P) (.ref 62) (fname 8) = true := by kernel_rfl!
theorem kp63 (P : Params) : keepIn (KE P) (.ref 63) = true := by kernel_rfl!

theorem ap_spec {w : World} {A : Around} {s : Shared} {mg mb : Str → Option Value} {n : Nat} (Rm' : Rm A (n + 1)) (G : Gd w mg mb s.heap) (x : Nat) (hx : x < 16 ^ 8) (t : Tok) :
    Gv w A (call (.ref 63) [.int (-(x : Int)) t]) s (fun v _ => IsB v (apd x).toArray) := by
  refine fn_call (i := 8) (binds := [("num", .int (-(x : Int)) t)]) Rm' G (lk63 _) (by rfl) (ci63 _) (by rfl) (by
    intro n x hx
    simp only [List.mem_cons, List.not_mem_nil, or_false] at hx
    subst hx
    left; rfl) (by rfl) (by rfl) (by rfl) fun s₁ R₁ F => ?_
  have hh := R₁.hh
  have Gs : ∀ {s' : Shared}, WK s s' → Gd w mg mb s'.heap := fun k => G.keeps k.get
  refine sx_assign F (P := fun v => IsB v #[]) (fun s' k E => Constant_bytes ⟨⟨_, rfl⟩, keeps_toks _ _⟩) ⟨by rfl, by rfl⟩ fun v₁ s₂ hv₁ F₂ => ?_
  refine sx_assign F₂ (P := fun v => IsB v apB) (fun s' k E => Constant_bytes ⟨⟨_, rfl⟩, keeps_toks _ _⟩) ⟨by rfl, by rfl⟩ fun v₂ s₃ hv₂ F₃ => ?_
  have hG₃ := Gs F₃.kt.wk
  refine sx_assign F₃ (P := fun v => IsI v (x : Int)) (ev_call1 (ev_builtin hG₃ (hG₃.no _ g_int) (show bootBuiltins "int" = some (.type "int") by decide +kernel) (by decide)) (cb_type _)
    (ev_call1 (R := fun v _ => IsI v (x : Int)) (ev_builtin hG₃ (hG₃.no _ g_abs) (show bootBuiltins "abs" = some (.builtin "abs") by decide +kernel) (by decide)) (cb_builtin _) (ev_local F₃.fr.ns (by rfl)) (fun v s' k ev E => by
      subst ev
      refine call_abs_int fun u tk => ⟨⟨u, ?_⟩, keeps_toks _ _⟩
      have : (if (-(x : Int)) < 0 then -(-(x : Int)) else -(x : Int)) = x := by split <;> omega
      rw [this]))
    (fun v s' k ⟨u, ev⟩ E => by subst ev; exact call_int_int ⟨⟨u, rfl⟩, keeps_refl _⟩)) ⟨by rfl, by rfl⟩ fun v₃ s₄ hv₃ F₄ => ?_
  refine sx_while F₄ (fun k m => ∃ vn vv va vb, m "num" = some vn ∧ IsI vn (k : Int) ∧ m "val" = some vv ∧ IsB vv vb ∧ m "AP" = some va ∧ IsB va apB ∧ k < 16 ^ 8 ∧ apd k ++ vb.toList = apd x) (fun k => (k : Int) != 0) x
    ⟨v₃, v₁, v₂, #[], upd_same _ _ _, hv₃, by rfl, hv₁, by rfl, hv₂, hx, by simp⟩ ?_ ?_ ?_
  · rintro k m' s' ⟨vn, vv, va, vb, h1, h2, h3, h4, h5, h6, h7, h8⟩ F'
    exact tv_int (evI_local F' h1 h2)
  · rintro k m' s' ⟨vn, vv, va, vb, h1, h2, h3, h4, h5, h6, h7, h8⟩ hb F'
    have hk0 : k ≠ 0 := fun q => by subst q; simp at hb
    have hG' := Gs F'.kt.wk
    refine sx_assignT hh F' (ev_divmod hG' (hG'.no _ g_divmod) (evI_local F' h1 h2) (evI_const 16 _ _) (by decide) (PyProof.noPylong_small (by decide))) ⟨⟨by rfl, by rfl⟩, ⟨by rfl, by rfl⟩⟩ fun w₀ w₁ s₅ ⟨hw₀, hw₁⟩ F₅ => ?_
    have e0 : (k : Int).fdiv 16 = ((k / 16 : Nat) : Int) := by rw [Int.fdiv_eq_ediv_of_nonneg _ (by decide)]; rfl
    have e1 : (k : Int).fmod 16 = ((k % 16 : Nat) : Int) := by rw [Int.fmod_eq_emod_of_nonneg _ (by decide)]; rfl
    rw [e0] at hw₀
    rw [e1] at hw₁
    have q1 : (upd (upd m' "num" w₀) "mod" w₁) "num" = some w₀ := (upd_other _ _ (by decide)).trans (upd_same _ _ _)
    have q2 : (upd (upd m' "num" w₀) "mod" w₁) "mod" = some w₁ := upd_same _ _ _
    have q3 : (upd (upd m' "num" w₀) "mod" w₁) "val" = some vv := (upd_other _ _ (by decide)).trans ((upd_other _ _ (by decide)).trans h3)
    have q4 : (upd (upd m' "num" w₀) "mod" w₁) "AP" = some va := (upd_other _ _ (by decide)).trans ((upd_other _ _ (by decide)).trans h5)
    have hcut := ap_cut ⟨k % 16, Nat.mod_lt _ (by decide)⟩
    have hvl : vb.size ≤ 8 := by
      have l1 : (apd k).length + vb.size = (apd x).length := (by simpa using congrArg List.length h8)
      have l2 := apd_len x 8 hx
      rw [← l1] at l2
      exact Nat.le_trans (Nat.le_add_left _ _) l2
    refine sx_assign F₅ (P := fun v => IsB v (#[UInt8.ofNat (65 + k % 16)] ++ vb)) (evB_add (hcut ▸ evB_slice ((ev_local F₅.fr.ns q4).mono fun v h e => e ▸ h6) (by decide) (evI_local F₅ q2 hw₁) (evI_add (evI_local F₅ q2 hw₁) (evI_const 1 _ _))) ((ev_local F₅.fr.ns q3).mono fun v h e => e ▸ h4) (by simp; omega)) ⟨by rfl, by rfl⟩ fun v₆ s₆ hv₆ F₆ => ?_
    refine wpAny_execs_nil ⟨rfl, _, k / 16, by omega, F₆, w₀, v₆, va, _, (upd_other _ _ (by decide)).trans q1, hw₀, upd_same _ _ _, hv₆, (upd_other _ _ (by decide)).trans q4, h6, by omega, ?_⟩
    rw [← h8, apd_pos hk0]
    simp
  · rintro k m' s' ⟨vn, vv, va, vb, h1, h2, h3, h4, h5, h6, h7, h8⟩ hb F'
    have hk0 : k = 0 := by simpa using hb
    subst hk0
    rw [apd_zero] at h8
    refine sx_return (R := fun v _ => IsB v (apd x).toArray) ((ev_local F'.fr.ns h3).mono fun v h e => ?_) fun v s' hv k => ⟨hv, keeps_trans F'.keeps k.k⟩
    rw [← h8, e]; simpa using h4
end Law62

set_option maxRecDepth 100000
set_option linter.unusedVariables false
namespace Law62
open PySem PySem.W PySem.Calls PyProof.Rows

section
variable {w : World} {A : Around} {s s₀ : Shared} {env : Env} {Q : Flow → Shared → Prop} {E : Value → Shared → Prop} {m cm : Str → Option Value} {cs : List (Str × Addr)} {ow : List (Addr × List Value)} {hk : Heap} {rest : List Stmt} {mg mb : Str → Option Value}

theorem evI_neg {e : Expr} {pos : Pos} {a : Int} (h : EvI w A env e s a) : EvI w A env (.UnaryOp .USub e pos) s (-a) := fun s' k E =>
  wpAny_UnaryOp ((h s' k).here fun v s₁ ⟨t, ev⟩ k₁ => by
    subst ev
    exact P.neg_int ⟨⟨_, rfl⟩, keeps_trans k₁.k (keeps_toks _ _)⟩)
theorem tv_not {e : Expr} {pos : Pos} {b : Bool} (h : TvB w A env e s b) : TvB w A env (.UnaryOp .Not e pos) s (!b) := fun s' k E =>
  wpAny_isTrue_Not ((h s' k).here fun c s₁ e k₁ => ⟨by rw [e], k₁.k⟩)
theorem tv_bool {e : Expr} {b : Bool} (h : EvP w A env e s (fun v _ => v = .bool b)) (he : isTrue e env (eval e env) = (do let v ← eval e env; standAt e.pos; holding [v] (truthy v)) := by rfl) : TvB w A env e s b := fun s' k E =>
  isTrue_plain ((h s' k).here fun v s₁ ev k₁ => by
    subst ev
    exact wpAny_truthy_bool ⟨rfl, k₁.k⟩) he

/-- x = value, x a cell -/
theorem sx_assignC {x : Str} {px pos : Pos} {c : Addr} {value : Expr} {P : Value → Prop} (F : FS s₀ env.locals m cs cm ow hk s) (hv : EvP w A env value s (fun v _ => P v)) (hx : okC x c env) (hcc : cs.lookup x = some c)
    (h : ∀ v s', P v → FS s₀ env.locals m cs (upd cm x v) ow hk s' → wpAny (model pw w) A (execs rest env) Q E s') (hs : swapsWith value (some (.Name x px)) pos.line env = pure false := by rfl) :
    wpAny (model pw w) A (execs (.Assign [.Name x px] value pos :: rest) env) Q E s :=
  wpAny_execs_cons (wpAny_Assign_Name (hv.now fun v s₁ r k => wpAny_storeName_cell hx.1 hx.2.1 hx.2.2 ((F.grow k).cl.cell x c hcc) fun h' hn hs' => h v _ r ((F.grow k).setCell hcc hn hs')) hs)
theorem sx_assignNC {x : Str} {px pos : Pos} {c : Addr} {value : Expr} {P : List Value → Prop} (F : FS s₀ env.locals m cs cm ow hk s) (hv : EvN w A env value s (fun vs _ => P vs)) (hx : okC x c env) (hcc : cs.lookup x = some c)
    (h : ∀ D items s', P items → s.heap.get? D = none → FS s₀ env.locals m cs (upd cm x (.ref D)) ((D, items) :: ow) hk s' → wpAny (model pw w) A (execs rest env) Q E s') (hs : swapsWith value (some (.Name x px)) pos.line env = pure false := by rfl) :
    wpAny (model pw w) A (execs (.Assign [.Name x px] value pos :: rest) env) Q E s := by
  refine wpAny_execs_cons (wpAny_Assign_Name (wpAny_mono (wpAny_toks_of (Nat.le_refl _) (hv s (WK.refl s) E)) (fun v s₁ y => ?_) fun _ _ e => e.2) hs)
  obtain ⟨ht, ⟨D, items, rfl, hl, hf, hp⟩, kk⟩ := y
  have k : KT s s₁ := ⟨kk, ht⟩
  have hfD := F.fresh hf
  have F₁ := (F.grow k).addOwn (D := D) (items := items.toList) (by simpa using hl) hfD.1 hfD.2
  exact wpAny_storeName_cell hx.1 hx.2.1 hx.2.2 (F₁.cl.cell x c hcc) fun h' hn hs' => h D _ _ hp hf (F₁.setCell hcc hn hs')

/-- sep.join(list of texts) -/
theorem evS_join {o e : Expr} {apos pos : Pos} {sep : Str} {xs : List Str} (ho : EvS w A env o s sep) (h : EvP w A env e s (fun v h => LS h v xs)) (hz : (xs.map (·.length)).sum + xs.length * sep.length ≤ 16777216)
    (hbase : attributeBase o "join" env (eval o env) = eval o env := by rfl) (hst : starEach [e] env = [(false, eval e env)] := by rfl) (hline : (apos.endLine == pos.line) = true := by rfl) :
    EvS w A env (.Call (.Attribute o "join" apos) [e] [] pos) s (Txt.join sep xs) := fun s' k E => by
  refine wpAny_Call_method (T := "str") (id := "str.join") hbase (by rw [hst]; rfl) hline PySem.F.plainAttrs_str PySem.F.slot_str_join PySem.F.type_str_join ((ho s' k).here fun v s₁ ⟨t, ev⟩ k₁ => ?_)
  subst ev
  refine ⟨typeIs_str _ _ _, fun a e => (by cases e), ?_⟩
  rw [hst]
  refine callWith_builtin rfl (evalArgs_plain (spliced_cons (h.at (k.trans k₁) fun v s₂ ⟨D, items, ev, hl, al⟩ k₂ => spliced_nil ?_)))
  subst ev
  exact join_list hl al.strs hz fun t' kk => ⟨⟨t', rfl⟩, keeps_trans (k₁.trans k₂).k (keeps_toks _ _)⟩

/-- a comprehension that makes texts -/
theorem ev_compS {ι : Type} {elt iter tgt : Expr} {ifs : List Expr} {scope : Scope} {cl : List (Str × Addr)} {pos : Pos} {ok : Env → Prop} {xs : List ι} {B : ι → (Str → Option Value) → (Str → Option Value) → Prop} {src : List Addr}
    (hit : ItP w A env iter s tgt ok xs B src) (p : ι → Bool) (f : ι → Str) (hlen : xs.length ≤ 1000000)
    (hclos : closureFor scope env = pure cl) (hcell : ∀ y ∈ scope.names, y.2 ≠ .cell) (hkind : scope.kind = .function) (hnames : ∀ y ∈ scope.names, y.2 = .local → scope.names.lookup y.1 = some .local) (hok : ∀ C, ok (compEnvC scope cl C env))
    (htest : ∀ C x m m' s₃, x ∈ xs → WK s s₃ → B x m m' → s₃.heap.Ns C m' → TsB w A (compEnvC scope cl C env) ifs s₃ (p x))
    (helt : ∀ C x m m' s₃, x ∈ xs → WK s s₃ → p x = true → B x m m' → s₃.heap.Ns C m' → EvS w A (compEnvC scope cl C env) elt s₃ (f x))
    (hs : ∀ x, foldedSetIterable iter env x = pure x := by intro _; rfl) :
    EvP w A env (.ListComp elt [⟨tgt, iter, ifs, 0⟩] scope pos) s (fun v h => LS h v ((xs.filter p).map f)) := fun s' k E =>
  wpAny_mono (comp_gen hit (fun k v _ => IsS v k) (own_pure _) p f hlen hclos hcell hkind hnames hok htest (fun C x m m' s₃ h1 h2 h3 h4 h5 => evF_pure (helt C x m m' s₃ h1 h2 h3 h4 h5) fun v ⟨t, e⟩ T => by rw [e]; exact fun h => by cases h) hs s' k E)
    (fun v s'' x => by
      obtain ⟨⟨D, it, e, l, f, M⟩, kk⟩ := x
      exact ⟨⟨D, it, e, l.isList, M.all⟩, kk⟩) fun _ _ e => e
end

def plainL : List Str := ["", "&", "fi", "<", "q", "tel", "\"", "", "ffi", ">", "tm", "\n", "a", "mhz", "\x0d", "\t"]
def plainAt (n p : Int) : Str := plainL.getD ((n.fdiv (16 ^ p.toNat)).fmod 16).toNat ""
def plainOf (places : Nat) (n : Int) : Str := Txt.join "" ((rangeInts places (-1) (places + 1)).map (plainAt n))
def plainAll (places : Nat) (ns : List Int) : Str := Txt.join " " (ns.map (plainOf places))
theorem plainL_len : ∀ x ∈ plainL, x.length ≤ 3 := by decide +kernel
theorem plainAt_len (n p : Int) : (plainAt n p).length ≤ 3 := by
  unfold plainAt
  rw [List.getD_eq_getElem?_getD]
  cases e : plainL[((n.fdiv (16 ^ p.toNat)).fmod 16).toNat]? with
  | none => decide
  | some x => exact plainL_len x (List.mem_of_getElem? e)
theorem join_len (sep : Str) (l : List Str) : (Txt.join sep l).length ≤ (l.map (·.length)).sum + l.length * sep.length := by
  rw [eq_of_beq (join_plain_closes sep l)]; exact StrLaws.join_length_le sep l
theorem sum_le {l : List Str} {k : Nat} (h : ∀ x ∈ l, x.length ≤ k) : (l.map (·.length)).sum ≤ l.length * k := by
  induction l with
  | nil => simp
  | cons a l ih =>
    rw [List.map_cons, List.sum_cons, List.length_cons, Nat.succ_mul, Nat.add_comm]
    exact Nat.add_le_add (ih fun x hx => h x (List.mem_cons_of_mem _ hx)) (h a List.mem_cons_self)
theorem plainOf_len (places : Nat) (n : Int) : (plainOf places n).length ≤ (places + 1) * 3 := by
  refine Nat.le_trans (join_len _ _) ?_
  have := sum_le (l := (rangeInts places (-1) (places + 1)).map (plainAt n)) (k := 3) fun x hx => by obtain ⟨p, _, rfl⟩ := List.mem_map.mp hx; exact plainAt_len _ _
  rw [List.length_map, rangeInts_length] at this
  rw [List.length_map, rangeInts_length]
  exact this
end Law62

set_option maxRecDepth 100000
set_option linter.unusedVariables false
namespace Law62
open PySem PySem.W PySem.Calls PyProof.Rows

theorem EvS.cast {w : World} {A : Around} {env : Env} {e : Expr} {s : Shared} {a b : Str} (h : EvS w A env e s a) (he : a = b) : EvS w A env e s b := he ▸ h
theorem lk144 (P : Params) : (KE P).lookup 144 = some (fnO 17 "law_tr0062_01" 2271 143) := by kernel_rfl!
theorem ci144 (P : Params) : codeIn (KE P) (.ref 143) (fname 17) = true := by kernel_rfl!
theorem kp144 (P : Params) : keepIn (KE P) (.ref 144) = true := by kernel_rfl!
theorem cs17 (n : Nat) : ((cellsFrom n (fsc 17).names []).map (·.1)).Nodup := by
  have e : (cellsFrom n (fsc 17).names []).map (·.1) = (cellsFrom 0 (fsc 17).names []).map (·.1) := by rfl
  rw [e]; decide +kernel
theorem down_size : ∀ p : Fin 6, Builtin.Range.rangeSize (p.val : Int) (-1) (-1) = ((p.val + 1 : Nat) : Int) ∧ Builtin.Range.small (p.val : Int) (-1) (-1) = true := by decide +kernel
theorem mem_down {p : Nat} {k : Int} (h : k ∈ rangeInts p (-1) (p + 1)) : 0 ≤ k ∧ k ≤ p := by
  obtain ⟨i, hi, rfl⟩ := List.mem_map.mp h
  have := List.mem_range.mp hi
  omega
theorem pow16_small : ∀ p : Fin 6, ((16 : Int) ^ p.val) ≠ 0 ∧ ((16 : Int) ^ p.val).natAbs < 1073741824 := by decide +kernel

theorem okC_mk {x : Str} {c : Addr} {env : Env} (h1 : env.scope.kind = .function) (h2 : env.kindOf x = some .cell) (h3 : env.cells.lookup x = some c) : okC x c env := ⟨h1, h2, h3⟩
theorem plain_spec {w : World} {A : Around} {s : Shared} {mg mb : Str → Option Value} {n : Nat} (Rm' : Rm A (n + 1)) (G : Gd w mg mb s.heap) {numbers : List Int} {nv : Value} {pl : Nat} {t : Tok} (hpl : pl ≤ 5) (hn : LI s.heap nv numbers) (hlen : numbers.length ≤ 3125) :
    Gv w A (call (.ref 144) [nv, .int pl t]) s (fun v _ => IsS v (plainAll pl numbers)) := by
  refine fn_call (i := 17) (binds := [("numbers", nv), ("places", .int pl t)]) Rm' G (lk144 _) (by rfl) (ci144 _) (by rfl) (by
    intro n x hx
    simp only [List.mem_cons, List.not_mem_nil, or_false] at hx
    rcases hx with rfl | rfl
    · left; rfl
    · left; rfl) (by rfl) (by rfl) (by rfl) fun s₁ R₁ F => ?_
  have hh := R₁.hh
  obtain ⟨na, nits, rfl, hnl, hna⟩ := hn
  have Gs : ∀ {s' : Shared}, WK s s' → Gd w mg mb s'.heap := fun k => G.keeps k.get
  show wpAny _ _ (execs (_ :: _) _) _ _ _
  with_reducible refine sx_assignNC F (P := fun vs => All2 IsS vs plainL) (evN_strs (constStrs (all2_constS (by with_unfolding_all rfl))) (by with_unfolding_all decide) (by with_unfolding_all rfl)) (okC_mk (by with_unfolding_all rfl) (by with_unfolding_all rfl) (by with_unfolding_all rfl)) (by with_unfolding_all rfl) (fun DP pits s₂ hP hfr F₂ => ?_) (by with_unfolding_all rfl)
  refine sx_assignN F₂ evN_nil ⟨by rfl, by rfl⟩ (fun DT items s₃ hT hfr₃ F₃ => ?_)
  subst hT
  have hDne : DT ≠ DP := fun q => by
    obtain ⟨k, e⟩ := (F₂.own _ List.mem_cons_self).1
    rw [q] at hfr₃; rw [show s₂.heap.get? DP = _ from e] at hfr₃; cases hfr₃
  refine sx_forC F₃ (itPC_list (P := fun x v => IsI v x) hh (ev_localL F₃ hnl (by rfl)) hna) ⟨by rfl, by rfl, by rfl⟩ (by rfl) (fun b hb => ?_)
    (fun i mm cc ow => mm "places" = some (.int pl t) ∧ mm "texts" = some (.ref DT) ∧ cc "plain" = some (.ref DP) ∧ (DP, pits) ∈ ow ∧ ∃ its, (DT, its) ∈ ow ∧ All2 IsS its ((numbers.take i).map (plainOf pl)))
    ⟨by rfl, upd_same _ _ _, upd_same _ _ _, by simp, [], List.mem_cons_self, by simpa using All2.nil⟩ ?_ ?_ (hcs := cs17 _)
  · simp at hb; subst hb; obtain ⟨o, e, _⟩ := hnl; exact ⟨o, e⟩
  · rintro i number v mm cc ow s₄ hx ⟨h1, h2, h3, h4, its, h5, h6⟩ hv F₄
    have hG₄ := Gs F₄.kt.wk
    have kN := F₄.cellAt (x := "number") (by rfl) (upd_same cc "number" v)
    have kP := F₄.cellAt (x := "plain") (v := .ref DP) (by rfl) ((upd_other _ _ (by decide)).trans h3)
    have hpl₄ := (F₄.own _ h4).1.isList
    have hds : Builtin.Range.rangeSize (pl : Int) (-1) (-1) = ((pl + 1 : Nat) : Int) ∧ Builtin.Range.small (pl : Int) (-1) (-1) = true := down_size ⟨pl, by omega⟩
    have hil : its.length ≤ 3125 := by have := h6.length; rw [List.length_map, List.length_take] at this; omega
    refine sx_append F₄ h5 (ev_local F₄.fr.ns h2) (P := fun v => IsS v (plainOf pl number)) (EvS.cast (evS_join (sep := "") (evS_const _ _ _)
      (ev_compS (itP_range hh (ev_range3 hG₄ (hG₄.no _ g_range) (evI_local F₄ h1 ⟨_, rfl⟩) (evI_neg (evI_const 1 _ _)) (evI_neg (evI_const 1 _ _)) (by decide) (PyProof.noPylong_small (by decide))) hds.2 hds.1) (fun _ => true) (plainAt number) (by rw [rangeInts_length]; omega)
        (by rfl) (by decide +kernel) (by rfl) (by decide +kernel) (fun C => ⟨by rfl, by rfl⟩) (fun C x m m' s₅ hx wk hB hn => tsB_nil) (fun C x m m' s₅ hx wk hp hB hn => ?_)) ?_) (by rw [filter_tt]; rfl)) (by omega) fun y s₅ hy F₅ => ?_
    · obtain ⟨v', hv', e⟩ := hB
      subst e
      have hb := mem_down hx
      obtain ⟨k, rfl⟩ := Int.eq_ofNat_of_zero_le hb.1
      have hk6 : k < 6 := by omega
      have hp := pow16_small ⟨k, hk6⟩
      have q0 := Int.fmod_nonneg_of_pos (number.fdiv (16 ^ ((k : Int)).toNat)) (show (0 : Int) < 16 by decide)
      have q1 := Int.fmod_lt_of_pos (number.fdiv (16 ^ ((k : Int)).toNat)) (show (0 : Int) < 16 by decide)
      refine evS_item (ns := plainL) ((ev_cellL (by rfl) (kP.keeps wk.get) (isList_keeps _ _ wk.get hpl₄)).mono fun v h x => ⟨DP, _, x.1, x.2, hP⟩)
        (evI_mod (evI_div (evI_cell (by rfl) (kN.keeps wk.get) hv) (evI_pow (evI_const 16 _ _) ((ev_local hn (upd_same _ _ _)).mono fun _ _ e => e ▸ hv') hb.1 (by omega) (by decide)) hp.1 (PyProof.noPylong_small hp.2)) (evI_const 16 _ _) (by decide)) q0 (Int.lt_trans q1 (by decide)) ?_
      unfold plainAt
      rw [List.getD_eq_getElem?_getD, List.getElem?_eq_getElem (by show _ < 16; omega)]; rfl
    · have := sum_le (l := (rangeInts pl (-1) (pl + 1)).map (plainAt number)) (k := 3) fun x hx => by obtain ⟨p, _, rfl⟩ := List.mem_map.mp hx; exact plainAt_len _ _
      rw [filter_tt]
      rw [List.length_map, rangeInts_length] at this
      rw [List.length_map, rangeInts_length]
      have e0 : ("" : Str).length = 0 := rfl
      rw [e0]; omega
    · refine wpAny_execs_nil ⟨rfl, _, _, _, F₅, owx_set (Owx.refl _ _), h1, h2, (upd_other _ _ (by decide)).trans h3, mem_setOw h4 (Ne.symm hDne), _, mem_setOw_self h5, ?_⟩
      rw [List.take_add_one, hx, List.map_append]
      exact h6.append (.cons hy .nil)
  · rintro m' cm' ow' s₄ F₄ ox ⟨h1, h2, h3, h4, its, h5, h6⟩
    rw [List.take_length] at h6
    refine sx_return (R := fun v _ => IsS v (plainAll pl numbers)) (evS_join (sep := " ") (evS_const _ _ _) ((ev_own F₄ h5 h2).mono fun v h x => ⟨DT, _, x.1, x.2, h6⟩) ?_) fun v s' hv k => ⟨hv, keeps_trans F₄.keeps k.k⟩
    have := sum_le (l := numbers.map (plainOf pl)) (k := 18) fun x hx => by obtain ⟨p, _, rfl⟩ := List.mem_map.mp hx; exact Nat.le_trans (plainOf_len _ _) (by omega)
    rw [List.length_map] at this ⊢
    have e0 : (" " : Str).length = 1 := rfl
    rw [e0]; omega
end Law62

set_option maxRecDepth 100000
set_option linter.unusedVariables false
namespace Law62
open PySem PySem.W PySem.Calls PyProof.Rows

def signsT : Str := ⟨#[0x200b, 0x26, 0xfb01, 0x3c, 0x51, 0x2121, 0x22, 0xad, 0xfb03, 0x3e, 0x2122, 0x0a, 0x1d400, 0x3392, 0x0d, 0x09]⟩
def signC (k : Nat) : Nat := signsT.cps.toList.getD k 0
theorem sign_item : ∀ k : Fin 16, Txt.item signsT (k.val : Int) = ⟨#[signC k.val]⟩ ∧ (Txt.charAt signsT (k.val : Int)).isSome = true := by decide +kernel
theorem b1_signs (P : Params) : (List.range 16).map (fun k => inB1 P (signC k : Int)) = [true, false, false, false, false, false, false, true, false, false, false, false, false, false, false, false] := by kernel_rfl!
/-- the table, as a list -/
def esL : List DictEntry := esD.toList
def findL (c : Nat) : Option Value := (esL.find? fun e => Value.isInt (c : Int) e.key).map (·.val)
theorem find_esL (c : Nat) : findBy Value.isInt esD (c : Int) = findL c := by
  unfold findBy findL esL
  rw [Array.find?_toList]
def b3OfL (c : Nat) : Str := match findL c with | some (.str x _) => x | _ => Txt.lower ⟨#[c]⟩
def b3OkL (c : Nat) : Bool := match findL c with | some (.str _ _) => true | none => !Builtin.Str.tooLong (Txt.lower ⟨#[c]⟩).length | _ => false
theorem b3Of_L (c : Nat) : b3Of c = b3OfL c := by unfold b3Of b3OfL; rw [find_esL]; all_goals rfl
theorem b3Ok_L (c : Nat) : b3Ok c = b3OkL c := by unfold b3Ok b3OkL; rw [find_esL]; all_goals rfl
theorem b3_signsL : (List.range 16).map (fun k => b3OkL (signC k) || k == 0 || k == 7) = List.replicate 16 true := by kernel_rfl!
theorem b3_plainL : (List.range 16).map (fun k => if k == 0 || k == 7 then ("" : Str) else b3OfL (signC k)) = plainL := by kernel_rfl!
theorem b3_signs : (List.range 16).map (fun k => b3Ok (signC k) || k == 0 || k == 7) = List.replicate 16 true := by
  rw [← b3_signsL]; simp only [b3Ok_L]
theorem b3_plain : (List.range 16).map (fun k => if k == 0 || k == 7 then ("" : Str) else b3Of (signC k)) = plainL := by
  rw [← b3_plainL]; simp only [b3Of_L]
theorem at_map {α : Type} {f : Nat → α} {l : List α} {n : Nat} (h : (List.range n).map f = l) {k : Nat} (hk : k < n) : l[k]? = some (f k) := by
  rw [← h, List.getElem?_map, List.getElem?_range hk]; rfl
theorem inB1_sign (P : Params) {k : Nat} (hk : k < 16) : inB1 P (signC k : Int) = (k == 0 || k == 7) := by
  have h := at_map (b1_signs P) hk
  have : ∀ k : Fin 16, [true, false, false, false, false, false, false, true, false, false, false, false, false, false, false, false][k.val]? = some (k.val == 0 || k.val == 7) := by decide
  rw [this ⟨k, hk⟩] at h
  exact (Option.some.inj h).symm
theorem b3Ok_sign {k : Nat} (hk : k < 16) (h0 : (k == 0 || k == 7) = false) : b3Ok (signC k) = true := by
  have h := at_map b3_signs hk
  rw [List.getElem?_replicate, if_pos hk] at h
  have h := Option.some.inj h
  rw [Bool.or_assoc, h0, Bool.or_false] at h
  exact h.symm
theorem b3_sign {k : Nat} (hk : k < 16) (h0 : (k == 0 || k == 7) = false) : b3Of (signC k) = plainL.getD k "" := by
  have h := at_map b3_plain hk
  rw [h0] at h
  rw [List.getD_eq_getElem?_getD, h]; rfl

/-- the digits of n, base 16 -/
def digs (n : Nat) : List Nat := (apd n).map fun c => c.toNat - 65
theorem apd_mem : ∀ (n : Nat) (c : UInt8), c ∈ apd n → 65 ≤ c.toNat ∧ c.toNat < 81 := by
  intro n
  induction n using Nat.strongRecOn with
  | ind n ih =>
    intro c hc
    by_cases h : n = 0
    · subst h; rw [apd_zero] at hc; cases hc
    · rw [apd_pos h, List.mem_append, List.mem_singleton] at hc
      rcases hc with hc | rfl
      · exact ih (n / 16) (by omega) c hc
      · have : n % 16 < 16 := Nat.mod_lt _ (by decide)
        rw [UInt8.toNat_ofNat']
        omega
def textOf (n : Nat) : Str := Txt.join "" (((digs n).filter fun k => !(k == 0 || k == 7)).map fun k => plainL.getD k "")
theorem digs_mem {n k : Nat} (h : k ∈ digs n) : k < 16 := by
  obtain ⟨c, hc, rfl⟩ := List.mem_map.mp h
  have := apd_mem n c hc
  omega
def escText (hand n : Nat) : Str := (escBy hand).foldl escStep (textOf n)
theorem textOf_len {n k : Nat} (h : n < 16 ^ k) : (textOf n).length ≤ k * 3 := by
  refine Nat.le_trans (join_len _ _) ?_
  have := sum_le (l := ((digs n).filter fun k => !(k == 0 || k == 7)).map fun k => plainL.getD k "") (k := 3) fun x hx => by
    obtain ⟨p, _, rfl⟩ := List.mem_map.mp hx
    rw [List.getD_eq_getElem?_getD]
    cases e : plainL[p]? with
    | none => exact Nat.zero_le _
    | some x => exact plainL_len x (List.mem_of_getElem? e)
  rw [List.length_map] at this
  have l2 : ((digs n).filter fun k => !(k == 0 || k == 7)).length ≤ k := Nat.le_trans (List.length_filter_le _ _) (by unfold digs; rw [List.length_map]; exact apd_len n k h)
  have e0 : ("" : Str).length = 0 := rfl
  rw [e0, Nat.mul_zero, Nat.add_zero]
  exact Nat.le_trans this (Nat.mul_le_mul_right _ l2)

end Law62

set_option maxRecDepth 100000
set_option linter.unusedVariables false
namespace Law62
open PySem PySem.W PySem.Calls PyProof.Rows

theorem lk132 (P : Params) : (KE P).lookup 132 = some (fnO 15 "law_tr0062_01" 2271 131) := by kernel_rfl!
theorem ci132 (P : Params) : codeIn (KE P) (.ref 131) (fname 15) = true := by kernel_rfl!
theorem kp132 (P : Params) : keepIn (KE P) (.ref 132) = true := by kernel_rfl!

theorem page_spec {w : World} {A : Around} {s : Shared} {mg mb : Str → Option Value} {n : Nat} (Rm' : Rm A (n + 2)) (G : Gd w mg mb s.heap) {N hand : Nat} {t₀ t : Tok} (hN : N < 16 ^ 8) (hh5 : hand < 5)
    (hx : ∀ k, (((escBy hand).take k).foldl escStep (textOf N)).length ≤ 1048576) :
    Gv w A (call (.ref 132) [.int N t₀, .int hand t]) s (fun v _ => IsS v (escText hand N)) := by
  refine fn_call (i := 15) (binds := [("number", .int N t₀), ("hand", .int hand t)]) Rm' G (lk132 _) (by rfl) (ci132 _) (by rfl) (by
    intro n x hx
    simp only [List.mem_cons, List.not_mem_nil, or_false] at hx
    rcases hx with rfl | rfl
    · left; rfl
    · left; rfl) (by rfl) (by rfl) (by rfl) fun s₁ R₁ F => ?_
  have hh := R₁.hh
  have Gs : ∀ {s' : Shared}, WK s s' → Gd w mg mb s'.heap := fun k => G.keeps k.get
  refine sx_assignC F (P := fun v => IsS v signsT) (evS_const _ _ _) ⟨by rfl, by rfl, by rfl⟩ (by rfl) fun v₁ s₂ hv₁ F₂ => ?_
  have hG₂ := Gs F₂.kt.wk
  have kS := F₂.cellAt (x := "signs") (by rfl) (upd_same _ "signs" v₁)
  refine sx_assign_comp F₂ (itP_bytes hh (ev_call1 (ev_global hG₂ (hG₂.yes _ g_ap)) (cb_def hG₂ (kp63 _)) (evI_neg (evI_local F₂ (by rfl) ⟨_, rfl⟩)) (fun v s' k hv => by
      obtain ⟨u, rfl⟩ := hv
      exact ap_spec R₁ (hG₂.keeps k.get) N hN u))) (fun k v _ => IsS v ⟨#[signC k]⟩) (own_pure _) (fun _ => true) (fun c => c.toNat - 65) (Nat.le_trans (apd_len N 8 hN) (by decide))
    (by rfl) ⟨by rfl, by rfl⟩ (by rfl) (by decide +kernel) (by rfl) (by decide +kernel) (fun C => ⟨by rfl, by rfl⟩) (fun C x mm mm' s₃ hx wk hB hn => tsB_nil) (fun C x mm mm' s₃ hx wk hp hB hn => ?_) fun DS items s₃ F₃ hf hM => ?_
  · obtain ⟨v', hv', e⟩ := hB
    subst e
    have hb := apd_mem N x (by simpa using hx)
    have hsi := sign_item ⟨x.toNat - 65, by omega⟩
    refine evF_pure (P := fun v => IsS v ⟨#[signC (x.toNat - 65)]⟩) (EvS.cast (evS_char (x := signsT) (k := ((x.toNat - 65 : Nat) : Int)) ((ev_cell (by rfl) (kS.keeps wk.get)).mono fun _ _ e => e ▸ hv₁)
      (EvI.cast (evI_sub ((ev_local hn (upd_same _ _ _)).mono fun _ _ e => e ▸ hv') (evI_const 65 _ _)) (by omega)) ?_ hsi.2) hsi.1) fun v ⟨t, e⟩ T => by rw [e]; exact fun h => by cases h
    unfold fitsSsize
    simp
    omega
  have hA : All2 (fun v k => IsS v ⟨#[signC k]⟩) items (digs N) := by
    have := hM.all
    rw [filter_tt] at this
    exact this
  have hG₃ := Gs F₃.kt.wk
  have m1 : (upd (bindL (envF 15 s.heap.objs.size 132 131).kindOf [("number", .int N t₀), ("hand", .int hand t)] fun _ => none) "shown" (.ref DS)) "hand" = some (.int hand t) := by rfl
  have hdl : (digs N).length ≤ 8 := by unfold digs; rw [List.length_map]; exact apd_len N 8 hN
  refine sx_assign F₃ (P := fun v => IsS v (textOf N)) (EvS.cast (b := textOf N) (evS_join (sep := "") (evS_const _ _ _) (ev_compS (itP_list (P := fun k v => IsS v ⟨#[signC k]⟩) hh (ev_own F₃ List.mem_cons_self (upd_same _ _ _)) hA) (fun k => !(k == 0 || k == 7)) (fun k => plainL.getD k "") (Nat.le_trans hdl (by decide))
    (by rfl) (by decide +kernel) (by rfl) (by decide +kernel) (fun C => ⟨by rfl, by rfl⟩) (fun C x mm mm' s₄ hx wk hB hn => ?_) (fun C x mm mm' s₄ hx wk hp hB hn => ?_)) ?_) rfl) ⟨by rfl, by rfl⟩ fun v₂ s₄ hv₂ F₄ => ?_
  · obtain ⟨v', ⟨u, hv'⟩, e⟩ := hB
    subst e hv'
    have hG₄ := hG₃.keeps wk.get
    refine tsB_one (tv_not (tv_bool (ev_call1 (ev_global hG₄ (hG₄.yes _ g_inb1)) (cb_def hG₄ (kp81 _)) (ev_local hn (upd_same _ _ _)) (fun v s' k ev => ?_))))
    subst ev
    exact (b1_spec R₁ (hG₄.keeps k.get) (signC x) u).mono fun v h e => by rw [e, inB1_sign _ (digs_mem hx)]
  · obtain ⟨v', ⟨u, hv'⟩, e⟩ := hB
    subst e hv'
    have hG₄ := hG₃.keeps wk.get
    have hp' : (x == 0 || x == 7) = false := by simpa using hp
    refine ev_call1 (ev_global hG₄ (hG₄.yes _ g_mapb3)) (cb_def hG₄ (kp127 _)) (ev_local hn (upd_same _ _ _)) (fun v s' k ev => ?_)
    subst ev
    exact (b3_spec R₁ (hG₄.keeps k.get) (signC x) u (b3Ok_sign (digs_mem hx) hp')).mono fun v h e => by rw [b3_sign (digs_mem hx) hp'] at e; exact e
  · have := sum_le (l := ((digs N).filter fun k => !(k == 0 || k == 7)).map fun k => plainL.getD k "") (k := 3) fun x hx => by
      obtain ⟨p, _, rfl⟩ := List.mem_map.mp hx
      rw [List.getD_eq_getElem?_getD]
      cases e : plainL[p]? with
      | none => exact Nat.zero_le _
      | some x => exact plainL_len x (List.mem_of_getElem? e)
    have l2 := List.length_filter_le (fun k => !(k == 0 || k == 7)) (digs N)
    have e0 : ("" : Str).length = 0 := rfl
    rw [List.length_map] at this ⊢
    rw [e0]; omega
  have hG₄ := Gs F₄.kt.wk
  have m2 := (upd_other (upd (bindL (envF 15 s.heap.objs.size 132 131).kindOf [("number", .int N t₀), ("hand", .int hand t)] fun _ => none) "shown" (.ref DS)) v₂ (show ("hand" : Str) ≠ "text" by decide)).trans m1
  have m3 := upd_same (upd (bindL (envF 15 s.heap.objs.size 132 131).kindOf [("number", .int N t₀), ("hand", .int hand t)] fun _ => none) "shown" (.ref DS)) "text" v₂
  obtain ⟨u₂, rfl⟩ := hv₂
  have tst : ∀ (k : Int) (p1 p2 p3 : Pos) (kk : Nat), TvB w (A.deeper (envF 15 s.heap.objs.size 132 131)) (envF 15 s.heap.objs.size 132 131) (.Compare (.Name "hand" p1) [.Eq] [.Constant (.int k) kk p2] p3) s₄ ((hand : Int) == k) := fun k p1 p2 p3 kk =>
    tv_eq (evI_local F₄ m2 ⟨_, rfl⟩) (evI_const _ _ _)
  have fin : ∀ (a : Addr) {name : Str} {y : Str} (hkp : keepIn (KE w.params) (.ref a) = true) (hg : ∀ P, nsFind (entG P) name = some (.ref a)) (sp : ∀ u s', WK s₄ s' → Gv w (A.deeper (envF 15 s.heap.objs.size 132 131)) (call (.ref a) [.str (textOf N) u]) s' (fun v _ => IsS v y))
      (p1 p2 p3 p4 : Pos) (rest : List Stmt) (Q : Flow → Shared → Prop) (E : Value → Shared → Prop) (s' : Shared) (kk : KT s₄ s') (hQ : ∀ v s'', IsS v y → Keeps s s'' → Q (.ret v) s'') (hl : (envF 15 s.heap.objs.size 132 131).kindOf name = some .globalImplicit) (hd : (name == ("__debug__" : Str)) = false),
      wpAny (model pw w) (A.deeper (envF 15 s.heap.objs.size 132 131)) (execs (.Return (some (.Call (.Name name p1) [.Name "text" p2] [] p3)) p4 :: rest) (envF 15 s.heap.objs.size 132 131)) Q E s' := fun a name y hkp hg sp p1 p2 p3 p4 rest Q E s' kk hQ hl hd => by
    have hG' := hG₄.keeps kk.get
    have F' := F₄.grow kk
    refine sx_return (R := fun v _ => IsS v y) (ev_call1 (ev_global hG' (hG'.yes _ hg) (hl := hl) (hd := hd)) (cb_def hG' hkp) (ev_local F'.fr.ns m3) (fun v s'' k ev => ?_)) fun v s'' hv k => hQ v s'' hv (keeps_trans F'.keeps k.k)
    subst ev
    exact sp _ _ (kk.wk.ww k)
  have hc : hand = 0 ∨ hand = 1 ∨ hand = 2 ∨ hand = 3 ∨ hand = 4 := by omega
  rcases hc with rfl | rfl | rfl | rfl | rfl
  · refine sx_ifT (tst 0 _ _ _ _) fun r0 k0 => ?_
    have c0 := k0
    exact fin 28 (kpE2 _) g_esc1 (fun u s' k => esc_spec2 R₁ (hG₄.keeps k.get) _ u hx) _ _ _ _ _ _ _ _ c0 (fun v s'' hv k => ⟨hv, k⟩) (by rfl) (by decide)
  · refine sx_ifF0 (tst 0 _ _ _ _) fun r0 k0 => ?_
    have c0 := k0
    refine sx_ifT ((tst 1 _ _ _ _).grow c0) fun r1 k1 => ?_
    have c1 := c0.trans k1
    exact fin 35 (kpE3 _) g_esc2 (fun u s' k => esc_spec3 R₁ (hG₄.keeps k.get) _ u hx) _ _ _ _ _ _ _ _ c1 (fun v s'' hv k => ⟨hv, k⟩) (by rfl) (by decide)
  · refine sx_ifF0 (tst 0 _ _ _ _) fun r0 k0 => ?_
    have c0 := k0
    refine sx_ifF0 ((tst 1 _ _ _ _).grow c0) fun r1 k1 => ?_
    have c1 := c0.trans k1
    refine sx_ifT ((tst 2 _ _ _ _).grow c1) fun r2 k2 => ?_
    have c2 := c1.trans k2
    exact fin 42 (kpE4 _) g_esc3 (fun u s' k => esc_spec4 R₁ (hG₄.keeps k.get) _ u hx) _ _ _ _ _ _ _ _ c2 (fun v s'' hv k => ⟨hv, k⟩) (by rfl) (by decide)
  · refine sx_ifF0 (tst 0 _ _ _ _) fun r0 k0 => ?_
    have c0 := k0
    refine sx_ifF0 ((tst 1 _ _ _ _).grow c0) fun r1 k1 => ?_
    have c1 := c0.trans k1
    refine sx_ifF0 ((tst 2 _ _ _ _).grow c1) fun r2 k2 => ?_
    have c2 := c1.trans k2
    refine sx_ifT ((tst 3 _ _ _ _).grow c2) fun r3 k3 => ?_
    have c3 := c2.trans k3
    exact fin 49 (kpE5 _) g_esc4 (fun u s' k => esc_spec5 R₁ (hG₄.keeps k.get) _ u hx) _ _ _ _ _ _ _ _ c3 (fun v s'' hv k => ⟨hv, k⟩) (by rfl) (by decide)
  · refine sx_ifF0 (tst 0 _ _ _ _) fun r0 k0 => ?_
    have c0 := k0
    refine sx_ifF0 ((tst 1 _ _ _ _).grow c0) fun r1 k1 => ?_
    have c1 := c0.trans k1
    refine sx_ifF0 ((tst 2 _ _ _ _).grow c1) fun r2 k2 => ?_
    have c2 := c1.trans k2
    refine sx_ifF0 ((tst 3 _ _ _ _).grow c2) fun r3 k3 => ?_
    have c3 := c2.trans k3
    exact fin 56 (kpE6 _) g_esc5 (fun u s' k => esc_spec6 R₁ (hG₄.keeps k.get) _ u hx) _ _ _ _ _ _ _ _ c3 (fun v s'' hv k => ⟨hv, k⟩) (by rfl) (by decide)
end Law62

set_option maxRecDepth 100000
set_option linter.unusedVariables false
namespace Law62
open PySem PySem.W PySem.Calls PyProof.Rows PySem.Builtin

section
variable {w : World} {A : Around} {E : Value → Shared → Prop} {s : Shared}
theorem zipS_next_item {z TI TO i1 i2 l1 : Addr} {k1 k2 c₀ : Nat} {xs : Array Value} {yt : Str} {tt : Tok} {x a b : Value} {Q : Value → Shared → Prop} (D : ZipApart z TI TO i1 i2 l1 l1)
    (hz : IsZip s.heap z TI TO .none) (hTI : IsPair s.heap TI (.ref i1) (.ref i2)) (hTO : IsPair s.heap TO a b)
    (h1 : s.heap.IsListIter i1 l1 k1) (h2 : s.heap.IsStrIter i2 "str_ascii_iterator" yt tt k2) (hl1 : s.heap.IsList l1 xs) (hx : xs[k1]? = some x) (hy : yt.cps[k2]? = some c₀)
    (hQ : ∀ h', IsZip h' z TI TO (rawInt s.heap.objs.size) → IsPair h' TO x (.str ⟨#[c₀]⟩ s.toks) → h'.IsListIter i1 l1 (k1 + 1) → h'.IsStrIter i2 "str_ascii_iterator" yt tt (k2 + 1) → IsPair h' s.heap.objs.size x (.str ⟨#[c₀]⟩ s.toks) → h'.objs.size = s.heap.objs.size + 1 →
      (∀ c o, c ≠ z → c ≠ TO → c ≠ i1 → c ≠ i2 → s.heap.get? c = some o → h'.get? c = some o) → Q (.ref s.heap.objs.size) { s with heap := h', toks := s.toks + 1 }) :
    wpAny (model pw w) A (Builtin.«zip.__next__» ⟨[.ref z], []⟩) (fun fin s' => ∃ v, fin = .done (.ret v) ∧ Q v s') E s := by
  show wpAny _ _ (field (.ref z) 2 >>= _) _ _ _
  refine wpAny_bind (wpAny_field hz rfl (x := .bool false) rfl ?_)
  show wpAny _ _ (field (.ref z) 3 >>= _) _ _ _
  refine wpAny_bind (wpAny_field hz rfl (x := .ref TI) rfl ?_)
  refine wpAny_bind (wpAny_seqItems hTI rfl ?_)
  show wpAny _ _ (Builtin.SmallTypes.ownedTupleIsFree (.ref z) >>= _) _ _ _
  refine wpAny_bind ?_
  unfold Builtin.SmallTypes.ownedTupleIsFree
  refine wpAny_bind (wpAny_field hz rfl (x := .none) rfl (wpAny_pure ?_))
  simp only [if_true]
  refine wpAny_bind (wpAny_rule ?_)
  refine wpAny_bind (wpAny_field hz rfl (x := .ref TO) rfl ?_)
  refine wpAny_bind (wpAny_setField_rec hz (by simp) fun h₁ hz₁ hs₁ => ?_)
  replace hz₁ : IsZip h₁ z TI TO .ellipsis := hz₁
  refine wpAny_bind ?_
  simp only [List.zipIdx_cons, List.zipIdx_nil, List.forIn_cons, List.forIn_nil]

  refine wpAny_bind (wpAny_bind (wpAny_onRaise ?_))
  show wpAny _ _ (Builtin.SmallTypes.nextOf (.ref i1) >>= _) _ _ _
  refine wpAny_bind (wpAny_nextOf_list_item (h1.extBut hs₁.extBut D.i1z) (hl1.extBut hs₁.extBut D.l1z) hx fun h₂ h1₂ hs₂ => wpAny_pure ?_)
  have hTO₂ : IsPair h₂ TO a b := hs₂.extBut _ _ D.TOi1 (hs₁.extBut _ _ D.TOz hTO)
  refine wpAny_bind (wpAny_seqItems hTO₂ rfl ?_)
  refine wpAny_bind (wpAny_updateSeq_pair hTO₂ fun h₃ hTO₃ hs₃ => ?_)
  replace hTO₃ : IsPair h₃ TO x b := hTO₃
  refine wpAny_bind (wpAny_letGo (wpAny_pure ?_))

  refine wpAny_bind (wpAny_bind (wpAny_onRaise ?_))
  show wpAny _ _ (Builtin.SmallTypes.nextOf (.ref i2) >>= _) _ _ _
  have upS : ∀ {h h' : Heap} {q : Addr} {k : Nat}, h.IsStrIter i2 "str_ascii_iterator" yt tt k → Heap.ExtBut q h h' → i2 ≠ q → h'.IsStrIter i2 "str_ascii_iterator" yt tt k := fun hi hx hq => let ⟨o, e, r⟩ := hi; ⟨o, hx _ _ hq e, r⟩
  refine wpAny_bind (wpAny_nextOf_ascii_item (upS (upS (upS h2 hs₁.extBut D.i2z) hs₂.extBut D.i12.symm) hs₃.extBut D.TOi2.symm) hy fun h₄ h2₄ hs₄ => wpAny_pure ?_)
  have hTO₄ : IsPair h₄ TO x b := hs₄.extBut _ _ D.TOi2 hTO₃
  refine wpAny_bind (wpAny_seqItems hTO₄ rfl ?_)
  refine wpAny_bind (wpAny_updateSeq_pair hTO₄ fun h₅ hTO₅ hs₅ => ?_)
  replace hTO₅ : IsPair h₅ TO x (.str ⟨#[c₀]⟩ s.toks) := hTO₅
  refine wpAny_bind (wpAny_letGo (wpAny_pure (wpAny_pure ?_)))

  refine wpAny_bind (wpAny_seqItems hTO₅ rfl ?_)
  refine wpAny_bind (wpAny_newTuple ?_)
  have hsz : h₅.objs.size = s.heap.objs.size := by rw [hs₅.1, hs₄.1, hs₃.1, hs₂.1, hs₁.1]
  have hz₅ : IsZip h₅ z TI TO .ellipsis := hs₅.extBut _ _ D.TOz.symm (hs₄.extBut _ _ D.i2z.symm (hs₃.extBut _ _ D.TOz.symm (hs₂.extBut _ _ D.i1z.symm hz₁)))
  have hk₅ : ∀ c o, c ≠ z → c ≠ TO → c ≠ i1 → c ≠ i2 → s.heap.get? c = some o → h₅.get? c = some o := fun c o c1 c2 c3 c4 e =>
    hs₅.extBut _ _ c2 (hs₄.extBut _ _ c4 (hs₃.extBut _ _ c2 (hs₂.extBut _ _ c3 (hs₁.extBut _ _ c1 e))))
  have h1₅ : h₅.IsListIter i1 l1 (k1 + 1) := ((h1₂.extBut hs₃.extBut D.TOi1.symm).extBut hs₄.extBut D.i12).extBut hs₅.extBut D.TOi1.symm
  have h2₅ : h₅.IsStrIter i2 "str_ascii_iterator" yt tt (k2 + 1) := upS h2₄ hs₅.extBut D.TOi2.symm
  have hzlt : z < h₅.objs.size := Heap.lt_size hz₅
  have hTOlt : TO < h₅.objs.size := Heap.lt_size hTO₅
  have hi1lt : i1 < h₅.objs.size := by obtain ⟨_, e, _⟩ := h1₅; exact Heap.lt_size e
  have hi2lt : i2 < h₅.objs.size := by obtain ⟨_, e, _⟩ := h2₅; exact Heap.lt_size e
  show wpAny _ _ (Builtin.SmallTypes.ownedTupleHandOut (.ref z) (.ref h₅.objs.size) >>= _) _ _ _
  refine wpAny_bind ?_
  unfold Builtin.SmallTypes.ownedTupleHandOut
  have hz₆ : IsZip (h₅.push { cls := .type "tuple", data := .seq #[x, .str ⟨#[c₀]⟩ s.toks] }) z TI TO .ellipsis := Heap.get?_push_of_some _ hz₅
  refine wpAny_bind (wpAny_setField_rec hz₆ (by simp) fun h₇ hz₇ hs₇ => ?_)
  replace hz₇ : IsZip h₇ z TI TO (rawInt h₅.objs.size) := hz₇
  refine wpAny_setField_rec hz₇ (by simp) fun h₈ hz₈ hs₈ => ?_
  replace hz₈ : IsZip h₈ z TI TO (rawInt h₅.objs.size) := hz₈
  have up : ∀ c o, c ≠ z → h₅.get? c = some o → h₈.get? c = some o := fun c o c1 e => hs₈.extBut _ _ c1 (hs₇.extBut _ _ c1 (Heap.get?_push_of_some _ e))
  have hT₈ : IsPair h₈ h₅.objs.size x (.str ⟨#[c₀]⟩ s.toks) := hs₈.extBut _ _ (Nat.ne_of_gt hzlt) (hs₇.extBut _ _ (Nat.ne_of_gt hzlt) (Heap.get?_push_size _ rfl))
  have hz8 : h₈.objs.size = h₅.objs.size + 1 := by rw [hs₈.1, hs₇.1, Heap.size_push]
  rw [hsz] at hz₈ hT₈ hz8
  refine wpAny_pure ⟨_, rfl, ?_⟩
  show Q (.ref h₅.objs.size) _
  rw [hsz]
  exact hQ h₈ hz₈ (up _ _ D.TOz hTO₅) (h1₅.at fun o e => up _ o D.i1z e) (let ⟨o, e, r⟩ := h2₅; ⟨o, up _ o D.i2z e, r⟩) hT₈ hz8 fun c o c1 c2 c3 c4 e => up c o c1 (hk₅ c o c1 c2 c3 c4 e)



theorem pyNext_zipS_item {z TI TO i1 i2 l1 : Addr} {k1 k2 c₀ : Nat} {xs : Array Value} {yt : Str} {tt : Tok} {x a b : Value} {Q : Option Value → Shared → Prop} (D : ZipApart z TI TO i1 i2 l1 l1)
    (hz : IsZip s.heap z TI TO .none) (hTI : IsPair s.heap TI (.ref i1) (.ref i2)) (hTO : IsPair s.heap TO a b)
    (h1 : s.heap.IsListIter i1 l1 k1) (h2 : s.heap.IsStrIter i2 "str_ascii_iterator" yt tt k2) (hl1 : s.heap.IsList l1 xs) (hx : xs[k1]? = some x) (hy : yt.cps[k2]? = some c₀)
    (hQ : ∀ h', IsZip h' z TI TO (rawInt s.heap.objs.size) → IsPair h' TO x (.str ⟨#[c₀]⟩ s.toks) → h'.IsListIter i1 l1 (k1 + 1) → h'.IsStrIter i2 "str_ascii_iterator" yt tt (k2 + 1) → IsPair h' s.heap.objs.size x (.str ⟨#[c₀]⟩ s.toks) → h'.objs.size = s.heap.objs.size + 1 →
      (∀ c o, c ≠ z → c ≠ TO → c ≠ i1 → c ≠ i2 → s.heap.get? c = some o → h'.get? c = some o) → Q (some (.ref s.heap.objs.size)) { s with heap := h', toks := s.toks + 1 }) :
    wpAny (model pw w) A (pyNext (.ref z)) Q E s := by
  have hT : s.TypeIs (.ref z) "zip" := ⟨_, hz, rfl⟩
  unfold pyNext
  exact wpAny_bind (wpAny_attempt (wpAny_callSpecial?_slot (name := Str.ofString "__next__") hT PySem.F.slot_zip_next
    (wpAny_call_entry PySem.F.slot_zip_next hT PySem.F.entry_zip_next
      (zipS_next_item D hz hTI hTO h1 h2 hl1 hx hy fun h' a1 a2 a3 a4 a5 a6 a7 => wpAny_pure (hQ h' a1 a2 a3 a4 a5 a6 a7)) (PySem.F.args_zip_next_1 _))))

theorem zipS_next_end {z TI TO i1 i2 l1 : Addr} {k1 : Nat} {xs : Array Value} {a b : Value} {Q : PySem.Fin → Shared → Prop} (hh : A.handled = none) (D : ZipApart z TI TO i1 i2 l1 l1)
    (hz : IsZip s.heap z TI TO .none) (hTI : IsPair s.heap TI (.ref i1) (.ref i2)) (hTO : IsPair s.heap TO a b)
    (h1 : s.heap.IsListIter i1 l1 k1) (hl1 : s.heap.IsList l1 xs) (hx : xs[k1]? = none)
    (hE : ∀ h' e, (∀ c o, c ≠ z → c ≠ TO → c ≠ i1 → c ≠ i2 → s.heap.get? c = some o → h'.get? c = some o) → (∃ o, h'.get? e = some o ∧ o.cls = .type "StopIteration") → E (.ref e) { s with heap := h' }) :
    wpAny (model pw w) A (Builtin.«zip.__next__» ⟨[.ref z], []⟩) Q E s := by
  show wpAny _ _ (field (.ref z) 2 >>= _) _ _ _
  refine wpAny_bind (wpAny_field hz rfl (x := .bool false) rfl ?_)
  show wpAny _ _ (field (.ref z) 3 >>= _) _ _ _
  refine wpAny_bind (wpAny_field hz rfl (x := .ref TI) rfl ?_)
  refine wpAny_bind (wpAny_seqItems hTI rfl ?_)
  show wpAny _ _ (Builtin.SmallTypes.ownedTupleIsFree (.ref z) >>= _) _ _ _
  refine wpAny_bind ?_
  unfold Builtin.SmallTypes.ownedTupleIsFree
  refine wpAny_bind (wpAny_field hz rfl (x := .none) rfl (wpAny_pure ?_))
  simp only [if_true]
  refine wpAny_bind (wpAny_rule ?_)
  refine wpAny_bind (wpAny_field hz rfl (x := .ref TO) rfl ?_)
  refine wpAny_bind (wpAny_setField_rec hz (by simp) fun h₁ hz₁ hs₁ => ?_)
  replace hz₁ : IsZip h₁ z TI TO .ellipsis := hz₁
  refine wpAny_bind ?_
  simp only [List.zipIdx_cons, List.zipIdx_nil, List.forIn_cons, List.forIn_nil]
  refine wpAny_bind (wpAny_bind (wpAny_onRaise ?_))
  show wpAny _ _ (Builtin.SmallTypes.nextOf (.ref i1) >>= _) _ _ _
  refine wpAny_bind (wpAny_nextOf_list_end hh (h1.extBut hs₁.extBut D.i1z) (hl1.extBut hs₁.extBut D.l1z) hx fun h₂ e hs₂ he => ?_)
  obtain ⟨oe, hoe, hce⟩ := he
  have hz₂ : IsZip h₂ z TI TO .ellipsis := hs₂ _ _ D.i1z.symm hz₁
  have hez : e ≠ z := fun x => by subst x; rw [hz₂] at hoe; cases hoe; simp at hce
  refine wpAny_setField_rec hz₂ (by simp) fun h₃ _ hs₃ => hE h₃ e (fun c o c1 _ c3 _ x => hs₃.extBut _ _ c1 (hs₂ _ _ c3 (hs₁.extBut _ _ c1 x))) ⟨oe, hs₃.extBut _ _ hez hoe, hce⟩

theorem pyNext_zipS_end {z TI TO i1 i2 l1 : Addr} {k1 : Nat} {xs : Array Value} {a b : Value} {Q : Option Value → Shared → Prop} (hh : A.handled = none) (D : ZipApart z TI TO i1 i2 l1 l1)
    (hz : IsZip s.heap z TI TO .none) (hTI : IsPair s.heap TI (.ref i1) (.ref i2)) (hTO : IsPair s.heap TO a b)
    (h1 : s.heap.IsListIter i1 l1 k1) (hl1 : s.heap.IsList l1 xs) (hx : xs[k1]? = none)
    (hQ : ∀ h', (∀ c o, c ≠ z → c ≠ TO → c ≠ i1 → c ≠ i2 → s.heap.get? c = some o → h'.get? c = some o) → Q none { s with heap := h' }) : wpAny (model pw w) A (pyNext (.ref z)) Q E s := by
  have hT : s.TypeIs (.ref z) "zip" := ⟨_, hz, rfl⟩
  unfold pyNext
  refine wpAny_bind (wpAny_attempt (wpAny_callSpecial?_slot (name := Str.ofString "__next__") hT PySem.F.slot_zip_next
    (wpAny_call_entry PySem.F.slot_zip_next hT PySem.F.entry_zip_next (zipS_next_end hh D hz hTI hTO h1 hl1 hx fun h' e hk he => ?_) (PySem.F.args_zip_next_1 _))))
  obtain ⟨o, ho, hc⟩ := he
  refine wpAny_bind (wpAny_isInstance (T := "StopIteration") (b := true) ⟨o, ho, hc⟩ isSubtype_stop ?_)
  exact wpAny_pure (hQ _ hk)

def BZ (n₀ n₁ : Str) : Str × Nat → (Str → Option Value) → (Str → Option Value) → Prop := B2 n₀ n₁ fun p v₀ v₁ => ∃ u₁ u₂, v₀ = .str p.1 u₁ ∧ v₁ = .str ⟨#[p.2]⟩ u₂ ∧ u₁ ≠ 0 ∧ u₂ ≠ 0 ∧ u₁ ≠ u₂

theorem Trn.of_zipS {env : Env} {n₀ n₁ : Str} {p₀ p₁ pt : Pos} {x1 : Nat} {z TI TO i1 i2 l1 T₀ : Nat} {items : Array Value} {xs : List Str} {yt : Str} {tt : Tok} (hh : A.handled = none) (D : ZipApart z TI TO i1 i2 l1 l1)
    (hi : All2 (fun v x => ∃ u, v = .str x u ∧ u ≠ 0 ∧ u < T₀) items.toList xs) (hlen : xs.length = yt.cps.size) (hok : ok2 n₀ n₁ env) :
    Trn w A (.Tuple [.Name n₀ p₀, .Name n₁ p₁] x1 pt) env (.ref z) (xs.zip yt.cps.toList) (BZ n₀ n₁) [z, TI, TO, i1, i2, l1] [z, TO, i1, i2]
      (fun i h => IsZip h z TI TO .none ∧ IsPair h TI (.ref i1) (.ref i2) ∧ (∃ a b, IsPair h TO a b) ∧ h.IsListIter i1 l1 i ∧ h.IsStrIter i2 "str_ascii_iterator" yt tt i ∧ h.IsList l1 items) T₀ where
  sub := fun c hc => by simp at hc ⊢; rcases hc with rfl | rfl | rfl | rfl <;> simp
  live := fun i h st b hb => by
    simp at hb
    obtain ⟨h1, h2, ⟨_, _, h3⟩, ⟨o4, h4, _⟩, ⟨o5, h5, _⟩, ⟨o6, h6, _⟩⟩ := st
    rcases hb with rfl | rfl | rfl | rfl | rfl | rfl
    · exact ⟨_, h1⟩
    · exact ⟨_, h2⟩
    · exact ⟨_, h3⟩
    · exact ⟨_, h4⟩
    · exact ⟨_, h5⟩
    · exact ⟨_, h6⟩
  frame := fun i h h' st hk => by
    obtain ⟨hz, hTI, ⟨a, b, hTO⟩, h1, ⟨o, h2, r⟩, hl1⟩ := st
    exact ⟨hk z (by simp) _ hz, hk TI (by simp) _ hTI, ⟨a, b, hk TO (by simp) _ hTO⟩, h1.at fun o e => hk i1 (by simp) o e, ⟨o, hk i2 (by simp) o h2, r⟩, hl1.at fun o e => hk l1 (by simp) o e⟩
  item := fun i x s m Q R E hx st hn hL hT₀ hR hQ => by
    obtain ⟨hz, hTI, ⟨a, b, hTO⟩, h1, h2, hl1⟩ := st
    have hzx := List.getElem?_zip_eq_some.mp hx
    obtain ⟨xv, e1, ⟨u, e2, hu0, hu1⟩⟩ := hi.get i _ hzx.1
    subst e2
    have hLw : ∀ q, env.locals = q → q ∈ [z, TI, TO, i1, i2, l1] → False := fun q e hq => hL (e ▸ hq)
    refine pyNext_zipS_item D hz hTI hTO h1 h2 hl1 (by rw [← Array.getElem?_toList]; exact e1) (by rw [← Array.getElem?_toList]; exact hzx.2) fun h₁ a1 a2 a3 a4 a5 a6 hk₁ => hR _ _ ?_
    have hzlt : z < s.heap.objs.size := Heap.lt_size hz
    refine wpAny_letOwnedTupleGo_zip a1 fun h₂ hz₂ hs₂ => ?_
    have up₁₂ : ∀ b o, b ≠ z → h₁.get? b = some o → h₂.get? b = some o := fun b o q e => hs₂.extBut _ _ q e
    have ht₂ : h₂.IsTuple s.heap.objs.size #[.str x.1 u, .str ⟨#[x.2]⟩ s.toks] := ⟨_, up₁₂ _ _ (Nat.ne_of_gt hzlt) a5, rfl, _, rfl⟩
    refine wpAny_assign_Tuple hh ht₂ rfl rfl fun h₃ hx₃ => ?_
    replace hx₃ : Heap.ExtBut h₂.objs.size h₂ h₃ := hx₃
    have up₃ : ∀ b o, h₂.get? b = some o → h₃.get? b = some o := fun b o x => hx₃ b o (Nat.ne_of_lt (Heap.lt_size x)) x
    have upL : ∀ b o, b ∉ [z, TO, i1, i2] → s.heap.get? b = some o → h₃.get? b = some o := fun b o hb e => up₃ b o (up₁₂ b o (fun q => hb (by simp [q])) (hk₁ b o (fun q => hb (by simp [q])) (fun q => hb (by simp [q])) (fun q => hb (by simp [q])) (fun q => hb (by simp [q])) e))
    have hLn : env.locals ∉ [z, TO, i1, i2] := fun h => hL (by simp at h ⊢; rcases h with h | h | h | h <;> simp [h])
    show wpAny _ A (do holding [.str ⟨#[x.2]⟩ s.toks] (assign (.Name n₀ p₀) env (.str x.1 u)); do holding [] (assign (.Name n₁ p₁) env (.str ⟨#[x.2]⟩ s.toks)); pure ()) _ _ _
    refine wpAny_bind (wpAny_holding (wpAny_assign_Name (wpAny_storeName_local hok.1.1 (hn.at' fun o e => upL _ o hLn e) (fun h₄ hn₄ hs₄ => ?_) hok.1.2)))
    replace hs₄ : Heap.SameBut env.locals h₃ h₄ := hs₄
    refine wpAny_bind (wpAny_holding (wpAny_assign_Name (wpAny_storeName_local hok.2.1 hn₄ (fun h₅ hn₅ hs₅ => wpAny_pure ?_) hok.2.2)))
    replace hs₅ : Heap.SameBut env.locals h₄ h₅ := hs₅
    have up₅ : ∀ b o, b ∈ [z, TI, TO, i1, i2, l1] → h₂.get? b = some o → h₅.get? b = some o := fun b o hb e => hs₅.extBut b o (fun q => hL (q ▸ hb)) (hs₄.extBut b o (fun q => hL (q ▸ hb)) (up₃ b o e))
    refine hQ h₅ _ _ ⟨_, _, ⟨u, s.toks, rfl, rfl, hu0, Nat.ne_of_gt (Nat.lt_of_le_of_lt (Nat.zero_le u) (Nat.lt_of_lt_of_le hu1 hT₀)), Nat.ne_of_lt (Nat.lt_of_lt_of_le hu1 hT₀)⟩, rfl⟩ hn₅ ⟨up₅ z _ (by simp) hz₂, up₅ TI _ (by simp) (up₁₂ _ _ D.TIz (hk₁ TI _ D.TIz D.TITO D.TIi1 D.TIi2 hTI)), ⟨_, _, up₅ TO _ (by simp) (up₁₂ _ _ D.TOz a2)⟩,
      a3.at fun o e => up₅ i1 o (by simp) (up₁₂ _ _ D.i1z e), (let ⟨o, e, r⟩ := a4; ⟨o, up₅ i2 o (by simp) (up₁₂ _ _ D.i2z e), r⟩), hl1.at fun o e => up₅ l1 o (by simp) (up₁₂ _ _ D.l1z (hk₁ l1 o D.l1z D.l1TO D.l1i1 D.l1i2 e))⟩
      (fun b o hb hw e => hs₅.extBut b o hb (hs₄.extBut b o hb (upL b o hw e))) ?_
    show s.toks ≤ s.toks + 1 + 1 + 1
    omega
  done := fun s Q E st hQ => by
    obtain ⟨hz, hTI, ⟨a, b, hTO⟩, h1, h2, hl1⟩ := st
    refine pyNext_zipS_end hh D hz hTI hTO h1 hl1 ?_ fun h' hk => hQ h' s.toks (fun b o hb e => hk b o (fun q => hb (by simp [q])) (fun q => hb (by simp [q])) (fun q => hb (by simp [q])) (fun q => hb (by simp [q])) e) (Nat.le_refl _)
    have l1 := hi.length
    rw [Array.length_toList] at l1
    have e0 : (xs.zip yt.cps.toList).length = xs.length := by
      have e1 : yt.cps.toList.length = yt.cps.size := Array.length_toList
      rw [List.length_zip, e1, ← hlen]; exact Nat.min_self _
    rw [e0]
    exact Array.getElem?_eq_none (by omega)
  self := fun s Q E st hQ => wpAny_pyIter_zip st.1 hQ
end
end Law62

set_option maxRecDepth 100000
set_option linter.unusedVariables false
namespace Law62
open PySem PySem.W PySem.Calls PyProof.Rows PySem.Builtin

abbrev zipS2 (h : Heap) (l1 : Addr) (y : Str) (t : Tok) : Heap := (zipH1 h l1).push { cls := .type "str_ascii_iterator", data := .fields #[.str y t, .int 0 0] }
abbrev zipS3 (h : Heap) (l1 : Addr) (y : Str) (t : Tok) : Heap := (zipS2 h l1 y t).push { cls := .type "tuple", data := .seq #[.ref h.objs.size, .ref (zipH1 h l1).objs.size] }
abbrev zipS4 (h : Heap) (l1 : Addr) (y : Str) (t : Tok) : Heap := (zipS3 h l1 y t).push { cls := .type "tuple", data := .seq #[.none, .none] }
abbrev zipS5 (h : Heap) (l1 : Addr) (y : Str) (t : Tok) : Heap := (zipS4 h l1 y t).push { cls := .type "zip", data := .fields #[.none, .bool false, .bool false, .ref (zipS2 h l1 y t).objs.size, .ref (zipS3 h l1 y t).objs.size] }

set_option maxHeartbeats 2000000 in
theorem meets_zipS_new (l1 : Addr) (y : Str) (t : Tok) (xs : Array Value) (ha : y.cps.all (· < 128) = true) :
    Meets (Builtin.«zip.__new__» ⟨[.type "zip", .ref l1, .str y t], []⟩) (fun _ R s => s.heap.IsList l1 xs ∧
      R (.ok (.ret (.ref (zipS4 s.heap l1 y t).objs.size))) { s with heap := zipS5 s.heap l1 y t }) :=
  .of_wp fun prog w A R s h => by
    obtain ⟨hp, g, d, tk, os⟩ := s; obtain ⟨hl1, h⟩ := h
    have hsub := sub_zip
    have hL1 : Heap.IsList (Shared.heap ⟨hp, g, d, tk, os⟩) l1 xs := hl1
    wp_walk using wpAny_pyIter_list hL1, wpAny_pyIter_ascii ha
    exact ⟨_, rfl, h⟩
end Law62

set_option maxRecDepth 100000
set_option linter.unusedVariables false
namespace Law62
open PySem PySem.W PySem.Calls PyProof.Rows PySem.Builtin

section
variable {w : World} {A : Around} {E : Value → Shared → Prop} {s : Shared}
theorem call_zipS {l1 : Addr} {y : Str} {t : Tok} {xs : Array Value} {Q : Value → Shared → Prop} (hl1 : s.heap.IsList l1 xs) (ha : y.cps.all (· < 128) = true)
    (h : ∀ h', IsZip h' (s.heap.objs.size + 4) (s.heap.objs.size + 2) (s.heap.objs.size + 3) .none → IsPair h' (s.heap.objs.size + 2) (.ref s.heap.objs.size) (.ref (s.heap.objs.size + 1)) →
      IsPair h' (s.heap.objs.size + 3) .none .none → h'.IsListIter s.heap.objs.size l1 0 → h'.IsStrIter (s.heap.objs.size + 1) "str_ascii_iterator" y t 0 → h'.objs.size = s.heap.objs.size + 5 →
      (∀ c o, s.heap.get? c = some o → h'.get? c = some o) → Q (.ref (s.heap.objs.size + 4)) { s with heap := h' }) :
    wpAny (model pw w) A (call (.type "zip") [.ref l1, .str y t]) Q E s := by
  refine callType_new PySem.F.called_zip (by decide) (PySem.F.typeCall_zip_2 _ _) (PySem.F.newCall_zip_2 _ _) (fun obj => PySem.F.args_object_init_3 obj _ _) PySem.F.entry_zip_new
    (meets_zipS_new l1 y t xs ha) ⟨hl1, ?_⟩
  have z1 : (zipH1 s.heap l1).objs.size = s.heap.objs.size + 1 := Heap.size_push ..
  have z2 : (zipS2 s.heap l1 y t).objs.size = s.heap.objs.size + 2 := by rw [Heap.size_push, z1]
  have z3 : (zipS3 s.heap l1 y t).objs.size = s.heap.objs.size + 3 := by rw [Heap.size_push, z2]
  have z4 : (zipS4 s.heap l1 y t).objs.size = s.heap.objs.size + 4 := by rw [Heap.size_push, z3]
  have z5 : (zipS5 s.heap l1 y t).objs.size = s.heap.objs.size + 5 := by rw [Heap.size_push, z4]
  have g5 : (zipS5 s.heap l1 y t).get? (zipS4 s.heap l1 y t).objs.size = some _ := Heap.get?_push_size _ rfl
  have g4 : (zipS5 s.heap l1 y t).get? (zipS3 s.heap l1 y t).objs.size = some _ := Heap.get?_push_of_some _ (Heap.get?_push_size _ rfl)
  have g3 : (zipS5 s.heap l1 y t).get? (zipS2 s.heap l1 y t).objs.size = some _ := Heap.get?_push_of_some _ (Heap.get?_push_of_some _ (Heap.get?_push_size _ rfl))
  have g2 : (zipS5 s.heap l1 y t).get? (zipH1 s.heap l1).objs.size = some _ := Heap.get?_push_of_some _ (Heap.get?_push_of_some _ (Heap.get?_push_of_some _ (Heap.get?_push_size _ rfl)))
  have g1 : (zipS5 s.heap l1 y t).get? s.heap.objs.size = some _ := Heap.get?_push_of_some _ (Heap.get?_push_of_some _ (Heap.get?_push_of_some _ (Heap.get?_push_of_some _ (Heap.get?_push_size _ rfl))))
  show _ ∧ _
  rw [z2, z3, z4] at g5
  rw [z1, z2] at g3
  rw [z3] at g4
  rw [z1] at g2
  rw [z4]
  exact ⟨⟨_, g5, rfl⟩, h _ g5 g3 g4 ⟨_, g1, rfl, rfl⟩ ⟨_, g2, rfl, rfl⟩ z5 fun c o x =>
    Heap.get?_push_of_some _ (Heap.get?_push_of_some _ (Heap.get?_push_of_some _ (Heap.get?_push_of_some _ (Heap.get?_push_of_some _ x))))⟩
end
end Law62

set_option maxRecDepth 100000
set_option linter.unusedVariables false
namespace Law62
open PySem PySem.W PySem.Calls PyProof.Rows

section
variable {w : World} {A : Around} {s : Shared} {env : Env}
/-- list + list -/
theorem evN_add {l r : Expr} {pos : Pos} {P₁ P₂ : List Value → Prop} (hl : EvP w A env l s (fun v h => ∃ a items, v = .ref a ∧ h.IsList a items ∧ items.size ≤ 100000 ∧ P₁ items.toList)) (hr : EvP w A env r s (fun v h => ∃ a items, v = .ref a ∧ h.IsList a items ∧ items.size ≤ 100000 ∧ P₂ items.toList)) :
    EvN w A env (.BinOp l .Add r pos) s (fun vs _ => ∃ us ws, P₁ us ∧ P₂ ws ∧ vs = us ++ ws) := fun s' k E =>
  wpAny_BinOp ((hl s' k).here fun v s₁ ⟨a, items, ev, hla, hz, hp⟩ k₁ => (hr s₁ (k.trans k₁)).here fun v₂ s₂ ⟨b, items₂, ev₂, hlb, hz₂, hp₂⟩ k₂ => by
    subst ev ev₂
    obtain ⟨⟨cls, dd, data, sl⟩, ho, hc, n, hd⟩ := hla.at fun o e => k₂.get _ o e
    obtain ⟨⟨cls2, dd2, data2, sl2⟩, ho2, hc2, n2, hd2⟩ := id hlb
    simp only at hc hd hc2 hd2
    subst hc hd hc2 hd2
    have hs : sizeLine = 16777216 := rfl
    refine concat_meets ⟨_, ho, rfl⟩ ⟨_, ho2, rfl⟩ noFill_list_add seq_list_add PySem.F.slot_list_add PySem.F.entry_list_add (PySem.F.args_list_add_2 _ _) (list_addW a b items items₂ n n2 dd dd2 sl sl2 (by omega)) ⟨ho, ho2, ?_⟩
    exact ⟨⟨_, _, rfl, ⟨_, Heap.get?_push_size _ rfl⟩, fresh_of (k₁.trans k₂) (Nat.le_refl _), _, _, hp, hp₂, by simp⟩, keeps_trans (k₁.trans k₂).k ⟨_, _, rfl, fun _ _ e => Heap.get?_push_of_some _ e⟩⟩)
end
end Law62

set_option maxRecDepth 100000
set_option linter.unusedVariables false
namespace Law62
open PySem PySem.W PySem.Calls PyProof.Rows

/-- texts whose tokens lie in (0, T) -/
def TkS (T : Nat) (v : Value) (x : Str) : Prop := ∃ u, v = .str x u ∧ u ≠ 0 ∧ u < T
theorem TkS.up {T T' : Nat} (h : T ≤ T') {v : Value} {x : Str} (k : TkS T v x) : TkS T' v x := let ⟨u, e, a, b⟩ := k; ⟨u, e, a, Nat.lt_of_lt_of_le b h⟩
theorem tks_isS {T : Nat} {vs : List Value} {xs : List Str} (h : All2 (TkS T) vs xs) : All2 IsS vs xs := h.mono fun v x ⟨u, e, _⟩ => ⟨u, e⟩

section
variable {w : World} {A : Around} {s : Shared} {env : Env}
theorem spliced_consts : ∀ {es : List Expr} {xs : List Str} (s' : Shared), 0 < s'.toks → All2 (fun e x => ∃ k p, e = .Constant (.str x) k p) es xs →
    ∀ (Q : List Value → Shared → Prop) (E : Value → Shared → Prop), (∀ vs s'', All2 (TkS s''.toks) vs xs → KT s' s'' → Q vs s'') → wpAny (model pw w) A (spliced (es.map fun e => (false, eval e env))) Q E s'
  | _, _, s', h0, .nil, Q, E, hQ => spliced_nil (hQ [] s' .nil (KT.refl _))
  | _, _, s', h0, .cons (a := a) (b := b) h r, Q, E, hQ => by
    obtain ⟨k, p, e⟩ := h
    subst e
    refine spliced_cons (Constant_str (k := k) (pos := p) ?_)
    refine spliced_consts { s' with toks := s'.toks + 1 } (Nat.succ_pos _) r _ E fun vs s'' hv kt => hQ _ s'' (.cons ⟨s'.toks, rfl, Nat.ne_of_gt h0, kt.t⟩ hv) (KT.trans ⟨keeps_toks _ _, Nat.le_succ _⟩ kt)
/-- a list of text constants, with the tokens' bounds -/
theorem list_consts {es : List Expr} {xs : List Str} {pos : Pos} (h : All2 (fun e x => ∃ k p, e = .Constant (.str x) k p) es xs) (h0 : 0 < s.toks) (hz : xs.length ≤ 1000) {Q : Value → Shared → Prop} {E : Value → Shared → Prop}
    (hQ : ∀ D items s', s'.heap.PlainList D items → s.heap.get? D = none → All2 (TkS s'.toks) items.toList xs → KT s s' → Q (.ref D) s')
    (hst : backTo pos (starEach es env) = es.map fun e => (false, eval e env) := by rfl) : wpAny (model pw w) A (eval (.List es pos) env) Q E s := by
  refine List_ ?_
  rw [hst]
  refine spliced_consts s h0 h _ E fun vs s'' hv kt => ?_
  have hz' : vs.length ≤ sizeLine := by rw [hv.length]; have : sizeLine = 16777216 := rfl; omega
  refine wpAny_newObj_type ?_ (by show vs.toArray.size ≤ sizeLine; rw [List.size_toArray]; exact hz')
  refine hQ _ vs.toArray _ ⟨0, Heap.get?_push_size _ rfl⟩ (fresh_of kt (Nat.le_refl _)) (by simpa using hv) (kt.trans (kt_push _ _))
end
end Law62

set_option maxRecDepth 100000
set_option linter.unusedVariables false
namespace Law62
open PySem PySem.W PySem.Calls PyProof.Rows

def ctrl (hand : Nat) : List Str := if hand < 3 then ["&#13;", "&#10;", "&#09;"] else ["&#xD;", "&#xA;", "&#x9;"]
def written (hand : Nat) : List Str := (["&lt;", "&gt;", "&quot;"] : List Str) ++ ctrl hand ++ (["&amp;"] : List Str)
def marks : Str := ⟨#[60, 62, 34, 13, 10, 9, 38]⟩
def readStep (x : Str) (p : Str × Nat) : Str := Txt.replace x p.1 ⟨#[p.2]⟩
def readOf (hand : Nat) (pages : List Str) : Str := ((written hand).zip marks.cps.toList).foldl readStep (Txt.join " " pages)

theorem lk139 (P : Params) : (KE P).lookup 139 = some (fnO 16 "law_tr0062_01" 2271 138) := by kernel_rfl!
theorem ci139 (P : Params) : codeIn (KE P) (.ref 138) (fname 16) = true := by kernel_rfl!
theorem kp139 (P : Params) : keepIn (KE P) (.ref 139) = true := by kernel_rfl!
theorem cs16 (n : Nat) : ((cellsFrom n (fsc 16).names []).map (·.1)).Nodup := by
  have e : (cellsFrom n (fsc 16).names []).map (·.1) = (cellsFrom 0 (fsc 16).names []).map (·.1) := by rfl
  rw [e]; decide +kernel

section
variable {w : World} {A : Around} {s s₀ : Shared} {env : Env} {Q : Flow → Shared → Prop} {E : Value → Shared → Prop} {m cm : Str → Option Value} {cs : List (Str × Addr)} {ow : List (Addr × List Value)} {hk : Heap} {rest : List Stmt}
/-- x = a new list, with something said of the tokens -/
theorem sx_assignK {x : Str} {px pos : Pos} {value : Expr} {P : List Value → Nat → Prop} (F : FS s₀ env.locals m cs cm ow hk s)
    (hv : wpAny (model pw w) A (eval value env) (fun v s₁ => ∃ D items, v = .ref D ∧ s₁.heap.PlainList D items ∧ s.heap.get? D = none ∧ KT s s₁ ∧ P items.toList s₁.toks) E s) (hx : ok1 x env)
    (h : ∀ D items T s', P items T → T ≤ s'.toks → s.heap.get? D = none → FS s₀ env.locals (upd m x (.ref D)) cs cm ((D, items) :: ow) hk s' → wpAny (model pw w) A (execs rest env) Q E s') (hs : swapsWith value (some (.Name x px)) pos.line env = pure false := by rfl) :
    wpAny (model pw w) A (execs (.Assign [.Name x px] value pos :: rest) env) Q E s := by
  refine wpAny_execs_cons (wpAny_Assign_Name (wpAny_mono hv (fun v s₁ y => ?_) fun _ _ e => e) hs)
  obtain ⟨D, items, rfl, hl, hf, k, hp⟩ := y
  have hfD := F.fresh hf
  have F₁ := (F.grow k).addOwn (D := D) (items := items.toList) (by simpa using hl) hfD.1 hfD.2
  exact wpAny_storeName_local hx.1 F₁.fr.ns (fun h' hn hs' => h D _ _ _ hp (Nat.le_succ _) hf (F₁.setLocal (Nat.le_succ _) hn hs')) hx.2
end
end Law62

set_option maxRecDepth 100000
set_option linter.unusedVariables false
namespace Law62
open PySem PySem.W PySem.Calls PyProof.Rows

theorem FS.raise {s₀ s : Shared} {L : Addr} {m cm : Str → Option Value} {cs : List (Str × Addr)} {ow : List (Addr × List Value)} {hk : Heap} {T : Nat} (F : FS s₀ L m cs cm ow hk s) (h : T ≤ s.toks) : FS { s₀ with toks := T } L m cs cm ow hk s := by
  obtain ⟨⟨h', t', rfl⟩, _, fr, cl, own, nd, ch⟩ := F
  exact ⟨⟨h', t', rfl⟩, h, fr, cl, own, nd, ch⟩

section
variable {w : World} {A : Around} {s s₀ : Shared} {env : Env} {Q : Flow → Shared → Prop} {E : Value → Shared → Prop} {m cm : Str → Option Value} {cs : List (Str × Addr)} {ow : List (Addr × List Value)} {hk : Heap} {rest : List Stmt} {mg mb : Str → Option Value}

/-- e hands on a list of texts whose tokens are bounded -/
def EvK (w : World) (A : Around) (env : Env) (e : Expr) (s : Shared) (xs : List Str) : Prop :=
  ∀ s', WK s s' → ∀ (Q : Value → Shared → Prop) (E : Value → Shared → Prop), (∀ D items s₁, s₁.heap.IsList D items → All2 (TkS s₁.toks) items.toList xs → KT s' s₁ → Q (.ref D) s₁) → wpAny (model pw w) A (eval e env) Q E s'
/-- .. and the list is new -/
def EvKN (w : World) (A : Around) (env : Env) (e : Expr) (s : Shared) (xs : List Str) : Prop :=
  ∀ s', WK s s' → ∀ (Q : Value → Shared → Prop) (E : Value → Shared → Prop), (∀ D items s₁, s₁.heap.IsList D items → s'.heap.get? D = none → All2 (TkS s₁.toks) items.toList xs → KT s' s₁ → Q (.ref D) s₁) → wpAny (model pw w) A (eval e env) Q E s'
theorem EvKN.evK {e : Expr} {xs : List Str} (h : EvKN w A env e s xs) : EvK w A env e s xs := fun s' k Q E hQ => h s' k Q E fun D items s₁ a _ b c => hQ D items s₁ a b c

theorem tks_up {T T' : Nat} (h : T ≤ T') {vs : List Value} {xs : List Str} (k : All2 (TkS T) vs xs) : All2 (TkS T') vs xs := k.mono fun v x y => y.up h

theorem evK_consts {es : List Expr} {xs : List Str} {pos : Pos} (h : All2 (fun e x => ∃ k p, e = .Constant (.str x) k p) es xs) (h0 : 0 < s.toks) (hz : xs.length ≤ 1000)
    (hst : backTo pos (starEach es env) = es.map fun e => (false, eval e env) := by rfl) : EvK w A env (.List es pos) s xs := fun s' k Q E hQ =>
  list_consts h (Nat.lt_of_lt_of_le h0 k.t) hz (fun D items s₁ hp hf hv kt => hQ D items s₁ hp.isList hv kt) hst

theorem evK_local {x : Str} {p : Pos} {D : Addr} {items xs : List _} {T : Nat} (F : FS s₀ env.locals m cs cm ow hk s) (hm : m x = some (.ref D)) (hD : (D, items) ∈ ow) (hv : All2 (TkS T) items xs) (hT : T ≤ s.toks)
    (hk' : env.scope.kind = .function := by rfl) (hl : env.kindOf x = some .local := by rfl) (hd : (x == Str.ofString "__debug__") = false := by decide) : EvK w A env (.Name x p) s xs := fun s' k Q E hQ =>
  EvP.at (ev_local F.fr.ns hm hk' hl hd) k fun v s₁ ev k₁ => by
    subst ev
    have hp := ((F.own _ hD).1.isList).at fun o e => (k.trans k₁).get _ o e
    exact hQ D items.toArray s₁ hp (by simpa using tks_up (Nat.le_trans hT (k.trans k₁).t) hv) k₁

theorem evK_add {l r : Expr} {pos : Pos} {xs ys : List Str} (hl : EvK w A env l s xs) (hr : EvK w A env r s ys) (hz : xs.length ≤ 1000) (hz₂ : ys.length ≤ 1000) :
    EvKN w A env (.BinOp l .Add r pos) s (xs ++ ys) := fun s' k Q E hQ =>
  wpAny_BinOp (hl s' k _ _ fun a items s₁ hla hp k₁ => hr s₁ (k.trans k₁) _ _ fun b items₂ s₂ hlb hp₂ k₂ => by
    obtain ⟨⟨cls, dd, data, sl⟩, ho, hc, n, hd⟩ := hla.at fun o e => k₂.get _ o e
    obtain ⟨⟨cls2, dd2, data2, sl2⟩, ho2, hc2, n2, hd2⟩ := id hlb
    simp only at hc hd hc2 hd2
    subst hc hd hc2 hd2
    have hs : sizeLine = 16777216 := rfl
    have z1 := hp.length
    have z2 := hp₂.length
    rw [Array.length_toList] at z1 z2
    refine concat_meets ⟨_, ho, rfl⟩ ⟨_, ho2, rfl⟩ noFill_list_add seq_list_add PySem.F.slot_list_add PySem.F.entry_list_add (PySem.F.args_list_add_2 _ _) (list_addW a b items items₂ n n2 dd dd2 sl sl2 (by omega)) ⟨ho, ho2, ?_⟩
    exact hQ _ (items ++ items₂) _ ⟨_, Heap.get?_push_size _ rfl, rfl, _, rfl⟩ (fresh_of (k₁.trans k₂) (Nat.le_refl _)) (by rw [Array.toList_append]; exact (tks_up k₂.t hp).append hp₂) ((k₁.trans k₂).trans (kt_push _ _)))

/-- zip(list of texts, a constant text) -/
theorem itP_zipS {e₁ : Expr} {n₀ n₁ y : Str} {j : Nat} {p p₀ p₁ pt pos pc : Pos} {x1 : Nat} {xs : List Str} (G : Gd w mg mb s.heap) (hn : mg "zip" = none) (hh : A.handled = none) (h0 : 0 < s.toks)
    (h1 : EvKN w A env e₁ s xs) (ha : y.cps.all (· < 128) = true) (hlen : xs.length = y.cps.size)
    (hg : env.globals = mainGlobals := by rfl) (hb : env.builtins = builtinsNs := by rfl) (hk : env.scope.kind = .function := by rfl) (hl : env.kindOf "zip" = some .globalImplicit := by rfl) (hst : starEach [e₁, .Constant (.str y) j pc] env = [(false, eval e₁ env), (false, eval (.Constant (.str y) j pc) env)] := by rfl) :
    ItP w A env (.Call (.Name "zip" p) [e₁, .Constant (.str y) j pc] [] pos) s (.Tuple [.Name n₀ p₀, .Name n₁ p₁] x1 pt) (ok2 n₀ n₁) (xs.zip y.cps.toList) (BZ n₀ n₁) [] := fun s' k E => by
  rw [call_name, hst]
  refine wpAny_bind ((ev_builtin G hn (show bootBuiltins "zip" = some (.type "zip") by decide +kernel) (by decide) hg hb hk hl (by decide) s' k).here fun y' s₁ ey k₁ => ?_)
  subst ey
  refine cb_type "zip" (s := s') A pos _ _ _ _ s₁ rfl k₁.wk ?_
  refine spliced_cons (h1 s₁ (k.trans k₁) _ _ fun D items s₂ hl1 hD hv k₂ => spliced_cons (Constant_str (k := j) (pos := pc) (spliced_nil ⟨(k₁.wk.trans k₂).trans ⟨keeps_toks _ _, Nat.le_succ _⟩, ?_⟩)))
  have kt := (k₁.trans k₂).trans (⟨keeps_toks _ (s₂.toks + 1), Nat.le_succ _⟩ : KT s₂ _)
  have hlt := list_lt hl1
  have hD' : s'.heap.get? D = none := by
    cases e : s'.heap.get? D with
    | none => rfl
    | some o => rw [k₁.get _ _ e] at hD; cases hD
  refine call_zipS (s := { s₂ with toks := s₂.toks + 1 }) hl1 ha fun h' hz hTI hTO hi1 hi2 _ hk' => wpAny_pyIter_zip hz ?_
  refine ⟨s₂.heap.objs.size + 4, [s₂.heap.objs.size + 4, s₂.heap.objs.size + 2, s₂.heap.objs.size + 3, s₂.heap.objs.size, s₂.heap.objs.size + 1, D], [s₂.heap.objs.size + 4, s₂.heap.objs.size + 3, s₂.heap.objs.size, s₂.heap.objs.size + 1], _, s₂.toks, rfl,
    fun env' hok => Trn.of_zipS hh (zipApart_new hlt hlt) hv hlen hok, Nat.le_succ _,
    ⟨hz, hTI, ⟨_, _, hTO⟩, hi1, hi2, hl1.at fun o e => hk' _ o e⟩, ?_, ?_, kt.trans (kt_heap hk')⟩
  · intro b hb
    left
    simp at hb
    rcases hb with rfl | rfl | rfl | rfl | rfl | rfl
    · exact fresh_of kt (Nat.le_add_right _ 4)
    · exact fresh_of kt (Nat.le_add_right _ 2)
    · exact fresh_of kt (Nat.le_add_right _ 3)
    · exact fresh_of kt (Nat.le_refl _)
    · exact fresh_of kt (Nat.le_add_right _ 1)
    · exact hD'
  · intro b hb
    simp at hb
    rcases hb with rfl | rfl | rfl | rfl
    · exact fresh_of kt (Nat.le_add_right _ 4)
    · exact fresh_of kt (Nat.le_add_right _ 3)
    · exact fresh_of kt (Nat.le_refl _)
    · exact fresh_of kt (Nat.le_add_right _ 1)

/-- text = text.replace(written, sign) -/
theorem sx_repl {x c e : Str} {n₁ n₂ : Str} {t u₁ u₂ : Tok} {p₄ p₅ p₆ p₇ p₈ p₉ q₁ : Pos} (F : FS s₀ env.locals m cs cm ow hk s) (hv : m "text" = some (.str x t)) (h1 : m n₁ = some (.str c u₁)) (h2 : m n₂ = some (.str e u₂))
    (hu₁ : u₁ ≠ 0) (hu₂ : u₂ ≠ 0) (hu : u₁ ≠ u₂) (hx : x.length ≤ 1048576) (he : e.length ≤ 14) (hce : (c == e) = false) (hok : ok1 "text" env)
    (h : ∀ t' s', FS s₀ env.locals (upd m "text" (.str (Txt.replace x c e) t')) cs cm ow hk s' → wpAny (model pw w) A (execs rest env) Q E s')
    (hk' : env.scope.kind = .function := by rfl) (hl1 : env.kindOf n₁ = some .local := by rfl) (hl2 : env.kindOf n₂ = some .local := by rfl) (hd1 : (n₁ == Str.ofString "__debug__") = false := by decide) (hd2 : (n₂ == Str.ofString "__debug__") = false := by decide) (hline : (p₆.endLine == p₉.line) = true := by rfl)
    (hst : starEach [.Name n₁ p₇, .Name n₂ p₈] env = [(false, eval (.Name n₁ p₇) env), (false, eval (.Name n₂ p₈) env)] := by rfl) :
    wpAny (model pw w) A (execs (.Assign [.Name "text" p₄] (.Call (.Attribute (.Name "text" p₅) "replace" p₆) [.Name n₁ p₇, .Name n₂ p₈] [] p₉) q₁ :: rest) env) Q E s := by
  have hl : env.kindOf "text" = some .local := hok.1
  refine wpAny_execs_cons (wpAny_Assign_Name (wpAny_Call_method (T := "str") (id := "str.replace") (by rfl) (by rfl) hline PySem.F.plainAttrs_str PySem.F.slot_str_replace PySem.F.type_str_replace (EvP.at (ev_local F.fr.ns hv hk' hl) (WK.refl _) fun v s₃ ev k₃ => ?_)) (by rfl))
  subst ev
  refine ⟨typeIs_str _ _ _, fun a e => (by cases e), ?_⟩
  rw [hst]
  have F₁ := F.grow k₃
  refine callWith_builtin rfl (evalArgs_plain (spliced_cons (EvP.at (ev_local F₁.fr.ns h1 hk' hl1 hd1) (WK.refl _) fun v s₄ ev k₄ => spliced_cons (EvP.at (ev_local (F₁.grow k₄).fr.ns h2 hk' hl2 hd2) (WK.refl _) fun v₂ s₅ ev₂ k₅ => spliced_nil ?_))))
  subst ev ev₂
  have F₂ := (F₁.grow k₄).grow k₅
  refine wpAny_mono (wpAny_toks_of (n := s₅.toks) (Nat.le_refl _) (SC.replaceW (E := E) (Q := fun v s' => ∃ t' kk, v = .str (Txt.replace x c e) t' ∧ s' = { s₅ with toks := kk }) hu₁ hu₂ hu hce hx he fun t' kk => ⟨t', kk, rfl, rfl⟩)) (fun v s₆ y => ?_) fun _ _ y => y.2
  obtain ⟨hkk, t', kk, rfl, rfl⟩ := y
  have F₃ : FS s₀ env.locals m cs cm ow hk { s₅ with toks := kk } := F₂.grow ⟨keeps_toks _ _, hkk⟩
  exact wpAny_storeName_local hok.1 F₃.fr.ns (fun h' hn hs' => h t' _ (F₃.setLocal (Nat.le_succ _) hn hs')) hok.2
end
end Law62

set_option maxRecDepth 100000
set_option linter.unusedVariables false
namespace Law62
open PySem PySem.W PySem.Calls PyProof.Rows

theorem apart_all (hand : Nat) : ∀ p ∈ (written hand).zip marks.cps.toList, (p.1 == (⟨#[p.2]⟩ : Str)) = false := by
  unfold written ctrl
  split <;> decide +kernel
theorem apart_zip (hand : Nat) {i : Nat} {x : Str × Nat} (h : ((written hand).zip marks.cps.toList)[i]? = some x) : (x.1 == (⟨#[x.2]⟩ : Str)) = false := apart_all hand x (List.mem_of_getElem? h)

theorem read_spec {w : World} {A : Around} {s : Shared} {mg mb : Str → Option Value} {n : Nat} (Rm' : Rm A (n + 1)) (G : Gd w mg mb s.heap) {pages : List Str} {pv : Value} {hand : Nat} {t : Tok} (h0 : 0 < s.toks) (hp : LS s.heap pv pages)
    (hz : (pages.map (·.length)).sum + pages.length ≤ 16777216) (hx : ∀ k, ((((written hand).zip marks.cps.toList).take k).foldl readStep (Txt.join " " pages)).length ≤ 1048576) :
    Gv w A (call (.ref 139) [pv, .int hand t]) s (fun v _ => IsS v (readOf hand pages)) := by
  refine fn_call (i := 16) (binds := [("pages", pv), ("hand", .int hand t)]) Rm' G (lk139 _) (by rfl) (ci139 _) (by rfl) (by
    intro n x hx
    simp only [List.mem_cons, List.not_mem_nil, or_false] at hx
    rcases hx with rfl | rfl
    · left; rfl
    · left; rfl) (by rfl) (by rfl) (by rfl) fun s₁ R₁ F => ?_
  have hh := R₁.hh
  obtain ⟨pa, pits, rfl, hpl, hpa⟩ := hp
  have Gs : ∀ {s' : Shared}, WK s s' → Gd w mg mb s'.heap := fun k => G.keeps k.get
  have t1 : 0 < s₁.toks := Nat.lt_of_lt_of_le h0 F.tk
  refine sx_assignK F (P := fun vs T => All2 (TkS T) vs (ctrl hand) ∧ 0 < T) (wpAny_IfExp ((tv_lt (evI_local F (by rfl) ⟨_, rfl⟩) (evI_const 3 _ _)).now fun s₂ k₂ => ?_)) ⟨by rfl, by rfl⟩ fun D citems T₁ s₂ hC hT₁ hf F₂ => ?_
  · have t2 : 0 < s₂.toks := Nat.lt_of_lt_of_le t1 k₂.t
    unfold ctrl
    by_cases hlt : hand < 3
    · have hd : decide ((hand : Int) < 3) = true := decide_eq_true (by omega)
      rw [hd, if_pos hlt]
      refine list_consts (all2_constS (by rfl)) t2 (by decide) fun D items s₃ hp hf hv kt => ⟨D, items, rfl, hp, ?_, k₂.trans kt, hv, Nat.lt_of_lt_of_le t2 kt.t⟩
      cases e : s₁.heap.get? D with
      | none => rfl
      | some o => rw [k₂.get _ _ e] at hf; cases hf
    · have hd : decide ((hand : Int) < 3) = false := decide_eq_false (by omega)
      rw [hd, if_neg hlt]
      refine list_consts (all2_constS (by rfl)) t2 (by decide) fun D items s₃ hp hf hv kt => ⟨D, items, rfl, hp, ?_, k₂.trans kt, hv, Nat.lt_of_lt_of_le t2 kt.t⟩
      cases e : s₁.heap.get? D with
      | none => rfl
      | some o => rw [k₂.get _ _ e] at hf; cases hf
  obtain ⟨hC, hT0⟩ := hC
  have F₂ := F₂.raise hT₁
  refine sx_assign F₂ (P := fun v => IsS v (Txt.join " " pages)) (evS_join (sep := " ") (evS_const _ _ _) ((ev_localL (F₂.grow (KT.refl _)) hpl (by rfl)).mono fun v h x => ⟨pa, _, x.1, x.2, hpa⟩) (by
    have e0 : (" " : Str).length = 1 := rfl
    rw [e0]; omega)) ⟨by rfl, by rfl⟩ fun v₂ s₃ hv₂ F₃ => ?_
  have Gs₃ : Gd w mg mb s₃.heap := G.keeps F₃.kt.get
  have t3 : T₁ ≤ s₃.toks := F₃.tk
  obtain ⟨t₂, rfl⟩ := hv₂
  refine sx_for (m := _) F₃ (itP_zipS (xs := written hand) (y := marks) Gs₃ (G.no _ g_zip) hh (Nat.lt_of_lt_of_le hT0 t3) (evK_add (evK_add (xs := ["&lt;", "&gt;", "&quot;"]) (ys := ctrl hand) (evK_consts (all2_constS (by rfl)) (Nat.lt_of_lt_of_le hT0 t3) (by decide)) (evK_local F₃ (by rfl) (List.mem_cons_self ..) hC t3) (by decide) (by unfold ctrl; split <;> decide)).evK (evK_consts (xs := ["&amp;"]) (all2_constS (by rfl)) (Nat.lt_of_lt_of_le hT0 t3) (by decide)) (by rw [List.length_append]; unfold ctrl; split <;> decide) (by decide)) (by decide +kernel) (by unfold written ctrl; split <;> rfl)) ⟨⟨by rfl, by rfl⟩, ⟨by rfl, by rfl⟩⟩ (by simp)
    (fun i m' cm' ow' => ow' = [(D, citems)] ∧ ∃ t, m' "text" = some (.str ((((written hand).zip marks.cps.toList).take i).foldl readStep (Txt.join " " pages)) t)) ⟨rfl, t₂, by rfl⟩ (fun i x m₁ m₁' cm₁ ow₁ s₄ hix hJ hB F₄ => ?_) (fun m' cm' ow' s₄ F₄ ox hJ => ?_) (fun _ => by rfl) (cs16 _)
  · obtain ⟨rfl, t₄, ht⟩ := hJ
    obtain ⟨w₁, w₂, ⟨u₁, u₂, rfl, rfl, hu₁, hu₂, hu⟩, rfl⟩ := hB
    have e1 : (upd (upd m₁ "written" (.str x.1 u₁)) "sign" (.str ⟨#[x.2]⟩ u₂)) "written" = some (.str x.1 u₁) := (upd_other _ _ (by decide)).trans (upd_same _ _ _)
    have e2 : (upd (upd m₁ "written" (.str x.1 u₁)) "sign" (.str ⟨#[x.2]⟩ u₂)) "sign" = some (.str ⟨#[x.2]⟩ u₂) := upd_same _ _ _
    have e3 : (upd (upd m₁ "written" (.str x.1 u₁)) "sign" (.str ⟨#[x.2]⟩ u₂)) "text" = some (.str ((((written hand).zip marks.cps.toList).take i).foldl readStep (Txt.join " " pages)) t₄) := (upd_other _ _ (by decide)).trans ((upd_other _ _ (by decide)).trans ht)
    generalize upd (upd m₁ "written" (.str x.1 u₁)) "sign" (.str ⟨#[x.2]⟩ u₂) = mA at F₄ e1 e2 e3
    refine sx_repl F₄ e3 e1 e2 hu₁ hu₂ hu (hx i) (by show 1 ≤ 14; decide) (apart_zip hand hix) ⟨by rfl, by rfl⟩ fun t' s' F₅ => ?_
    refine wpAny_execs_nil ⟨rfl, _, _, _, F₅, Owx.refl _ _, rfl, t', ?_⟩
    rw [upd_same, foldl_take hix]
    rfl
  · obtain ⟨rfl, t₄, ht⟩ := hJ
    refine sx_return (R := fun v _ => IsS v (readOf hand pages)) ((ev_local F₄.fr.ns ht).mono fun v h e => ⟨t₄, ?_⟩) fun v s' hv k => ⟨hv, keeps_trans (keeps_toks _ _) (keeps_trans F₄.keeps k.k)⟩
    rw [e]
    unfold readOf
    rw [List.take_length]
end Law62

set_option maxRecDepth 100000
set_option linter.unusedVariables false
namespace Law62
open PySem PySem.W PySem.Calls PyProof.Rows

/-- all sequences are kept -/
def SK (h h' : Heap) : Prop := ∀ b o, h.get? b = some o → (∃ items n, o.data = .seq items n) → h'.get? b = some o
theorem SK.refl (h : Heap) : SK h h := fun _ _ e _ => e
theorem SK.trans {h h₁ h₂ : Heap} (k : SK h h₁) (k' : SK h₁ h₂) : SK h h₂ := fun b o e x => k' b o (k b o e x) x
theorem SK.of {h h' : Heap} (k : ∀ b o, h.get? b = some o → h'.get? b = some o) : SK h h' := fun b o e _ => k b o e
theorem SK.isList {h h' : Heap} (k : SK h h') {a : Addr} {items : Array Value} (x : h.IsList a items) : h'.IsList a items := by
  obtain ⟨o, e, c, n, d⟩ := x
  exact ⟨o, k a o e ⟨_, _, d⟩, c, n, d⟩
theorem SK.LI {h h' : Heap} (k : SK h h') {v : Value} {ns : List Int} (x : LI h v ns) : LI h' v ns := by
  obtain ⟨a, items, e, l, al⟩ := x
  exact ⟨a, items, e, k.isList l, al⟩
theorem SK.LS {h h' : Heap} (k : SK h h') {v : Value} {xs : List Str} (x : LS h v xs) : LS h' v xs := by
  obtain ⟨a, items, e, l, al⟩ := x
  exact ⟨a, items, e, k.isList l, al⟩
theorem SK.LLI {h h' : Heap} (k : SK h h') {v : Value} {nss : List (List Int)} (x : LLI h v nss) : LLI h' v nss := by
  obtain ⟨a, items, e, l, al⟩ := x
  exact ⟨a, items, e, k.isList l, al.mono fun v ns y => k.LI y⟩

section
variable {w : World} {A : Around} {s s₀ : Shared} {env : Env} {Q : Flow → Shared → Prop} {E : Value → Shared → Prop} {m cm : Str → Option Value} {cs : List (Str × Addr)} {ow : List (Addr × List Value)} {hk : Heap} {rest : List Stmt} {mg mb : Str → Option Value}

theorem sk_same_ns {h h' : Heap} {L : Addr} {m : Str → Option Value} (n : h.Ns L m) (k : Heap.SameBut L h h') : SK h h' := fun b o e ⟨items, c, d⟩ => by
  refine k.extBut b o (fun q => ?_) e
  subst q
  obtain ⟨o', es, ep, e', d', _⟩ := n
  rw [e] at e'; cases e'; rw [d] at d'; cases d'
theorem sk_same_cell {h h' : Heap} {c : Addr} {v : Option Value} (n : h.IsCell c v) (k : Heap.SameBut c h h') : SK h h' := fun b o e ⟨items, z, d⟩ => by
  refine k.extBut b o (fun q => ?_) e
  subst q
  obtain ⟨o', e', d'⟩ := n
  rw [e] at e'; cases e'; rw [d] at d'; cases d'
theorem FS.sk {s s' : Shared} {L : Addr} {m m' cm cm' : Str → Option Value} {ow ow' : List (Addr × List Value)} (F : FS s₀ L m cs cm ow hk s) (F' : FS s₀ L m' cs cm' ow' s.heap s') (hcs : (cs.map (·.1)).Nodup) (ho : ∀ p ∈ ow', s.heap.get? p.1 = none) : SK s.heap s'.heap := fun b o e ⟨items, n, d⟩ => by
  refine F'.ch b o (fun q => ?_) (fun c hc q => ?_) (fun q => ?_) e
  · subst q
    obtain ⟨o', es, ep, e', d', _⟩ := F.fr.ns
    rw [e] at e'; cases e'; rw [d] at d'; cases d'
  · subst q
    obtain ⟨o', e', d'⟩ := F.cl.cell c.1 c.2 (lookup_of_mem_nodup hcs hc)
    rw [e] at e'; cases e'; rw [d] at d'; cases d'
  · obtain ⟨p, hp, rfl⟩ := List.mem_map.mp q
    rw [ho p hp] at e; cases e
theorem FS.drop {s : Shared} {L : Addr} {p : Addr × List Value} (F : FS s₀ L m cs cm (p :: ow) hk s) (h : hk.get? p.1 = none) : FS s₀ L m cs cm ow hk s :=
  ⟨F.same, F.tk, F.fr, F.cl, fun q hq => F.own q (List.mem_cons_of_mem _ hq), (List.nodup_cons.mp (by have := F.nd; rwa [List.map_cons] at this)).2, fun b o h1 h2 h3 e => F.ch b o h1 h2 (fun q => by
    rw [List.map_cons] at q
    rcases List.mem_cons.mp q with q | q
    · subst q; rw [h] at e; cases e
    · exact h3 q) e⟩

/-- x = value, with all that is said of it -/
theorem sx_assignH {x : Str} {px pos : Pos} {value : Expr} {R : Value → Heap → Prop} (hR : ∀ v h h', SK h h' → R v h → R v h') (F : FS s₀ env.locals m cs cm ow hk s) (hv : EvP w A env value s R) (hx : ok1 x env)
    (h : ∀ v s', R v s'.heap → SK s.heap s'.heap → s.toks < s'.toks → FS s₀ env.locals (upd m x v) cs cm ow hk s' → wpAny (model pw w) A (execs rest env) Q E s') (hs : swapsWith value (some (.Name x px)) pos.line env = pure false := by rfl) :
    wpAny (model pw w) A (execs (.Assign [.Name x px] value pos :: rest) env) Q E s :=
  wpAny_execs_cons (wpAny_Assign_Name (hv.now fun v s₁ r k => wpAny_storeName_local hx.1 (F.grow k).fr.ns (fun h' hn hs' =>
    have kk := sk_same_ns (F.grow k).fr.ns hs'
    h v _ (hR v _ _ kk r) ((SK.of k.get).trans kk) (Nat.lt_succ_of_le k.t) ((F.grow k).setLocal (Nat.le_succ _) hn hs')) hx.2) hs)
theorem sx_assignHC {x : Str} {px pos : Pos} {c : Addr} {value : Expr} {R : Value → Heap → Prop} (hR : ∀ v h h', SK h h' → R v h → R v h') (F : FS s₀ env.locals m cs cm ow hk s) (hv : EvP w A env value s R) (hx : okC x c env) (hcc : cs.lookup x = some c)
    (h : ∀ v s', R v s'.heap → SK s.heap s'.heap → s.toks ≤ s'.toks → FS s₀ env.locals m cs (upd cm x v) ow hk s' → wpAny (model pw w) A (execs rest env) Q E s') (hs : swapsWith value (some (.Name x px)) pos.line env = pure false := by rfl) :
    wpAny (model pw w) A (execs (.Assign [.Name x px] value pos :: rest) env) Q E s :=
  wpAny_execs_cons (wpAny_Assign_Name (hv.now fun v s₁ r k => wpAny_storeName_cell hx.1 hx.2.1 hx.2.2 ((F.grow k).cl.cell x c hcc) fun h' hn hs' =>
    have kk := sk_same_cell ((F.grow k).cl.cell x c hcc) hs'
    h v _ (hR v _ _ kk r) ((SK.of k.get).trans kk) k.t ((F.grow k).setCell hcc hn hs')) hs)

/-- x, y = a pair: x a cell, y a local -/
theorem sx_assignTC {n₀ n₁ : Str} {p₀ p₁ pt pos : Pos} {x1 : Nat} {c : Addr} {value : Expr} {P : Value → Value → Prop} (hh : A.handled = none) (F : FS s₀ env.locals m cs cm ow hk s) (hv : EvT w A env value s P) (hx : okC n₀ c env) (hcc : cs.lookup n₀ = some c) (hy : ok1 n₁ env)
    (h : ∀ v₀ v₁ s', P v₀ v₁ → SK s.heap s'.heap → s.toks ≤ s'.toks → FS s₀ env.locals (upd m n₁ v₁) cs (upd cm n₀ v₀) ow hk s' → wpAny (model pw w) A (execs rest env) Q E s')
    (hs : swapsWithSole [.Tuple [.Name n₀ p₀, .Name n₁ p₁] x1 pt] value pos.line env = pure false := by rfl) (hw : swappedStores [.Tuple [.Name n₀ p₀, .Name n₁ p₁] x1 pt] value env = pure none := by rfl) :
    wpAny (model pw w) A (execs (.Assign [.Tuple [.Name n₀ p₀, .Name n₁ p₁] x1 pt] value pos :: rest) env) Q E s := by
  refine wpAny_execs_cons (Assign_Tuple (wpAny_mono (wpAny_toks_of (Nat.le_refl _) (hv s (WK.refl s) E)) (fun v s₁ y => ?_) fun _ _ e => e.2) hs hw)
  obtain ⟨ht, ⟨T, v₀, v₁, rfl, hT, hp⟩, kk⟩ := y
  have F₁ := F.grow ⟨kk, ht⟩
  refine wpAny_assign_Tuple hh hT rfl rfl fun h₃ hx₃ => ?_
  replace hx₃ : Heap.ExtBut s₁.heap.objs.size s₁.heap h₃ := hx₃
  have up₃ : ∀ b o, s₁.heap.get? b = some o → h₃.get? b = some o := fun b o x => hx₃ b o (Nat.ne_of_lt (Heap.lt_size x)) x
  have F₂ := F₁.grow (kt_heap up₃)
  show wpAny _ A (do holding [v₁] (assign (.Name n₀ p₀) env v₀); do holding [] (assign (.Name n₁ p₁) env v₁); pure ()) _ _ _
  refine wpAny_bind (wpAny_holding (wpAny_assign_Name (wpAny_storeName_cell hx.1 hx.2.1 hx.2.2 (F₂.cl.cell n₀ c hcc) fun h₄ hn₄ hs₄ => ?_)))
  have F₃ := F₂.setCell hcc hn₄ hs₄
  refine wpAny_bind (wpAny_holding (wpAny_assign_Name (wpAny_storeName_local hy.1 F₃.fr.ns (fun h₅ hn₅ hs₅ => wpAny_pure ?_) hy.2)))
  exact h v₀ v₁ _ hp ((SK.of fun b o e => up₃ b o (keeps_get kk b o e)).trans ((sk_same_cell (F₂.cl.cell n₀ c hcc) hs₄).trans (sk_same_ns F₃.fr.ns hs₅))) (Nat.le_succ_of_le ht) (F₃.setLocal (Nat.le_succ _) hn₅ hs₅)

theorem spliced_two {x y : Sem Value} {Q : List Value → Shared → Prop} (h : wpAny (model pw w) A x (fun a s₁ => wpAny (model pw w) A y (fun b s₂ => Q [a, b] s₂) E s₁) E s) : wpAny (model pw w) A (spliced [(false, x), (false, y)]) Q E s :=
  spliced_cons (wpAny_mono h (fun _ _ h₁ => spliced_cons (wpAny_mono h₁ (fun _ _ h₂ => spliced_nil h₂) fun _ _ e => e)) fun _ _ e => e)
/-- a pair of two expressions -/
theorem evT_pair {e₀ e₁ : Expr} {k : Nat} {pos : Pos} {P₀ P₁ : Value → Prop} (h0 : EvP w A env e₀ s (fun v _ => P₀ v)) (h1 : EvP w A env e₁ s (fun v _ => P₁ v)) (hst : backTo pos (starEach [e₀, e₁] env) = [(false, eval e₀ env), (false, eval e₁ env)] := by rfl) :
    EvT w A env (.Tuple [e₀, e₁] k pos) s (fun v₀ v₁ => P₀ v₀ ∧ P₁ v₁) := fun s' kk E => by
  refine wpAny_Tuple ?_
  rw [hst]
  refine spliced_two ((h0 s' kk).here fun v₀ s₁ r₀ k₁ => (h1 s₁ (kk.trans k₁)).here fun v₁ s₂ r₁ k₂ => ?_)
  have e0 : ([v₀, v₁] : List Value).length ≤ sizeLine := by
    have e1 : ([v₀, v₁] : List Value).length = 2 := rfl
    have e2 : sizeLine = 16777216 := rfl
    omega
  have hT : (s₂.heap.push { cls := .type "tuple", data := .seq ([v₀, v₁] : List Value).toArray }).IsTuple s₂.heap.objs.size #[v₀, v₁] := ⟨_, Heap.get?_push_size _ rfl, rfl, _, rfl⟩
  have hK : Keeps s' { s₂ with heap := s₂.heap.push { cls := .type "tuple", data := .seq ([v₀, v₁] : List Value).toArray } } := keeps_trans (k₁.trans k₂).k ⟨_, _, rfl, fun _ _ e => Heap.get?_push_of_some _ e⟩
  exact ⟨e0, ⟨_, v₀, v₁, rfl, hT, r₀, r₁⟩, hK⟩

/-- x, y = (a, b), stored one by one: x a cell, y a local -/
theorem sx_assignSw {n₀ n₁ : Str} {p₀ p₁ pt pos : Pos} {x1 : Nat} {c : Addr} {value : Expr} {P : Value → Value → Prop} (hh : A.handled = none) (F : FS s₀ env.locals m cs cm ow hk s) (hv : EvT w A env value s P) (hx : okC n₀ c env) (hcc : cs.lookup n₀ = some c) (hy : ok1 n₁ env)
    (h : ∀ v₀ v₁ s', P v₀ v₁ → SK s.heap s'.heap → s.toks ≤ s'.toks → FS s₀ env.locals (upd m n₁ v₁) cs (upd cm n₀ v₀) ow hk s' → wpAny (model pw w) A (execs rest env) Q E s')
    (hs : swapsWithSole [.Tuple [.Name n₀ p₀, .Name n₁ p₁] x1 pt] value pos.line env = pure false := by rfl) (hw : swappedStores [.Tuple [.Name n₀ p₀, .Name n₁ p₁] x1 pt] value env = pure (some [n₀, n₁]) := by rfl) :
    wpAny (model pw w) A (execs (.Assign [.Tuple [.Name n₀ p₀, .Name n₁ p₁] x1 pt] value pos :: rest) env) Q E s := by
  refine wpAny_execs_cons (Assign_Tuple_swapped (wpAny_mono (wpAny_toks_of (Nat.le_refl _) (hv s (WK.refl s) E)) (fun v s₁ y => ?_) fun _ _ e => e.2) hs hw)
  obtain ⟨ht, ⟨T, v₀, v₁, rfl, hT, hp⟩, kk⟩ := y
  have F₁ := F.grow ⟨kk, ht⟩
  rw [show ([n₀, n₁] : List Str).length = (#[v₀, v₁] : Array Value).size from rfl]
  refine unpackItems_tuple hh hT fun h₃ hx₃ => ?_
  replace hx₃ : Heap.ExtBut s₁.heap.objs.size s₁.heap h₃ := hx₃
  have up₃ : ∀ b o, s₁.heap.get? b = some o → h₃.get? b = some o := fun b o x => hx₃ b o (Nat.ne_of_lt (Heap.lt_size x)) x
  have F₂ := F₁.grow (kt_heap up₃)
  rw [show assignInOrder (([n₀, n₁] : List Str).reverse.map fun n => bindName env n) (#[v₀, v₁] : Array Value).toList.reverse = (do holding [v₀] (bindName env n₁ v₁); do holding [] (bindName env n₀ v₀); pure ()) from rfl]
  refine wpAny_bind (wpAny_holding (wpAny_bindName (wpAny_storeName_local hy.1 F₂.fr.ns (fun h₄ hn₄ hs₄ => ?_) hy.2)))
  have F₃ := F₂.setLocal (Nat.le_succ _) hn₄ hs₄
  refine wpAny_bind (wpAny_holding (wpAny_bindName (wpAny_storeName_cell hx.1 hx.2.1 hx.2.2 (F₃.cl.cell n₀ c hcc) fun h₅ hn₅ hs₅ => wpAny_pure ?_)))
  exact h v₀ v₁ _ hp ((SK.of fun b o e => up₃ b o (keeps_get kk b o e)).trans ((sk_same_ns F₂.fr.ns hs₄).trans (sk_same_cell (F₃.cl.cell n₀ c hcc) hs₅))) (Nat.le_succ_of_le ht) (F₃.setCell hcc hn₅ hs₅)

theorem tv_neS {l r : Expr} {pos : Pos} {x : Str} (hl : EvS w A env l s x) (hr : EvS w A env r s x) (hm : behindInMarks .NotEq r = false := by with_unfolding_all rfl) : TvB w A env (.Compare l [.NotEq] [r] pos) s false := fun s' k E =>
  wpAny_isTrue_Compare1 ((hl s' k).here fun va s₁ ⟨t, ea⟩ k₁ => (hr s₁ (k.trans k₁)).here fun vb s₂ ⟨u, eb⟩ k₂ => by
    subst ea eb
    exact ne_str (wpAny_truthy_bool ⟨by simp, (k₁.trans k₂).k⟩)) hm
end
end Law62

set_option maxRecDepth 100000
set_option linter.unusedVariables false
namespace Law62
open PySem PySem.W PySem.Calls PyProof.Rows

/-- a list of P's -/
def LP {ι : Type} (P : Value → ι → Heap → Prop) (h : Heap) (v : Value) (is : List ι) : Prop := ∃ D items, v = .ref D ∧ h.IsList D items ∧ All2 (fun v i => P v i h) items.toList is
def Mono {ι : Type} (P : Value → ι → Heap → Prop) : Prop := ∀ v i (h h' : Heap), (∀ b o, h.get? b = some o → h'.get? b = some o) → P v i h → P v i h'
def Pr (v : Value) (x : Int × Int) (h : Heap) : Prop := ∃ T v₀ v₁, v = .ref T ∧ h.IsTuple T #[v₀, v₁] ∧ IsI v₀ x.1 ∧ IsI v₁ x.2
theorem mono_Pr : Mono Pr := fun v x h h' k ⟨T, v₀, v₁, e, ⟨o, ho, r⟩, a, b⟩ => ⟨T, v₀, v₁, e, ⟨o, k _ _ ho, r⟩, a, b⟩
def PLI (v : Value) (ns : List Int) (h : Heap) : Prop := LI h v ns
theorem mono_PLI : Mono PLI := fun v x h h' k y => (SK.of k).LI y
theorem LP.keeps {ι : Type} {P : Value → ι → Heap → Prop} (hP : Mono P) {h h' : Heap} {v : Value} {is : List ι} (x : LP P h v is) (k : ∀ b o, h.get? b = some o → h'.get? b = some o) : LP P h' v is := by
  obtain ⟨D, items, e, l, al⟩ := x
  exact ⟨D, items, e, l.at fun o e => k _ o e, al.mono fun v i y => hP v i h h' k y⟩

section
variable {w : World} {A : Around} {s : Shared} {env : Env} {mg mb : Str → Option Value} {ι : Type} {P : Value → ι → Heap → Prop}

theorem ev_listP {es : List Expr} {is : List ι} {pos : Pos} (hP : Mono P) (h : All2 (fun e i => EvP w A env e s (fun v h => P v i h)) es is) (hz : is.length ≤ 1000) (hst : backTo pos (starEach es env) = es.map fun e => (false, eval e env)) :
    EvP w A env (.List es pos) s (fun v h => LP P h v is) := fun s' k E => by
  refine List_ ?_
  rw [hst]
  refine wpAny_mono (spliced_evs hP s' k h E) (fun vs s'' y => ?_) fun _ _ e => e
  have hl := y.1.length
  have hs : sizeLine = 16777216 := rfl
  refine wpAny_newObj_type ?_ (by show vs.toArray.size ≤ sizeLine; rw [List.size_toArray]; omega)
  exact ⟨⟨_, vs.toArray, rfl, ⟨_, Heap.get?_push_size _ rfl, rfl, _, rfl⟩, by simpa using y.1.mono fun v i z => hP v i _ _ (fun _ _ e => Heap.get?_push_of_some _ e) z⟩, keeps_trans y.2.k ⟨_, _, rfl, fun _ _ e => Heap.get?_push_of_some _ e⟩⟩

theorem ev_itemP {e i : Expr} {pos : Pos} {is : List ι} {k : Int} {x : ι} (hP : Mono P) (h : EvP w A env e s (fun v h => LP P h v is)) (hi : EvI w A env i s k) (h0 : 0 ≤ k) (hk : k < 2 ^ 63) (hx : is[k.toNat]? = some x)
    (hs : ∀ o u, subscripted i false o (.int k u) = operate [o, .int k u] (getItem o (.int k u)) := by intro _ _; with_unfolding_all rfl) (ht : ∀ o r, letTemporaryGo e o r = pure () := by intro _ _; with_unfolding_all rfl) :
    EvP w A env (.Subscript e i pos) s (fun v h => P v x h) := fun s' k' E =>
  Subscript_ ((h s' k').here fun v s₁ ⟨a, items, ev, hl, al⟩ k₁ => (hi s₁ (k'.trans k₁)).here fun iv s₂ ⟨t, ei⟩ k₂ => by
    subst ev ei
    have hl₂ : s₂.heap.IsList a items.toList.toArray := by simpa using hl.at fun o e => k₂.get _ o e
    obtain ⟨v, e1, e2⟩ := al.get _ _ hx
    exact subscriptTail_builtin (T := "list") hl₂.typeIs list_getitem_lookup (getItem_listL hl₂ h0 hk e1 ⟨hP _ _ _ _ k₂.get e2, (k₁.trans k₂).k⟩) (hs _ _) (ht _))

/-- e[:k] -/
theorem ev_takeP {e : Expr} {hi : Option Expr} {p pos : Pos} {is : List ι} {k : Nat} (hP : Mono P) (h : EvP w A env e s (fun v h => LP P h v is)) (hn : is.length ≤ 1000000) (h2 : EvPart w A env hi s (some (k : Int)))
    {ops : Value → Value → List Value} (ht : ∀ o r, letTemporaryGo e o r = pure () := by intro _ _; with_unfolding_all rfl) (hs : ∀ o i, subscripted (.Slice none hi none p) false o i = operate (ops o i) (getItem o i) := by intro _ _; with_unfolding_all rfl) :
    EvP w A env (.Subscript e (.Slice none hi none p) pos) s (fun v h => LP P h v (is.take k)) := fun s' kk E => by
  refine Subscript_ ((h s' kk).here fun v s₁ ⟨l, items, ev, hl, hR⟩ k₁ => wpAny_Slice ((evPart_none s₁ (kk.trans k₁)).here fun vl s₂ pl k₂ => (h2 s₂ ((kk.trans k₁).trans k₂)).here fun vu s₃ pu k₃ => (evPart_none s₃ (((kk.trans k₁).trans k₂).trans k₃)).here fun vk s₄ pk k₄ => ?_))
  subst ev
  have k5 := ((k₁.trans k₂).trans k₃).trans k₄
  have hl₄ : s₄.heap.IsList l items := hl.at fun o e => ((k₂.trans k₃).trans k₄).get _ o e
  have hR₄ : All2 (fun v i => P v i s₄.heap) items.toList is := hR.mono fun v i y => hP v i _ _ ((k₂.trans k₃).trans k₄).get y
  have hz : sizeLine = 16777216 := rfl
  have hsz : items.size ≤ 1000000 := by have := hR.length; rw [Array.length_toList] at this; omega
  refine subscriptTail_ops (Heap.IsList.typeIs (s := { s₄ with heap := s₄.heap.push { cls := .type "slice", data := .fields #[vl, vu, vk] } }) (hl₄.push _)) list_getitem_lookup (wpAny_getItem_list_slice (hl₄.push _) (Heap.IsSliceOf.new ..) pl pu pk (by decide) ?_ (by omega)) (hs _ _) (ht _)
  rw [slicePick_upto']
  refine ⟨⟨_, (items.toList.take k).toArray, rfl, ⟨_, Heap.get?_push_size _ rfl, rfl, _, rfl⟩, ?_⟩, keeps_trans k5.k ⟨_, _, rfl, fun b o e => Heap.get?_push_of_some _ (Heap.get?_push_of_some _ e)⟩⟩
  rw [List.toList_toArray]
  exact (hR₄.mono fun v i y => hP v i _ _ (fun b o e => Heap.get?_push_of_some _ (Heap.get?_push_of_some _ e)) y).take k

/-- list + list -/
theorem ev_addP {l r : Expr} {pos : Pos} {is js : List ι} (hP : Mono P) (hl : EvP w A env l s (fun v h => LP P h v is)) (hr : EvP w A env r s (fun v h => LP P h v js)) (hz : is.length ≤ 1000) (hz₂ : js.length ≤ 1000) :
    EvP w A env (.BinOp l .Add r pos) s (fun v h => LP P h v (is ++ js)) := fun s' k E =>
  wpAny_BinOp ((hl s' k).here fun v s₁ ⟨a, items, ev, hla, hp⟩ k₁ => (hr s₁ (k.trans k₁)).here fun v₂ s₂ ⟨b, items₂, ev₂, hlb, hp₂⟩ k₂ => by
    subst ev ev₂
    obtain ⟨⟨cls, dd, data, sl⟩, ho, hc, n, hd⟩ := hla.at fun o e => k₂.get _ o e
    obtain ⟨⟨cls2, dd2, data2, sl2⟩, ho2, hc2, n2, hd2⟩ := id hlb
    simp only at hc hd hc2 hd2
    subst hc hd hc2 hd2
    have hs : sizeLine = 16777216 := rfl
    have z1 := hp.length
    have z2 := hp₂.length
    rw [Array.length_toList] at z1 z2
    refine concat_meets ⟨_, ho, rfl⟩ ⟨_, ho2, rfl⟩ noFill_list_add seq_list_add PySem.F.slot_list_add PySem.F.entry_list_add (PySem.F.args_list_add_2 _ _) (list_addW a b items items₂ n n2 dd dd2 sl sl2 (by omega)) ⟨ho, ho2, ?_⟩
    refine ⟨⟨_, items ++ items₂, rfl, ⟨_, Heap.get?_push_size _ rfl, rfl, _, rfl⟩, ?_⟩, keeps_trans (k₁.trans k₂).k ⟨_, _, rfl, fun _ _ e => Heap.get?_push_of_some _ e⟩⟩
    rw [Array.toList_append]
    exact (hp.mono fun v i y => hP v i _ _ (fun b o e => Heap.get?_push_of_some _ (k₂.get b o e)) y).append (hp₂.mono fun v i y => hP v i _ _ (fun b o e => Heap.get?_push_of_some _ e) y))

/-- a comprehension -/
theorem ev_compP {κ : Type} {elt iter tgt : Expr} {ifs : List Expr} {scope : Scope} {cl : List (Str × Addr)} {pos : Pos} {ok : Env → Prop} {xs : List κ} {B : κ → (Str → Option Value) → (Str → Option Value) → Prop} {src : List Addr}
    (hit : ItP w A env iter s tgt ok xs B src) (hRo : Own fun i v h => P v i h) (p : κ → Bool) (f : κ → ι) (hlen : xs.length ≤ 1000000)
    (hclos : closureFor scope env = pure cl) (hcell : ∀ y ∈ scope.names, y.2 ≠ .cell) (hkind : scope.kind = .function) (hnames : ∀ y ∈ scope.names, y.2 = .local → scope.names.lookup y.1 = some .local) (hok : ∀ C, ok (compEnvC scope cl C env))
    (htest : ∀ C x m m' s₃, x ∈ xs → WK s s₃ → B x m m' → s₃.heap.Ns C m' → TsB w A (compEnvC scope cl C env) ifs s₃ (p x))
    (helt : ∀ C x m m' s₃, x ∈ xs → WK s s₃ → p x = true → B x m m' → s₃.heap.Ns C m' → EvF w A (compEnvC scope cl C env) elt s₃ (fun v h => P v (f x) h))
    (hs : ∀ x, foldedSetIterable iter env x = pure x := by intro _; rfl) :
    EvP w A env (.ListComp elt [⟨tgt, iter, ifs, 0⟩] scope pos) s (fun v h => LP P h v ((xs.filter p).map f)) := fun s' k E =>
  wpAny_mono (comp_gen hit (fun i v h => P v i h) hRo p f hlen hclos hcell hkind hnames hok htest helt hs s' k E)
    (fun v s'' x => by
      obtain ⟨⟨D, it, e, l, f, M⟩, kk⟩ := x
      exact ⟨⟨D, it, e, l.isList, M.1.mono fun v k y => y.1⟩, kk⟩) fun _ _ e => e

def PI (v : Value) (i : Int) (_ : Heap) : Prop := IsI v i
theorem LP.LI {h : Heap} {v : Value} {ns : List Int} (x : LP PI h v ns) : LI h v ns := x
theorem LP.LLI {h : Heap} {v : Value} {nss : List (List Int)} (x : LP PLI h v nss) : LLI h v nss := x
theorem LLI.LP {h : Heap} {v : Value} {nss : List (List Int)} (x : LLI h v nss) : LP PLI h v nss := x

/-- two lists of ints that hold the same -/
theorem eqAt_ints {l b : Addr} {ns : List Int} {it it₂ : Array Value} (hl : s.heap.IsList l it) (hb : s.heap.IsList b it₂) (h1 : All2 IsI it.toList ns) (h2 : All2 IsI it₂.toList ns) (hu : A.units < cLine) : SeqAt.EqAt A s (.ref l) (.ref b) true := by
  by_cases hne : l = b
  · subst hne; exact SeqAt.EqAt.same _
  · have z1 := h1.length
    have z2 := h2.length
    rw [Array.length_toList] at z1 z2
    have := SeqAt.EqAt.of_refs hne (SeqAt.RcAt.lists (e := fun _ => true) hl hb (by omega) hu fun j j1 j2 => by
      have hj : j < ns.length := by omega
      obtain ⟨v, e1, t, ev⟩ := h1.get j ns[j] (List.getElem?_eq_getElem hj)
      obtain ⟨v₂, e2, t₂, ev₂⟩ := h2.get j ns[j] (List.getElem?_eq_getElem hj)
      rw [Array.getElem?_toList, Array.getElem?_eq_getElem j1] at e1
      rw [Array.getElem?_toList, Array.getElem?_eq_getElem j2] at e2
      rw [Option.some.inj e1, Option.some.inj e2, ev, ev₂]
      have := SeqAt.EqAt.int_int (A := A.in1) (s := s) ns[j] t ns[j] t₂
      rwa [beq_self_eq_true] at this)
    have e : (List.range it.size).all (fun _ => true) = true := by simp
    rwa [e] at this

/-- == of two lists of lists that hold the same -/
theorem ev_eqLL {l r : Expr} {pos : Pos} {nss : List (List Int)} (hu : A.in1.units < cLine) (hu' : A.units < cLine) (hl : EvP w A env l s (fun v h => LLI h v nss)) (hr : EvP w A env r s (fun v h => LLI h v nss)) (hm : behindInMarks .Eq r = false := by with_unfolding_all rfl) :
    EvP w A env (.Compare l [.Eq] [r] pos) s (fun v _ => v = .bool true) := fun s' k E =>
  wpAny_Compare1 ((hl s' k).here fun va s₁ ⟨a, it, ea, hla, h1⟩ k₁ => (hr s₁ (k.trans k₁)).here fun vb s₂ ⟨b, it₂, eb, hlb, h2⟩ k₂ => by
    subst ea eb
    have hla : s₂.heap.IsList a it := hla.at fun o e => k₂.get _ o e
    have h1 : All2 (fun v ns => LI s₂.heap v ns) it.toList nss := h1.mono fun v ns y => (SK.of k₂.get).LI y
    have z1 := h1.length
    have z2 := h2.length
    rw [Array.length_toList] at z1 z2
    refine SeqAt.eq_listAt (e := fun _ => true) hla hlb (by omega) hu' (fun j j1 j2 => ?_) ⟨by simp, (k₁.trans k₂).k⟩
    have hj : j < nss.length := by omega
    obtain ⟨v, e1, c, ic, ev, lc, ac⟩ := h1.get j nss[j] (List.getElem?_eq_getElem hj)
    obtain ⟨v₂, e2, d, id, ev₂, ld, ad⟩ := h2.get j nss[j] (List.getElem?_eq_getElem hj)
    rw [Array.getElem?_toList, Array.getElem?_eq_getElem j1] at e1
    rw [Array.getElem?_toList, Array.getElem?_eq_getElem j2] at e2
    rw [Option.some.inj e1, Option.some.inj e2, ev, ev₂]
    exact eqAt_ints lc ld ac ad hu) hm

end
end Law62

set_option maxRecDepth 100000
set_option linter.unusedVariables false
namespace Law62
open PySem PySem.W PySem.Calls PyProof.Rows

section
variable {w : World} {A : Around} {s s₀ : Shared} {env : Env} {m cm : Str → Option Value} {cs : List (Str × Addr)} {ow : List (Addr × List Value)} {hk : Heap}
theorem ev_localT {x : Str} {pos : Pos} {v : Value} {R : Value → Heap → Prop} (hR : ∀ v h h', SK h h' → R v h → R v h') (F : FS s₀ env.locals m cs cm ow hk s) (hv : m x = some v) (r : R v s.heap) (hk : env.scope.kind = .function := by rfl) (hl' : env.kindOf x = some .local := by rfl)
    (hd : (x == ("__debug__" : Str)) = false := by decide) : EvP w A env (.Name x pos) s R := fun s' k E =>
  (ev_local F.fr.ns hv hk hl' hd s' k).here fun y s'' e kt => ⟨e ▸ hR _ _ _ (SK.of fun b o e => kt.get b o (k.get b o e)) r, kt.k⟩
theorem ev_cellT {x : Str} {pos : Pos} {c : Addr} {v : Value} {R : Value → Heap → Prop} (hR : ∀ v h h', SK h h' → R v h → R v h') (hc : env.cells.lookup x = some c) (hcv : s.heap.IsCell c (some v)) (r : R v s.heap) (hk : env.scope.kind = .function := by rfl) (hl' : env.kindOf x = some .cell := by rfl)
    (hd : (x == ("__debug__" : Str)) = false := by decide) : EvP w A env (.Name x pos) s R := fun s' k E =>
  (ev_cell hc hcv hk hl' hd s' k).here fun y s'' e kt => ⟨e ▸ hR _ _ _ (SK.of fun b o e => kt.get b o (k.get b o e)) r, kt.k⟩
end
section
variable {w : World} {A : Around} {s : Shared} {env : Env}
theorem itP_listN {ι : Type} {e : Expr} {n : Str} {px : Pos} {xs : List ι} {P : ι → Value → Prop} (hh : A.handled = none) (h : EvN w A env e s (fun vs _ => All2 (fun v x => P x v) vs xs)) :
    ItP w A env e s (.Name n px) (ok1 n) xs (B1 n P) [] := fun s' k E => wpAny_mono (wpAny_toks_of (Nat.le_refl _) (h s' k E)) (fun v s₁ y => by
  obtain ⟨htk, ⟨a, items, rfl, hp, hf, hP⟩, kk⟩ := y
  have hl := hp.isList
  have kt : KT s' s₁ := ⟨kk, htk⟩
  have hlt := list_lt hl
  refine wpAny_pyIter_list hl ⟨s₁.heap.objs.size, [s₁.heap.objs.size, a], [s₁.heap.objs.size], _, 0, rfl, fun env' hok => Trn.of_walks (Walks.list hh s₁.heap.objs.size a (Nat.ne_of_lt hlt) items) ?_ ?_ ?_ hok, Nat.zero_le _, ⟨⟨_, Heap.get?_push_size _ rfl, rfl, rfl⟩, hl.push _⟩, ?_, ?_, kt.trans (kt_push _ _)⟩
  · rw [← hP.length, Array.length_toList]
  · intro i x v hx hv
    obtain ⟨v', e1, e2⟩ := hP.get i x hx
    rw [Array.getElem?_toList] at e1
    rw [hv] at e1; cases e1; exact e2
  · intro i h st b hb
    simp at hb
    rcases hb with rfl | rfl
    · obtain ⟨o, e, _⟩ := st.1; exact ⟨o, e⟩
    · obtain ⟨o, e, _⟩ := st.2; exact ⟨o, e⟩
  · intro b hb
    simp at hb
    rcases hb with rfl | rfl
    · exact .inl (fresh_of kt (Nat.le_refl _))
    · exact .inl hf
  · intro b hb
    simp at hb; subst hb
    exact fresh_of kt (Nat.le_refl _)) fun _ _ e => e.2
/-- [..][i], the list a temporary one -/
theorem ev_itemPT {ι : Type} {P : Value → ι → Heap → Prop} {e i : Expr} {pos : Pos} {is : List ι} {k : Int} {x : ι} (hP : Mono P) (h : EvP w A env e s (fun v h => LP P h v is)) (hi : EvI w A env i s k) (h0 : 0 ≤ k) (hk : k < 2 ^ 63) (hx : is[k.toNat]? = some x)
    (hs : ∀ o u, subscripted i false o (.int k u) = operate [o, .int k u] (getItem o (.int k u)) := by intro _ _; with_unfolding_all rfl) :
    EvP w A env (.Subscript e i pos) s (fun v h => P v x h) := fun s' k' E =>
  Subscript_ ((h s' k').here fun v s₁ hLP k₁ => (hi s₁ (k'.trans k₁)).here fun iv s₂ hiv k₂ => by
    obtain ⟨a, items, ev, hl, al⟩ := hLP
    obtain ⟨t, ei⟩ := hiv
    subst ev ei
    have hl₂ : s₂.heap.IsList a items.toList.toArray := by simpa using hl.at fun o e => k₂.get _ o e
    obtain ⟨v, e1, e2⟩ := al.get _ _ hx
    exact subscriptTail_builtinR (T := "list") (x := v) hl₂.typeIs list_getitem_lookup (getItem_listL hl₂ h0 hk e1 ⟨rfl, hP _ _ _ _ k₂.get e2, (k₁.trans k₂).k⟩) (hs _ _))
theorem All2.of_map {α β γ : Type} {P : α → γ → Prop} {f : β → γ} : ∀ {as : List α} {bs : List β}, All2 P as (bs.map f) → All2 (fun a b => P a (f b)) as bs
  | _, [], h => by cases h; exact .nil
  | _, b :: bs, h => by cases h with | cons x r => exact .cons x r.of_map
theorem lens16 {hand : Nat} (h : hand < 5) : (lensOf hand).length = 16 := by
  have : hand = 0 ∨ hand = 1 ∨ hand = 2 ∨ hand = 3 ∨ hand = 4 := by omega
  rcases this with rfl | rfl | rfl | rfl | rfl <;> decide
theorem own_PLI : Own fun (ns : List Int) v h => PLI v ns h := fun k v h h' hk ⟨D, it, e, l, al⟩ => by
  obtain ⟨o, e1, r⟩ := l
  exact ⟨D, it, e, ⟨o, hk D e o e1, r⟩, al⟩
theorem EvF.mono {e : Expr} {R R' : Value → Heap → Prop} (h : EvF w A env e s R) (k : ∀ v h', R v h' → R' v h') : EvF w A env e s R' := fun s' kk E =>
  wpAny_mono (h s' kk E) (fun v s'' x => ⟨⟨k _ _ x.1.1, x.1.2⟩, x.2⟩) fun _ _ e => e
theorem evN_rep {e r : Expr} {i : Int} {p pos : Pos} {n : Nat} (he : EvI w A env e s i) (hr : EvI w A env r s (n : Int)) (hn : n ≤ 1000) (hst : backTo p (starEach [e] env) = [e].map fun e => (false, eval e env) := by rfl) :
    EvN w A env (.BinOp (.List [e] p) .Mult r pos) s (fun vs _ => All2 IsI vs (List.replicate n i)) := fun s' kk E =>
  wpAny_mono (evN_mul (us := fun u => All2 IsI u [i]) ((evN_ints (ns := [i]) (.cons he .nil) (by simp) hst).evP.mono fun v h x => by
      obtain ⟨D, it, e, l, al⟩ := x
      exact ⟨D, it, e, l, al, by have := al.length; rw [Array.length_toList] at this; simp at this; omega⟩) hr (by omega) (by omega) s' kk E)
    (fun v s'' x => by
      obtain ⟨⟨D, it, e, l, f, u, hu, ev⟩, kk⟩ := x
      refine ⟨⟨D, it, e, l, f, ?_⟩, kk⟩
      cases hu with
      | cons h1 h2 => cases h2; rw [ev]; simpa using All2.replicate h1 n) fun _ _ e => e
theorem evF_PI {e : Expr} {i : Int} (h : EvI w A env e s i) : EvF w A env e s (fun v h => PI v i h) := evF_pure h fun v ⟨t, e⟩ T => by rw [e]; exact fun h => by cases h
theorem own_PI : Own fun (i : Int) v h => PI v i h := fun _ _ _ _ _ x => x
end

theorem sk_LI (ns : List Int) : ∀ v h h', SK h h' → LI h v ns → LI h' v ns := fun _ _ _ k x => k.LI x
theorem sk_LS (ns : List Str) : ∀ v h h', SK h h' → LS h v ns → LS h' v ns := fun _ _ _ k x => k.LS x
theorem sk_LLI (ns : List (List Int)) : ∀ v h h', SK h h' → LLI h v ns → LLI h' v ns := fun _ _ _ k x => k.LLI x
theorem sk_pure (P : Value → Prop) : ∀ v (h h' : Heap), SK h h' → P v → P v := fun _ _ _ _ x => x

def pairT : List (Int × Int) := [(3, 3), (4, 2), (5, 2), (2, 5)]
def cellsOf (ns : List Int) : List Int := (pickNums ns none (some 12) none).map fun c => c.fmod 1000000
def dealsOf (cells : List Int) (k : Nat) : List Int := (rangeInts 0 1 k).map fun p => (pickNums cells (some p) none (some 5)).sum
def levelOf (sums : List (List Int)) (k : Nat) (product : List Int) : List (List Int) := sums.take k ++ [((sums.getD k []).zip product).map fun x => x.1 - x.2]

/-- what is asked of the plain law -/
structure PlainOk (hand lead m k : Nat) (deals : List Int) : Prop where
  fig : ∀ j : Nat, j < m → 0 < (figsOf (lensOf hand) m j).length
  rlen : (rowsOf (lensOf hand) m deals).length = k
  row : ∀ r ∈ rowsOf (lensOf hand) m deals, r.length = m ∧ ∀ x ∈ r, 0 ≤ x ∧ x < 16
  num : ∃ Ns : List Nat, numbersOf lead (rowsOf (lensOf hand) m deals) = Ns.map (fun n : Nat => (n : Int)) ∧ Ns.length ≤ 32 ∧
    (∀ n ∈ Ns, n < 16 ^ 8 ∧ (∀ j, (((escBy hand).take j).foldl escStep (textOf n)).length ≤ 1048576) ∧ (escText hand n).length ≤ 1000) ∧
    (∀ j, ((((written hand).zip marks.cps.toList).take j).foldl readStep (Txt.join " " (Ns.map (escText hand)))).length ≤ 1048576) ∧
    readOf hand (Ns.map (escText hand)) = plainAll k (Ns.map (fun n : Nat => (n : Int))) ∧
    Sz m (k + 1) (sumsOf m k (Ns.map (fun n : Nat => (n : Int))) (Ns.map (escText hand))) ∧
    ∀ line ∈ levelOf (sumsOf m k (Ns.map (fun n : Nat => (n : Int))) (Ns.map (escText hand))) k (productOf m (((lensOf hand).getD lead 0).fmod m).toNat (rowsOf (lensOf hand) m deals)), ∃ c, line = List.replicate m c

theorem ok1_mk {x : Str} {env : Env} (h1 : env.kindOf x = some .local) (h2 : (env.scope.kind == .class || (env.scope.kind == .module && env.locals != env.globals)) = false) : ok1 x env := ⟨h1, h2⟩
theorem lk178 (P : Params) : (KE P).lookup 178 = some (fnO 23 "law_tr0062_01" 2271 177) := by kernel_rfl!
theorem ci178 (P : Params) : codeIn (KE P) (.ref 177) (fname 23) = true := by kernel_rfl!
theorem kp178 (P : Params) : keepIn (KE P) (.ref 178) = true := by kernel_rfl!
theorem cellsFrom_names : ∀ (names : List (Str × NameKind)) (n m : Nat) (a b : List (Str × Addr)), a.map (·.1) = b.map (·.1) → (cellsFrom n names a).map (·.1) = (cellsFrom m names b).map (·.1)
  | [], _, _, _, _, h => h
  | (x, k) :: r, n, m, a, b, h => by
    unfold cellsFrom
    split
    · exact cellsFrom_names r _ _ _ _ (by rw [List.map_cons, List.map_cons, h])
    · exact cellsFrom_names r _ _ _ _ h
theorem cs23 (n : Nat) : ((cellsFrom n (fsc 23).names []).map (·.1)).Nodup := by
  rw [cellsFrom_names _ n 0 [] [] rfl]; decide +kernel

theorem law_spec (plain : ∀ (hand lead m k : Nat) (deals : List Int), hand < 5 → 1 ≤ lead → lead < 16 → ((m : Int), (k : Int)) ∈ pairT → deals.length = k → PlainOk hand lead m k deals)
    {w : World} {A : Around} {s : Shared} {mg mb : Str → Option Value} {n : Nat} (Rm' : Rm A (n + 4)) (G : Gd w mg mb s.heap) {ns : List Int} {sv : Value} (hs : LI s.heap sv ns) (hlen : ns.length ≤ 1000) :
    Gv w A (call (.ref 178) [sv]) s (fun v _ => v = .bool true) := by
  obtain ⟨sa, sits, rfl, hsl, hsa⟩ := hs
  refine fn_call (i := 23) (binds := [("script", .ref sa)]) Rm' G (lk178 _) (by rfl) (ci178 _) (by rfl) (by
    intro n x hx
    simp only [List.mem_cons, List.not_mem_nil, or_false] at hx
    subst hx
    left; rfl) (by rfl) (by rfl) (by rfl) fun s₁ R₁ F => ?_
  have hh := R₁.hh
  have Gs : ∀ {s' : Shared}, WK s s' → Gd w mg mb s'.heap := fun k => G.keeps k.get
  have q_script : bindL (envF 23 s.heap.objs.size 178 177).kindOf [("script", .ref sa)] (fun _ => none) "script" = some (.ref sa) := by rfl
  generalize bindL (envF 23 s.heap.objs.size 178 177).kindOf [("script", .ref sa)] (fun _ => none) = m0 at F q_script
  generalize bindC (envF 23 s.heap.objs.size 178 177).kindOf [("script", .ref sa)] (fun _ => none) = c0 at F
  have L_script : LI s₁.heap (.ref sa) ns := ⟨sa, sits, rfl, isList_keeps _ _ F.kt.get hsl, hsa⟩
  -- cells
  have hG := Gs F.kt.wk
  have hpl : (pickNums ns none (some 12) none).length ≤ 1000 := Nat.le_trans (length_pickNums_le hsa.ints _ _ _) hlen
  refine sx_assignHC (R := fun v h => LI h v (cellsOf ns)) (sk_LI _) F ((ev_compP (P := PI) (itP_listN (P := fun x v => IsI v x) hh (evN_sliceI (ev_localT (sk_LI _) F q_script L_script) (by omega) evPart_none (evPart_int (evI_const 12 _ _)) evPart_none (by decide))) own_PI (fun _ => true) (fun c => c.fmod 1000000) (by omega)
    (by rfl) (by decide +kernel) (by rfl) (by decide +kernel) (fun C => ⟨by rfl, by rfl⟩) (fun C x mm mm' s₃ hx wk hB hn => tsB_nil) (fun C x mm mm' s₃ hx wk hp hB hn => ?_)).mono fun v h x => by rw [filter_tt] at x; exact x) ⟨by rfl, by rfl, by rfl⟩ (by rfl) fun cv s₂ L_cells k₂ t₂ F₂ => ?_
  · obtain ⟨v', ⟨t', hv'⟩, e⟩ := hB
    subst e hv'
    have hG₃ := hG.keeps wk.get
    exact evF_PI (EvI.cast (evI_mod (b := 1000000) (ev_call1 (ev_builtin hG₃ (hG₃.no _ g_int) (show bootBuiltins "int" = some (.type "int") by decide +kernel) (by decide)) (cb_type _) (ev_local hn (upd_same _ _ _)) (fun v s' k ev E => by
      subst ev
      exact call_int_int ⟨⟨_, rfl⟩, keeps_refl _⟩)) (EvI.cast (evI_pow (evI_const 10 _ _) (evI_const 6 _ _) (by decide) (by decide) (by decide)) (by decide)) (by decide)) rfl)
  -- total
  have hG₂ := Gs F₂.kt.wk
  have kC₂ := F₂.cellAt (x := "cells") (by rfl) (upd_same _ "cells" cv)
  have c_cells : (upd c0 "cells" cv) "cells" = some cv := upd_same _ _ _
  generalize upd c0 "cells" cv = c1 at F₂ c_cells
  refine sx_assignH (R := fun v _ => IsI v (cellsOf ns).sum) (sk_pure _) F₂ (evI_sum hG₂ (hG₂.no _ g_sum) hh (ev_cellT (sk_LI _) (by rfl) kC₂ L_cells)) ⟨by rfl, by rfl⟩ fun tv s₃ hT k₃ t₃ F₃ => ?_
  replace L_cells := k₃.LI L_cells
  have F₃ := F₃.raise (T := 1) (Nat.lt_of_le_of_lt (Nat.zero_le _) t₃)
  have q_total : (upd m0 "total" tv) "total" = some tv := upd_same _ _ _
  generalize upd m0 "total" tv = m1 at F₃ q_total
  generalize htot : (cellsOf ns).sum = total at hT
  obtain ⟨hand, ehand, hand5⟩ : ∃ hand : Nat, total.fmod 5 = (hand : Int) ∧ hand < 5 := ⟨(total.fmod 5).toNat, by have := fmod_lo total (n := 5) (by decide); omega, by have := fmod_hi total (n := 5) (by decide); have := fmod_lo total (n := 5) (by decide); omega⟩
  obtain ⟨lead, elead, lead1, lead16⟩ : ∃ lead : Nat, 1 + (total.fdiv 20).fmod 15 = (lead : Int) ∧ 1 ≤ lead ∧ lead < 16 := ⟨(1 + (total.fdiv 20).fmod 15).toNat, by have := fmod_lo (total.fdiv 20) (n := 15) (by decide); omega, by have := fmod_lo (total.fdiv 20) (n := 15) (by decide); omega, by have := fmod_hi (total.fdiv 20) (n := 15) (by decide); have := fmod_lo (total.fdiv 20) (n := 15) (by decide); omega⟩
  obtain ⟨m, k, emk, hmk⟩ : ∃ m k : Nat, pairT[((total.fdiv 5).fmod 4).toNat]? = some ((m : Int), (k : Int)) ∧ ((m : Int), (k : Int)) ∈ pairT := by
    have h0 := fmod_lo (total.fdiv 5) (n := 4) (by decide)
    have h1 := fmod_hi (total.fdiv 5) (n := 4) (by decide)
    have : ((total.fdiv 5).fmod 4).toNat = 0 ∨ ((total.fdiv 5).fmod 4).toNat = 1 ∨ ((total.fdiv 5).fmod 4).toNat = 2 ∨ ((total.fdiv 5).fmod 4).toNat = 3 := by omega
    rcases this with e | e | e | e <;> rw [e]
    · exact ⟨3, 3, rfl, by decide⟩
    · exact ⟨4, 2, rfl, by decide⟩
    · exact ⟨5, 2, rfl, by decide⟩
    · exact ⟨2, 5, rfl, by decide⟩
  -- hand, lead
  refine sx_assignTC hh F₃ (P := fun v₀ v₁ => IsI v₀ (hand : Int) ∧ IsI v₁ (lead : Int)) (evT_pair (EvI.cast (evI_mod (evI_local F₃ q_total hT) (evI_const 5 _ _) (by decide)) ehand)
    (EvI.cast (evI_add (evI_const 1 _ _) (evI_mod (evI_div (evI_local F₃ q_total hT) (evI_const 20 _ _) (by decide) (PyProof.noPylong_small (by decide))) (evI_const 15 _ _) (by decide))) elead)) ⟨by rfl, by rfl, by rfl⟩ (by rfl) ⟨by rfl, by rfl⟩ fun hv lv s₄ hvl k₄ t₄ F₄ => ?_
  obtain ⟨hhv, hlv⟩ := hvl
  replace L_cells := k₄.LI L_cells
  have q_total := (upd_other m1 lv (show ("total" : Str) ≠ "lead" by decide)).trans q_total
  have q_lead : (upd m1 "lead" lv) "lead" = some lv := upd_same _ _ _
  have c_cells := (upd_other c1 hv (show ("cells" : Str) ≠ "hand" by decide)).trans c_cells
  have c_hand : (upd c1 "hand" hv) "hand" = some hv := upd_same _ _ _
  generalize upd m1 "lead" lv = m2 at F₄ q_total q_lead
  generalize upd c1 "hand" hv = c2 at F₄ c_cells c_hand
  -- heaps, places
  have pr : ∀ {a b : Int} {p q r : Pos} {i j l : Nat}, EvP w (A.deeper (envF 23 s.heap.objs.size 178 177)) (envF 23 s.heap.objs.size 178 177) (.Tuple [.Constant (.int a) i p, .Constant (.int b) j q] l r) s₄ (fun v h => Pr v (a, b) h) := fun {a b p q r i j l} =>
    evT_pair (P₀ := fun v => IsI v a) (P₁ := fun v => IsI v b) (evI_const _ _ _) (evI_const _ _ _)
  have dsp : ∀ {e1 e2 e3 e4 : Expr} {p : Pos}, EvP w (A.deeper (envF 23 s.heap.objs.size 178 177)) (envF 23 s.heap.objs.size 178 177) e1 s₄ (fun v h => Pr v (3, 3) h) → EvP w (A.deeper (envF 23 s.heap.objs.size 178 177)) (envF 23 s.heap.objs.size 178 177) e2 s₄ (fun v h => Pr v (4, 2) h) →
      EvP w (A.deeper (envF 23 s.heap.objs.size 178 177)) (envF 23 s.heap.objs.size 178 177) e3 s₄ (fun v h => Pr v (5, 2) h) → EvP w (A.deeper (envF 23 s.heap.objs.size 178 177)) (envF 23 s.heap.objs.size 178 177) e4 s₄ (fun v h => Pr v (2, 5) h) →
      backTo p (starEach [e1, e2, e3, e4] (envF 23 s.heap.objs.size 178 177)) = [e1, e2, e3, e4].map (fun e => (false, eval e (envF 23 s.heap.objs.size 178 177))) →
      ∀ {i : Expr} {q : Pos}, EvI w (A.deeper (envF 23 s.heap.objs.size 178 177)) (envF 23 s.heap.objs.size 178 177) i s₄ ((total.fdiv 5).fmod 4) → (∀ o u, subscripted i false o (.int ((total.fdiv 5).fmod 4) u) = operate [o, .int ((total.fdiv 5).fmod 4) u] (getItem o (.int ((total.fdiv 5).fmod 4) u))) →
      EvT w (A.deeper (envF 23 s.heap.objs.size 178 177)) (envF 23 s.heap.objs.size 178 177) (.Subscript (.List [e1, e2, e3, e4] p) i q) s₄ (fun v₀ v₁ => IsI v₀ (m : Int) ∧ IsI v₁ (k : Int)) := fun {e1 e2 e3 e4 p} h1 h2 h3 h4 hst {i q} hi hs =>
    ev_itemPT mono_Pr (ev_listP (is := pairT) mono_Pr (.cons h1 (.cons h2 (.cons h3 (.cons h4 .nil)))) (by decide) hst) hi (fmod_lo _ (by decide)) (Int.lt_trans (fmod_hi _ (by decide)) (by decide)) emk hs
  show wpAny _ _ (execs (_ :: _) _) _ _ _
  with_reducible refine sx_assignTC hh F₄ (P := fun v₀ v₁ => IsI v₀ (m : Int) ∧ IsI v₁ (k : Int)) (dsp pr pr pr pr (by with_unfolding_all rfl)
    (evI_mod (evI_div (evI_local F₄ q_total hT (by with_unfolding_all rfl) (by with_unfolding_all rfl) (by with_unfolding_all decide)) (evI_const 5 _ _) (by decide) (PyProof.noPylong_small (by with_unfolding_all decide))) (evI_const 4 _ _) (by decide)) (by intro _ _; with_unfolding_all rfl)) (okC_mk (by with_unfolding_all rfl) (by with_unfolding_all rfl) (by with_unfolding_all rfl)) (by with_unfolding_all rfl) (ok1_mk (by with_unfolding_all rfl) (by with_unfolding_all rfl)) (fun mv pv s₅ hvl k₅ t₅ F₅ => ?_) (by with_unfolding_all rfl) (by with_unfolding_all rfl)
  obtain ⟨hmv, hpv⟩ := hvl
  replace L_cells := k₅.LI L_cells
  have q_lead := (upd_other m2 pv (show ("lead" : Str) ≠ "places" by decide)).trans q_lead
  have q_places : (upd m2 "places" pv) "places" = some pv := upd_same _ _ _
  have c_cells := (upd_other c2 mv (show ("cells" : Str) ≠ "heaps" by decide)).trans c_cells
  have c_hand := (upd_other c2 mv (show ("hand" : Str) ≠ "heaps" by decide)).trans c_hand
  have c_heaps : (upd c2 "heaps" mv) "heaps" = some mv := upd_same _ _ _
  generalize upd m2 "places" pv = m3 at F₅ q_lead q_places
  generalize upd c2 "heaps" mv = c3 at F₅ c_cells c_hand c_heaps
  have K := plain hand lead m k (dealsOf (cellsOf ns) k) hand5 lead1 lead16 hmk (by unfold dealsOf; rw [List.length_map, rangeInts_length])
  obtain ⟨hm0, hm5, hk5⟩ : 0 < m ∧ m ≤ 5 ∧ k ≤ 5 := by
    unfold pairT at hmk
    simp only [List.mem_cons, List.not_mem_nil, or_false, Prod.mk.injEq] at hmk
    omega
  obtain ⟨hht, rfl⟩ := hhv
  obtain ⟨lt, rfl⟩ := hlv
  obtain ⟨mt, rfl⟩ := hmv
  obtain ⟨pt, rfl⟩ := hpv
  -- lengths
  have hG₅ := G.keeps F₅.kt.get
  refine sx_assignH (R := fun v h => LI h v (lensOf hand)) (sk_LI _) F₅ (ev_call1 (ev_global hG₅ (hG₅.yes _ g_lengths)) (cb_def hG₅ (kp18 _)) (evI_cell (by rfl) (F₅.cellAt (x := "hand") (by rfl) c_hand) ⟨_, rfl⟩) (fun v s' k hv => by
      obtain ⟨u, rfl⟩ := hv
      exact lengths_spec R₁ (hG₅.keeps k.get) hand hand5 u)) ⟨by rfl, by rfl⟩ fun lv s₆ L_lengths k₆ t₆ F₆ => ?_
  replace L_cells := k₆.LI L_cells
  have q_lead := (upd_other m3 lv (show ("lead" : Str) ≠ "lengths" by decide)).trans q_lead
  have q_places := (upd_other m3 lv (show ("places" : Str) ≠ "lengths" by decide)).trans q_places
  have q_lengths : (upd m3 "lengths" lv) "lengths" = some lv := upd_same _ _ _
  generalize upd m3 "lengths" lv = m4 at F₆ q_lead q_places q_lengths
  -- rows
  have hG₆ := G.keeps F₆.kt.get
  have kC₆ := F₆.cellAt (x := "cells") (by rfl) c_cells
  have hcl : (cellsOf ns).length ≤ 1000 := by unfold cellsOf; rw [List.length_map]; exact hpl
  have hdl : (dealsOf (cellsOf ns) k).length = k := by unfold dealsOf; rw [List.length_map, rangeInts_length]
  refine sx_assignH (R := fun v h => LLI h v (rowsOf (lensOf hand) m (dealsOf (cellsOf ns) k))) (sk_LLI _) F₆ (ev_call3 (R₁ := fun v h => LI h v (lensOf hand)) (R₂ := fun v h => IsI v (m : Int)) (R₃ := fun v h => LI h v (dealsOf (cellsOf ns) k)) (ev_global hG₆ (hG₆.yes _ g_rows)) (cb_def hG₆ (kp19 _))
    (ev_localT (sk_LI _) F₆ q_lengths L_lengths) (evI_cell (by rfl) (F₆.cellAt (x := "heaps") (by rfl) c_heaps) ⟨_, rfl⟩)
    ((ev_compP (P := PI) (itP_range1 hG₆ (hG₆.no _ g_range) hh (evI_local F₆ q_places ⟨_, rfl⟩) (by omega)) own_PI (fun _ => true) (fun p => (pickNums (cellsOf ns) (some p) none (some 5)).sum) (by rw [rangeInts_length]; omega)
      (by rfl) (by decide +kernel) (by rfl) (by decide +kernel) (fun C => ⟨by rfl, by rfl⟩) (fun C x mm mm' s₃ hx wk hB hn => tsB_nil) (fun C x mm mm' s₇ hx wk hp hB hn => ?_)).mono fun v h x => by rw [filter_tt] at x; exact x)
    (sb_LI _) (sb_pure _) (fun v₁ v₂ v₃ s' k r₁ r₂ r₃ => ?_)) ⟨by rfl, by rfl⟩ fun rv s₇ L_rows k₇ t₇ F₇ => ?_
  · obtain ⟨v', hv', e⟩ := hB
    subst e
    have hG₇ := hG₆.keeps wk.get
    exact evF_PI (evI_sum hG₇ (hG₇.no _ g_sum) hh (evN.LI (evN_sliceI (ev_cellT (sk_LI _) (by rfl) (kC₆.keeps wk.get) ((SK.of wk.get).LI L_cells)) (by omega) (evPart_int ((ev_local hn (upd_same _ _ _)).mono fun _ _ e => e ▸ hv')) evPart_none (evPart_int (evI_const 5 _ _)) (by decide))))
  · obtain ⟨u, rfl⟩ := r₂
    exact rows_spec R₁ (hG₆.keeps k.get) hm0 hm5 r₁ r₃ (lens16 hand5) (by omega) K.fig
  replace L_lengths := k₇.LI L_lengths
  have q_lead := (upd_other m4 rv (show ("lead" : Str) ≠ "rows" by decide)).trans q_lead
  have q_places := (upd_other m4 rv (show ("places" : Str) ≠ "rows" by decide)).trans q_places
  have q_lengths := (upd_other m4 rv (show ("lengths" : Str) ≠ "rows" by decide)).trans q_lengths
  have q_rows : (upd m4 "rows" rv) "rows" = some rv := upd_same _ _ _
  generalize upd m4 "rows" rv = m5 at F₇ q_lead q_places q_lengths q_rows
  obtain ⟨Kf, Klen, Krow, Ns, KN, KNlen, KNn, Kread, Kplain, Ksl, Klev⟩ := K
  generalize rowsOf (lensOf hand) m (dealsOf (cellsOf ns) k) = rows at L_rows Klen Krow KN Klev
  -- numbers
  have hG₇ := G.keeps F₇.kt.get
  refine sx_assignH (R := fun v h => LI h v (Ns.map fun n : Nat => (n : Int))) (sk_LI _) F₇ (ev_call2 (R₁ := fun v h => IsI v (lead : Int)) (R₂ := fun v h => LLI h v rows) (ev_global hG₇ (hG₇.yes _ g_numbers)) (cb_def hG₇ (kp20 _))
    (evI_local F₇ q_lead ⟨_, rfl⟩) (ev_localT (sk_LLI _) F₇ q_rows L_rows) (sb_pure _) (fun v₁ v₂ s' k r₁ r₂ => by
      obtain ⟨u, rfl⟩ := r₁
      exact (numbers_spec R₁ (hG₇.keeps k.get) r₂ (fun r hr => by rw [(Krow r hr).1]; exact hm5) (by omega)).mono fun v h x => by rw [KN] at x; exact x)) ⟨by rfl, by rfl⟩ fun nv s₈ L_numbers k₈ t₈ F₈ => ?_
  replace L_lengths := k₈.LI L_lengths
  replace L_rows := k₈.LLI L_rows
  have q_lead := (upd_other m5 nv (show ("lead" : Str) ≠ "numbers" by decide)).trans q_lead
  have q_places := (upd_other m5 nv (show ("places" : Str) ≠ "numbers" by decide)).trans q_places
  have q_lengths := (upd_other m5 nv (show ("lengths" : Str) ≠ "numbers" by decide)).trans q_lengths
  have q_rows := (upd_other m5 nv (show ("rows" : Str) ≠ "numbers" by decide)).trans q_rows
  have q_numbers : (upd m5 "numbers" nv) "numbers" = some nv := upd_same _ _ _
  generalize upd m5 "numbers" nv = m6 at F₈ q_lead q_places q_lengths q_rows q_numbers
  -- pages
  have hG₈ := G.keeps F₈.kt.get
  obtain ⟨na, nits, rfl, hnl, hna⟩ := id L_numbers
  have kH₈ := F₈.cellAt (x := "hand") (by rfl) c_hand
  refine sx_assign_comp F₈.mark (itP_list (a := na) (items := nits) (xs := Ns) (P := fun n v => IsI v (n : Int)) hh ((ev_local F₈.fr.ns q_numbers).and (T := fun h => h.IsList na nits) hnl isList_keeps) hna.of_map) (fun x v _ => IsS v x) (own_pure _) (fun _ => true) (fun n => escText hand n) (by omega)
    (by rfl) ⟨by rfl, by rfl⟩ (by rfl) (by decide +kernel) (by rfl) (by decide +kernel) (fun C => ⟨by rfl, by rfl⟩) (fun C x mm mm' s₃ hx wk hB hn => tsB_nil) (fun C x mm mm' s₉ hx wk hp hB hn => ?_) fun DP pits s₉ F₉ hf hM => ?_
  · obtain ⟨v', ⟨u, hv'⟩, e⟩ := hB
    subst e hv'
    have hG₉ := hG₈.keeps wk.get
    refine evF_pure (P := fun v => IsS v (escText hand x)) (ev_call2 (R₁ := fun v h => v = .int (x : Int) u) (R₂ := fun v h => IsI v (hand : Int)) (ev_global hG₉ (hG₉.yes _ g_page)) (cb_def hG₉ (kp132 _)) (ev_local hn (upd_same _ _ _)) (evI_cell (by rfl) (kH₈.keeps wk.get) ⟨_, rfl⟩) (sb_pure _) (fun v₁ v₂ s' k r₁ r₂ => ?_)) fun v ⟨t, e⟩ T => by rw [e]; exact fun h => by cases h
    obtain ⟨u₂, rfl⟩ := r₂
    subst r₁
    exact page_spec R₁ (hG₉.keeps k.get) (KNn x hx).1 hand5 (KNn x hx).2.1
  rw [filter_tt] at hM
  have k₉ : SK s₈.heap s₉.heap := F₈.sk F₉ (cs23 _) fun p hp => by rw [List.mem_singleton.mp hp]; exact hf
  have L_pages : LS s₉.heap (.ref DP) (Ns.map (escText hand)) := ⟨DP, pits.toArray, rfl, (F₉.own _ List.mem_cons_self).1.isList, by simpa using hM.all⟩
  have F₉ := F₉.drop hf
  replace L_lengths := k₉.LI L_lengths
  replace L_rows := k₉.LLI L_rows
  replace L_numbers := k₉.LI L_numbers
  have q_lead := (upd_other m6 (.ref DP) (show ("lead" : Str) ≠ "pages" by decide)).trans q_lead
  have q_places := (upd_other m6 (.ref DP) (show ("places" : Str) ≠ "pages" by decide)).trans q_places
  have q_lengths := (upd_other m6 (.ref DP) (show ("lengths" : Str) ≠ "pages" by decide)).trans q_lengths
  have q_rows := (upd_other m6 (.ref DP) (show ("rows" : Str) ≠ "pages" by decide)).trans q_rows
  have q_numbers := (upd_other m6 (.ref DP) (show ("numbers" : Str) ≠ "pages" by decide)).trans q_numbers
  have q_pages : (upd m6 "pages" (.ref DP)) "pages" = some (.ref DP) := upd_same _ _ _
  generalize upd m6 "pages" (.ref DP) = m7 at F₉ q_lead q_places q_lengths q_rows q_numbers q_pages
  -- the test
  have hG₉ := G.keeps F₉.kt.get
  have hsum : ((Ns.map (escText hand)).map (·.length)).sum + (Ns.map (escText hand)).length ≤ 16777216 := by
    have := sum_le (l := Ns.map (escText hand)) (k := 1000) fun x hx => by
      obtain ⟨n, hn, rfl⟩ := List.mem_map.mp hx
      exact (KNn n hn).2.2
    rw [List.length_map] at this ⊢
    omega
  refine sx_ifF0 (tv_neS (x := plainAll k (Ns.map fun n : Nat => (n : Int))) (ev_call2 (R₁ := fun v h => LS h v (Ns.map (escText hand))) (R₂ := fun v h => IsI v (hand : Int)) (ev_global hG₉ (hG₉.yes _ g_read)) (cb_def hG₉ (kp139 _)) (ev_localT (sk_LS _) F₉ q_pages L_pages) (evI_cell (by rfl) (F₉.cellAt (x := "hand") (by rfl) c_hand) ⟨_, rfl⟩) (sb_LS _) (fun v₁ v₂ s' k r₁ r₂ => by
      obtain ⟨u, rfl⟩ := r₂
      have := read_spec R₁ (hG₉.keeps k.get) (t := u) (Nat.lt_of_lt_of_le (Nat.lt_of_lt_of_le (Nat.zero_lt_one) F₉.tk) k.t) r₁ hsum Kread
      rw [Kplain] at this
      exact this))
    (ev_call2 (R₁ := fun v h => LI h v (Ns.map fun n : Nat => (n : Int))) (R₂ := fun v h => IsI v (k : Int)) (ev_global hG₉ (hG₉.yes _ g_plain)) (cb_def hG₉ (kp144 _)) (ev_localT (sk_LI _) F₉ q_numbers L_numbers) (evI_local F₉ q_places ⟨_, rfl⟩) (sb_LI _) (fun v₁ v₂ s' kk r₁ r₂ => by
      obtain ⟨u, rfl⟩ := r₂
      exact plain_spec R₁ (hG₉.keeps kk.get) hk5 r₁ (by rw [List.length_map]; omega)))) fun s₁₀ k₁₀ => ?_
  have F₁₀ := F₉.grow k₁₀
  replace L_lengths := (SK.of k₁₀.get).LI L_lengths
  replace L_rows := (SK.of k₁₀.get).LLI L_rows
  replace L_numbers := (SK.of k₁₀.get).LI L_numbers
  replace L_pages := (SK.of k₁₀.get).LS L_pages
  -- sums
  have hG₁₀ := G.keeps F₁₀.kt.get
  generalize hsums : sumsOf m k (Ns.map fun n : Nat => (n : Int)) (Ns.map (escText hand)) = sums at Ksl Klev
  refine sx_assignH (R := fun v h => LLI h v sums) (sk_LLI _) F₁₀ (ev_call4 (R₁ := fun v h => LI h v (Ns.map fun n : Nat => (n : Int))) (R₂ := fun v h => LS h v (Ns.map (escText hand))) (R₃ := fun v h => IsI v (m : Int)) (R₄ := fun v h => IsI v (k : Int)) (ev_global hG₁₀ (hG₁₀.yes _ g_sums)) (cb_def hG₁₀ (kp21 _))
    (ev_localT (sk_LI _) F₁₀ q_numbers L_numbers) (ev_localT (sk_LS _) F₁₀ q_pages L_pages) (evI_cell (by rfl) (F₁₀.cellAt (x := "heaps") (by rfl) c_heaps) ⟨_, rfl⟩) (evI_local F₁₀ q_places ⟨_, rfl⟩) (sb_LI _) (sb_LS _) (sb_pure _) (fun v₁ v₂ v₃ v₄ s' kk r₁ r₂ r₃ r₄ => by
      obtain ⟨u, rfl⟩ := r₃
      obtain ⟨u₂, rfl⟩ := r₄
      have := sums_spec R₁ (hG₁₀.keeps kk.get) (t := u) (t₀ := u₂) hm0 hm5 hk5 r₁ r₂ (fun x hx => by
        obtain ⟨n, hn, rfl⟩ := List.mem_map.mp hx
        have := (KNn n hn).1
        omega) (fun x hx => by
        obtain ⟨n, hn, rfl⟩ := List.mem_map.mp hx
        exact Nat.le_trans (KNn n hn).2.2 (by decide))
      rw [hsums] at this
      exact this)) ⟨by rfl, by rfl⟩ fun uv s₁₁ L_sums k₁₁ t₁₁ F₁₁ => ?_
  replace L_lengths := k₁₁.LI L_lengths
  replace L_rows := k₁₁.LLI L_rows
  have q_lead := (upd_other m7 uv (show ("lead" : Str) ≠ "sums" by decide)).trans q_lead
  have q_places := (upd_other m7 uv (show ("places" : Str) ≠ "sums" by decide)).trans q_places
  have q_lengths := (upd_other m7 uv (show ("lengths" : Str) ≠ "sums" by decide)).trans q_lengths
  have q_rows := (upd_other m7 uv (show ("rows" : Str) ≠ "sums" by decide)).trans q_rows
  have q_sums : (upd m7 "sums" uv) "sums" = some uv := upd_same _ _ _
  generalize upd m7 "sums" uv = m8 at F₁₁ q_lead q_places q_lengths q_rows q_sums
  obtain ⟨Ksl, Ksr⟩ := Ksl
  -- product
  have hG₁₁ := G.keeps F₁₁.kt.get
  have hlo := fmod_lo ((lensOf hand).getD lead 0) (n := (m : Int)) (by omega)
  have hhi := fmod_hi ((lensOf hand).getD lead 0) (n := (m : Int)) (by omega)
  generalize hheap : (((lensOf hand).getD lead 0).fmod m).toNat = heap at Klev
  refine sx_assignH (R := fun v h => LI h v (productOf m heap rows)) (sk_LI _) F₁₁ (ev_call3 (R₁ := fun v h => IsI v (heap : Int)) (R₂ := fun v h => IsI v (m : Int)) (R₃ := fun v h => LLI h v rows) (ev_global hG₁₁ (hG₁₁.yes _ g_product)) (cb_def hG₁₁ (kp22 _))
    (EvI.cast (evI_mod (a := (lensOf hand).getD lead 0) (evI_item (ev_localT (sk_LI _) F₁₁ q_lengths L_lengths) (evI_local F₁₁ q_lead ⟨_, rfl⟩) (by omega) (by omega) (by
      have := lens16 hand5
      rw [List.getD_eq_getElem?_getD, Int.toNat_natCast, List.getElem?_eq_getElem (by omega)]; rfl)) (evI_cell (by rfl) (F₁₁.cellAt (x := "heaps") (by rfl) c_heaps) ⟨_, rfl⟩) (by omega)) (by omega)) (evI_cell (by rfl) (F₁₁.cellAt (x := "heaps") (by rfl) c_heaps) ⟨_, rfl⟩)
    (ev_localT (sk_LLI _) F₁₁ q_rows L_rows) (sb_pure _) (sb_pure _) (fun v₁ v₂ v₃ s' kk r₁ r₂ r₃ => by
      obtain ⟨u, rfl⟩ := r₁
      obtain ⟨u₂, rfl⟩ := r₂
      exact product_spec R₁ (hG₁₁.keeps kk.get) hm0 hm5 (by omega) r₃ (by omega) Krow)) ⟨by rfl, by rfl⟩ fun pv s₁₂ L_product k₁₂ t₁₂ F₁₂ => ?_
  replace L_sums := k₁₂.LLI L_sums
  have q_places := (upd_other m8 pv (show ("places" : Str) ≠ "product" by decide)).trans q_places
  have q_sums := (upd_other m8 pv (show ("sums" : Str) ≠ "product" by decide)).trans q_sums
  have q_product : (upd m8 "product" pv) "product" = some pv := upd_same _ _ _
  generalize upd m8 "product" pv = m9 at F₁₂ q_places q_sums q_product
  -- level
  have hG₁₂ := G.keeps F₁₂.kt.get
  obtain ⟨ua, uits, rfl, hul, hua⟩ := id L_sums
  obtain ⟨pa, pits₂, rfl, hpl₂, hpa⟩ := id L_product
  obtain ⟨uv, e_uv, ra, rits, rfl, hrl, hra⟩ := hua.get k (sums.getD k []) (by rw [List.getD_eq_getElem?_getD, List.getElem?_eq_getElem (by omega)]; rfl)
  have hlevel : levelOf sums k (productOf m heap rows) = sums.take k ++ [(((sums.getD k []).zip (productOf m heap rows)).filter fun _ => true).map fun x => x.1 - x.2] := by rw [filter_tt]; rfl
  refine sx_assignH (R := fun v h => LLI h v (levelOf sums k (productOf m heap rows))) (sk_LLI _) F₁₂ (EvP.mono (ev_addP (P := PLI) mono_PLI (ev_takeP (P := PLI) (is := sums) (k := k) mono_PLI (ev_localT (sk_LLI _) F₁₂ q_sums L_sums) (by omega) (evPart_int (evI_local F₁₂ q_places ⟨_, rfl⟩)))
    (ev_listP (P := PLI) mono_PLI (.cons (ev_compP (P := PI) (itP_zip (P₁ := fun x v => IsI v x) (P₂ := fun x v => IsI v x) hG₁₂ (hG₁₂.no _ g_zip) hh ((ev_item ((ev_local F₁₂.fr.ns q_sums).and (T := fun h => h.IsList ua uits.toList.toArray) (by simpa using hul) isList_keeps) (evI_local F₁₂ q_places ⟨_, rfl⟩) (by omega) (by omega) (by rw [Int.toNat_natCast]; exact e_uv)).and (T := fun h => h.IsList ra rits) hrl isList_keeps)
        ((ev_local F₁₂.fr.ns q_product).and (T := fun h => h.IsList pa pits₂) hpl₂ isList_keeps) hra hpa) own_PI (fun _ => true) (fun x => x.1 - x.2) (by
        have hr := Ksr (sums.getD k []) (by rw [List.getD_eq_getElem?_getD, List.getElem?_eq_getElem (by omega)]; exact List.getElem_mem _)
        rw [List.length_zip, hr]
        exact Nat.le_trans (Nat.min_le_left _ _) (by omega))
      (by rfl) (by decide +kernel) (by rfl) (by decide +kernel) (fun C => ⟨⟨by rfl, by rfl⟩, ⟨by rfl, by rfl⟩⟩) (fun C x mm mm' s₃ hx wk hB hn => tsB_nil) (fun C x mm mm' s₁₃ hx wk hp hB hn => ?_)) .nil) (by simp) (by rfl)) (by rw [List.length_take]; omega) (by simp)) fun v h x => by rw [hlevel]; exact x) ⟨by rfl, by rfl⟩ fun ev s₁₃ L_level k₁₃ t₁₃ F₁₃ => ?_
  · obtain ⟨v₀, v₁, hv, e⟩ := hB
    subst e
    exact evF_PI (evI_sub ((ev_local hn ((upd_other _ _ (by decide)).trans (upd_same _ _ _))).mono fun _ _ e => e ▸ hv.1) ((ev_local hn (upd_same _ _ _)).mono fun _ _ e => e ▸ hv.2))
  have q_level : (upd m9 "level" ev) "level" = some ev := upd_same _ _ _
  generalize upd m9 "level" ev = m10 at F₁₃ q_level
  have hllen : (levelOf sums k (productOf m heap rows)).length ≤ 1000000 := by
    unfold levelOf
    rw [List.length_append, List.length_take, List.length_singleton]
    omega
  generalize levelOf sums k (productOf m heap rows) = level at L_level Klev hllen
  -- the answer
  obtain ⟨ea, eits, rfl, hel, hea⟩ := id L_level
  have hln : level.map (fun line => List.replicate m (line.getD 0 0)) = level := by
    have : ∀ line ∈ level, List.replicate m (line.getD 0 0) = line := fun line hl => by
      obtain ⟨c, rfl⟩ := Klev line hl
      cases m with
      | zero => omega
      | succ m => rfl
    rw [List.map_congr_left this, List.map_id']
  have hlne : ∀ line ∈ level, ∃ x, line[0]? = some x ∧ line.getD 0 0 = x := fun line hl => by
    obtain ⟨c, rfl⟩ := Klev line hl
    cases m with
    | zero => omega
    | succ m => exact ⟨c, rfl, rfl⟩
  have kHs := F₁₃.cellAt (x := "heaps") (by rfl) c_heaps
  have hu := R₁.u
  refine sx_return (R := fun v _ => v = .bool true) (ev_eqLL (nss := level) (by show _ + 1 < _; omega) (by omega) (ev_localT (sk_LLI _) F₁₃ q_level L_level) ((ev_compP (P := PLI) (itP_list (a := ea) (items := eits) (xs := level) (P := fun ns v => LI s₁₃.heap v ns) hh ((ev_local F₁₃.fr.ns q_level).and (T := fun h => h.IsList ea eits) hel isList_keeps) hea) own_PLI (fun _ => true) (fun line => List.replicate m (line.getD 0 0)) hllen
      (by rfl) (by decide +kernel) (by rfl) (by decide +kernel) (fun C => ⟨by rfl, by rfl⟩) (fun C x mm mm' s₃ hx wk hB hn => tsB_nil) (fun C x mm mm' s₁₄ hx wk hp hB hn => ?_)).mono fun v h x => by rw [filter_tt, hln] at x; exact x)) fun v s' hv kt => ⟨hv, keeps_trans (keeps_toks _ _) (keeps_trans F₁₃.keeps kt.k)⟩
  obtain ⟨v', hv', e⟩ := hB
  subst e
  obtain ⟨c, e1, e2⟩ := hlne x hx
  rw [e2]
  refine (evF_list (evN_rep (evI_item ((ev_local hn (upd_same _ _ _)).and (T := fun h => LI h v' x) ((SK.of wk.get).LI hv') (fun h h' k y => (SK.of k).LI y) |>.mono fun y h z => z.1 ▸ z.2) (evI_const 0 _ _) (by decide) (by decide) e1) (evI_cell (by rfl) (kHs.keeps wk.get) ⟨_, rfl⟩) (by omega))).mono fun v h x => ?_
  obtain ⟨D, it, e, p, al⟩ := x
  exact ⟨D, it, e, p.isList, al⟩
end Law62

set_option maxRecDepth 100000
set_option linter.unusedVariables false
namespace Law62
open PySem PySem.W PySem.Calls PyProof.Rows

theorem g_law (P) : nsFind (entG P) "law" = some (.ref 178) := by kernel_rfl!

theorem ints_of_reads {R : WRecords} {cl : Str → Option Addr} {h : Heap} : ∀ {ds : List WData} {vs : List Value} {as : List Addr}, WShape.hasItems R ds .int = true → ReadsAllW R cl h vs ds as → ∃ ns : List Int, All2 IsI vs ns ∧ ns.length = ds.length
  | [], _, _, _, r => by cases r; exact ⟨[], .nil, rfl⟩
  | d :: ds, _, _, hi, r => by
    have hi : WShape.has R d .int = true ∧ WShape.hasItems R ds .int = true := by simpa [WShape.hasItems] using hi
    obtain ⟨i, rfl⟩ := hasW_int hi.1
    cases r with
    | cons r₁ r₂ =>
      cases r₁
      obtain ⟨ns, h1, h2⟩ := ints_of_reads hi.2 r₂
      exact ⟨i :: ns, .cons ⟨_, rfl⟩ h1, by rw [List.length_cons, List.length_cons, h2]⟩

theorem has_bool : WShape.has [] (.bool true) .bool = true := by simp [WShape.has, WShape.arms]
theorem holds_true (c : WCtx) (h : c.res = some (.bool true)) : WTm.holds [] (.eq .res (.lit (.bool true))) c = true := by
  unfold WTm.holds
  have e : WTm.value [] (.eq .res (.lit (.bool true))) c = some (.bool true) := by
    show (match c.res, some (WData.bool true) with | some x, some y => some (WData.bool (same x y)) | _, _ => none) = _
    rw [h]
    simp [same]
  rw [e]
theorem post_true (ds : List WData) : PySem.Challenge.rw_tr0062_01.row.toRowW.claim.post [.list ds] (.bool true) [.list ds] = true :=
  Bool.and_eq_true_iff.mpr ⟨has_bool, holds_true _ rfl⟩
theorem rmA : Rm callerA 4 := ⟨by rfl, by decide +kernel, by decide +kernel⟩

theorem law_walk (plain : ∀ (hand lead m k : Nat) (deals : List Int), hand < 5 → 1 ≤ lead → lead < 16 → ((m : Int), (k : Int)) ∈ pairT → deals.length = k → PlainOk hand lead m k deals)
    {d : DefRec} {kwd : List (Str × Expr)} (hdef : defOf qv PySem.Challenge.rw_tr0062_01.row.name = some (d, kwd)) :
    WalkO qv looseV (fun _ _ => True) (fun w h => InK KE w h) PySem.Challenge.rw_tr0062_01.row.toRowW d kwd fun f vs => PySem.call f vs := by
  intro w s₀ s₁ mg mb Gr Y a o pm cd doc dV kV ho hd hcode hdf hmg hgens args vals as hpre hlay hrd hwell hlow
  have G : Gd w mg mb s₁.heap := ⟨Y, topRead_of Gr.T⟩
  have hn : d.name = PySem.Challenge.rw_tr0062_01.row.name := defOf_name hdef
  have ha : a = 178 := by
    have h1 := G.yes "law" g_law
    rw [hn] at hmg
    have : mg "law" = some (.ref a) := hmg
    rw [h1] at this
    injection this with e
    injection e with e
    exact e.symm
  subst ha
  obtain ⟨hsh, hp⟩ := pre_splitW hpre
  obtain ⟨x, r, rfl, h1, h2⟩ := hasAllW_cons (e := .list .int) (es := []) hsh
  obtain rfl := hasAllW_nil h2
  obtain ⟨ds, rfl, hi⟩ := hasW_list h1
  cases hrd with
  | cons r₁ r₂ =>
    cases r₂
    cases r₁ with
    | @list la ob lvs ln _ las hla hcl hda hitems =>
      obtain ⟨ns, hns, hlen⟩ := ints_of_reads hi hitems
      have hds : ds.length ≤ 63 := by
        have hp' : WTm.holds [] (OpenLaw.pre PySem.Challenge.rw_tr0062_01) { args := [.list ds] } = true := hp
        have h3 : WTm.value [] (.not (.lt (.lit (.int 63)) (.len (.arg 0)))) { args := [.list ds] } = some (WData.bool (!decide ((63 : Int) < (ds.length : Int)))) := by rfl
        have e : (PySem.Challenge.rw_tr0062_01.pre).value [] { args := [.list ds] } = some (WData.bool (!decide ((63 : Int) < (ds.length : Int)))) := by
          show (match WTm.value [] (.not (.lt (.lit (.int 63)) (.len (.arg 0)))) { args := [.list ds] } with | some (WData.bool false) => some (WData.bool false) | some (WData.bool true) => (match WTm.value [] (.lit (.bool true)) { args := [.list ds] } with | some (WData.bool x) => some (WData.bool x) | _ => none) | _ => none) = _
          rw [h3]
          cases decide ((63 : Int) < (ds.length : Int)) <;> rfl
        unfold WTm.holds at hp'
        rw [e] at hp'
        by_cases hlt : (63 : Int) < (ds.length : Int)
        · rw [decide_eq_true hlt] at hp'; cases hp'
        · omega
      have hs : LI s₁.heap (.ref la) ns := ⟨la, lvs, rfl, ⟨ob, hla, hcl, ln, hda⟩, hns⟩
      refine wpAny_mono (law_spec (n := 0) plain rmA G hs (by omega) (fun _ _ => False)) (fun v s' hv => ?_) fun _ _ e => e.elim
      obtain ⟨rfl, hk⟩ := hv
      refine GoodW.toG ⟨.inl ⟨.bool true, .bool true, [], rfl, fun cls => by rfl, .bool true, post_true ds, fun _ => ⟨List.nodup_nil, fun a h => by cases h⟩⟩, keeps_get hk, ?_, ?_⟩
      · obtain ⟨h', t', rfl, _⟩ := hk; rfl
      · obtain ⟨h', t', rfl, _⟩ := hk; exact hgens
end Law62

namespace Law62
open PySem PySem.Builtin PySem.Builtin.Str

/-- replace, as a relation on lists of code points -/
inductive Rp (w z : List Nat) : List Nat → List Nat → Prop
  | nil : Rp w z [] []
  | hit {l r : List Nat} (h : Rp w z l r) : Rp w z (w ++ l) (z ++ r)
  | miss {c : Nat} {l r : List Nat} (hw : ¬ w <+: (c :: l)) (h : Rp w z l r) : Rp w z (c :: l) (c :: r)

theorem at_iff (x y : Str) (k : Nat) (hk : k ≤ x.length) : StrLaws.At x y x.length k ↔ y.cps.toList <+: x.cps.toList.drop k := by
  have hn : x.cps.toList.length = x.length := by simp [Str.length]
  have hy : y.cps.toList.length = y.length := by simp [Str.length]
  constructor
  · intro h
    have h2 := h.2
    rw [StrLaws.subAt_eq] at h2
    exact ⟨_, by rw [← eq_of_beq h2]; exact List.take_append_drop _ _⟩
  · rintro ⟨t, ht⟩
    have hl := congrArg List.length ht
    rw [List.length_append, List.length_drop] at hl
    refine ⟨by omega, ?_⟩
    rw [StrLaws.subAt_eq, ← ht, ← hy, List.take_left]
    exact beq_self_eq_true _

theorem join_cons (z p q : Str) (r : List Str) : (Str.join z (p :: q :: r)).cps.toList = p.cps.toList ++ z.cps.toList ++ (Str.join z (q :: r)).cps.toList := by
  show (p ++ z ++ Str.join z (q :: r)).cps.toList = _
  simp only [Str.cps_append, Array.toList_append]
theorem join_parts_hit (x z : Str) (w a c : Nat) (r : List Nat) : (Str.join z (StrLaws.partsFrom x w a (c :: r))).cps.toList = (strSub x a c).cps.toList ++ z.cps.toList ++ (Str.join z (StrLaws.partsFrom x w (c + w) r)).cps.toList := by
  obtain ⟨p, q, e⟩ := StrLaws.partsFrom_ne x w (c + w) r
  show (Str.join z (strSub x a c :: StrLaws.partsFrom x w (c + w) r)).cps.toList = _
  rw [e]
  exact join_cons z _ p q

theorem sub_step (x : Str) {a c : Nat} (ha : a < x.length) (hc : a + 1 ≤ c) : ∃ k, x.cps.toList.drop a = k :: x.cps.toList.drop (a + 1) ∧ (strSub x a c).cps.toList = k :: (strSub x (a + 1) c).cps.toList := by
  have hn : x.cps.toList.length = x.length := by simp [Str.length]
  have ha' : a < x.cps.toList.length := by omega
  refine ⟨x.cps.toList[a], List.drop_eq_getElem_cons ha', ?_⟩
  rw [StrLaws.strSub_toList, StrLaws.strSub_toList, List.drop_eq_getElem_cons ha', show c - a = (c - (a + 1)) + 1 by omega]
  rfl

theorem rp_chain (x y z : Str) (hy : 1 ≤ y.length) {l r : List Nat} (h : Rp y.cps.toList z.cps.toList l r) : ∀ (a : Nat) (cuts : List Nat) (f : Nat), a ≤ x.length → l = x.cps.toList.drop a →
    StrLaws.ChainG x y x.length a cuts f → (∀ k, f ≤ k → ¬ StrLaws.At x y x.length k) → (Str.join z (StrLaws.partsFrom x y.length a cuts)).cps.toList = r := by
  have hn : x.cps.toList.length = x.length := by simp [Str.length]
  have hyl : y.cps.toList.length = y.length := by simp [Str.length]
  induction h with
  | nil =>
    intro a cuts f ha hl hC hf
    have hl' := congrArg List.length hl
    rw [List.length_drop, List.length_nil] at hl'
    cases cuts with
    | nil =>
      show (strSub x a x.length).cps.toList = []
      rw [StrLaws.strSub_toList, ← hl]; exact List.take_nil
    | cons c r =>
      have h1 := hC.2.1.1
      have h2 := hC.1
      omega
  | @hit l r h ih =>
    intro a cuts f ha hl hC hf
    have hat : StrLaws.At x y x.length a := (at_iff x y a ha).mpr ⟨l, hl⟩
    cases cuts with
    | nil => exact absurd hat (hf a (by have : f = a := hC; omega))
    | cons c r' =>
      have hca : c = a := by
        have h1 := hC.1
        rcases Nat.lt_or_ge a c with h2 | h2
        · exact absurd hat (hC.2.2.1 a (Nat.le_refl _) h2)
        · omega
      subst hca
      rw [join_parts_hit, ih (c + y.length) r' f hat.1 ?_ hC.2.2.2 hf]
      · rw [StrLaws.strSub_toList, Nat.sub_self, List.take_zero, List.nil_append]
      · rw [← List.drop_drop, ← hl, ← hyl, List.drop_left]
  | @miss c l r hw h ih =>
    intro a cuts f ha hl hC hf
    have hnat : ¬ StrLaws.At x y x.length a := fun hat => hw (by rw [hl]; exact (at_iff x y a ha).mp hat)
    have hlt : a < x.length := by
      have hl' := congrArg List.length hl
      rw [List.length_drop, List.length_cons] at hl'
      omega
    cases cuts with
    | nil =>
      have hfa : f = a := hC
      obtain ⟨k, e1, e2⟩ := sub_step x hlt (c := x.length) (by omega)
      rw [e1] at hl
      injection hl with hl1 hl2
      have := ih (a + 1) [] (a + 1) (by omega) hl2 rfl fun k hk => hf k (by omega)
      show (strSub x a x.length).cps.toList = _
      rw [e2, hl1]
      exact congrArg _ this
    | cons c' r' =>
      have h1 := hC.1
      have hne : c' ≠ a := fun e => hnat (e ▸ hC.2.1)
      obtain ⟨k, e1, e2⟩ := sub_step x hlt (c := c') (by omega)
      rw [e1] at hl
      injection hl with hl1 hl2
      have := ih (a + 1) (c' :: r') f (by omega) hl2 ⟨by omega, hC.2.1, fun k hk hk' => hC.2.2.1 k (by omega) hk', hC.2.2.2⟩ hf
      rw [join_parts_hit] at this ⊢
      rw [e2, hl1, ← this]
      rfl

theorem replace_rp (x y z : Str) (hy : 1 ≤ y.length) {r : List Nat} (h : Rp y.cps.toList z.cps.toList x.cps.toList r) : (Txt.replace x y z).cps.toList = r := by
  obtain ⟨f, hC, hf⟩ := StrLaws.occ_tight x y hy
  have hy0 : (y.length == 0) = false := by
    cases e : y.length with
    | zero => omega
    | succ n => rfl
  have key := rp_chain x y z hy h 0 _ f (Nat.zero_le _) (by rw [List.drop_zero]) hC hf
  unfold Txt.replace
  rw [hy0, Bool.false_and, Bool.or_false]
  cases he : (occurrences x y 0 x.length (x.length + 1)).isEmpty
  · rw [if_neg Bool.false_ne_true, StrLaws.glued_eq_join, StrLaws.partsBetween_eq]
    exact key
  · rw [if_pos rfl]
    rw [List.isEmpty_iff.mp he] at key
    have : (strSub x 0 x.length).cps.toList = r := key
    rw [StrLaws.sub_whole] at this
    exact this

/-- w begins nowhere in b, whatever follows b -/
def freeOf (w : List Nat) : List Nat → Bool
  | [] => true
  | c :: r => !(w.isPrefixOf (c :: r)) && !((c :: r).isPrefixOf w) && freeOf w r
theorem prefix_append {w b l : List Nat} (h : w <+: b ++ l) : w <+: b ∨ b <+: w := by
  rcases Nat.le_total w.length b.length with h1 | h1
  · exact .inl (List.prefix_of_prefix_length_le h (List.prefix_append _ _) h1)
  · exact .inr (List.prefix_of_prefix_length_le (List.prefix_append _ _) h h1)
theorem Rp.free {w z l r : List Nat} (h : Rp w z l r) : ∀ {b : List Nat}, freeOf w b = true → Rp w z (b ++ l) (b ++ r)
  | [], _ => h
  | c :: b, hb => by
    unfold freeOf at hb
    simp only [Bool.and_eq_true, Bool.not_eq_true'] at hb
    refine .miss (fun hp => ?_) (h.free hb.2)
    rcases prefix_append (b := c :: b) hp with h1 | h1
    · rw [List.isPrefixOf_iff_prefix.mpr h1] at hb; exact Bool.noConfusion hb.1.1
    · rw [List.isPrefixOf_iff_prefix.mpr h1] at hb; exact Bool.noConfusion hb.1.2
theorem rp_blocks {w z : List Nat} {α : Type} (e : α → List Nat) : ∀ (T : List α), (∀ c ∈ T, e c = w ∨ freeOf w (e c) = true) → (hw : w ≠ []) →
    Rp w z (T.flatMap e) (T.flatMap fun c => if e c = w then z else e c)
  | [], _, _ => .nil
  | c :: T, h, hw => by
    have ih := rp_blocks (z := z) e T (fun d hd => h d (List.mem_cons_of_mem _ hd)) hw
    rw [List.flatMap_cons, List.flatMap_cons]
    by_cases he : e c = w
    · rw [if_pos he, he]; exact .hit ih
    · rw [if_neg he]
      rcases h c List.mem_cons_self with h1 | h1
      · exact absurd h1 he
      · exact ih.free h1
/-- a single sign -/
theorem rp_one {k : Nat} {z : List Nat} : ∀ T : List Nat, Rp [k] z T (T.flatMap fun c => if c = k then z else [c])
  | [] => .nil
  | c :: T => by
    rw [List.flatMap_cons]
    by_cases h : c = k
    · subst h; rw [if_pos rfl]; exact .hit (w := [c]) (rp_one T)
    · rw [if_neg h]
      refine .miss (fun hp => h ?_) (rp_one T)
      obtain ⟨t, ht⟩ := hp
      injection ht with h1 h2
      exact h1.symm
end Law62

set_option maxRecDepth 100000
set_option linter.unusedVariables false
namespace Law62
open PySem PySem.W PySem.Calls PyProof.Rows PySem.Builtin.Str

abbrev cl (x : Str) : List Nat := x.cps.toList
theorem cl_inj {x y : Str} (h : cl x = cl y) : x = y := Str.ext' (Array.toList_inj.mp h)

/-- one sign for a text -/
def sub1 (c : Nat) (e : List Nat) (k : Nat) : List Nat := if k = c then e else [k]
theorem replace_one_list (x z : Str) (c : Nat) : cl (Txt.replace x ⟨#[c]⟩ z) = (cl x).flatMap (sub1 c (cl z)) := replace_rp x ⟨#[c]⟩ z (Nat.le_refl 1) (rp_one (cl x))
theorem not_contains {x : Str} {c : Nat} (h : Txt.contains x ⟨#[c]⟩ = false) : c ∉ cl x := fun hm => by
  obtain ⟨i, hi⟩ := List.getElem?_of_mem hm
  rcases StrLaws.occ_head x ⟨#[c]⟩ 1 (Nat.le_refl 1) with ⟨_, hn⟩ | ⟨i', r, e, _⟩
  · exact hn i ((StrLaws.subAt_one x c i).mpr hi)
  · unfold Txt.contains at h
    rw [e] at h
    cases h
theorem sub1_free {c : Nat} {e : List Nat} : ∀ {l : List Nat}, c ∉ l → l.flatMap (sub1 c e) = l
  | [], _ => rfl
  | k :: l, h => by
    rw [List.flatMap_cons, sub1_free fun hm => h (List.mem_cons_of_mem _ hm)]
    unfold sub1
    rw [if_neg (show ¬ k = c from fun q => h (by rw [q]; exact List.mem_cons_self))]
    rfl
theorem escStep_list (x e : Str) (c : Nat) : cl (escStep x (⟨#[c]⟩, e)) = (cl x).flatMap (sub1 c (cl e)) := by
  unfold escStep
  cases hc : Txt.contains x ⟨#[c]⟩ with
  | true => exact replace_one_list x e c
  | false => exact (sub1_free (not_contains hc)).symm

def keyOf (p : Str × Str) : Nat := (cl p.1).headD 0
def gfold (b : List Nat) (L : List (Str × Str)) : List Nat := L.foldl (fun b p => b.flatMap (sub1 (keyOf p) (cl p.2))) b
theorem gfold_hom : ∀ (L : List (Str × Str)) (b : List Nat), gfold b L = b.flatMap fun c => gfold [c] L
  | [], b => by
    show b = b.flatMap fun c => [c]
    rw [List.flatMap_singleton']
  | p :: L, b => by
    show gfold (b.flatMap (sub1 (keyOf p) (cl p.2))) L = b.flatMap fun c => gfold ([c].flatMap (sub1 (keyOf p) (cl p.2))) L
    rw [gfold_hom L, List.flatMap_assoc]
    congr 1
    funext c
    rw [List.flatMap_singleton, ← gfold_hom L]
theorem esc_gfold : ∀ (L : List (Str × Str)) (x : Str), (∀ p ∈ L, cl p.1 = [keyOf p]) → cl (L.foldl escStep x) = gfold (cl x) L
  | [], x, _ => rfl
  | p :: L, x, h => by
    rw [List.foldl_cons, esc_gfold L _ fun q hq => h q (List.mem_cons_of_mem _ hq)]
    have e : p = ((⟨#[keyOf p]⟩ : Str), p.2) := Prod.ext (cl_inj (h p List.mem_cons_self)) rfl
    have : cl (escStep x p) = (cl x).flatMap (sub1 (keyOf p) (cl p.2)) := by
      conv => lhs; rw [e]
      exact escStep_list x p.2 (keyOf p)
    rw [this]; rfl

/-- what the hand writes for a sign -/
def encC (hand c : Nat) : List Nat := gfold [c] (escBy hand)
theorem escBy_keys (hand : Nat) : ∀ p ∈ escBy hand, cl p.1 = [keyOf p] := by
  unfold escBy
  repeat' split
  all_goals decide +kernel
theorem esc_list (hand : Nat) (x : Str) : cl ((escBy hand).foldl escStep x) = (cl x).flatMap (encC hand) := by
  rw [esc_gfold _ _ (escBy_keys hand), gfold_hom]; rfl
theorem esc_take_list (hand j : Nat) (x : Str) : cl (((escBy hand).take j).foldl escStep x) = (cl x).flatMap fun c => gfold [c] ((escBy hand).take j) := by
  rw [esc_gfold _ _ (fun p hp => escBy_keys hand p (List.mem_of_mem_take hp)), gfold_hom]

/-- the signs that the words are made of, and the blank -/
def alph : List Nat := [38, 102, 105, 60, 113, 116, 101, 108, 34, 62, 109, 10, 97, 104, 122, 13, 9, 32]
theorem plain_alph : ∀ x ∈ plainL, ∀ c ∈ cl x, c ∈ alph := by decide +kernel
theorem take_le6 (hand j : Nat) : ∀ c ∈ alph, (gfold [c] ((escBy hand).take j)).length ≤ 6 := by
  have h : ∀ j : Fin 8, (∀ c ∈ alph, (gfold [c] (esc2.take j.val)).length ≤ 6) ∧ (∀ c ∈ alph, (gfold [c] (esc3.take j.val)).length ≤ 6) ∧ (∀ c ∈ alph, (gfold [c] (esc4.take j.val)).length ≤ 6) ∧ (∀ c ∈ alph, (gfold [c] (esc5.take j.val)).length ≤ 6) ∧ (∀ c ∈ alph, (gfold [c] (esc6.take j.val)).length ≤ 6) := by decide +kernel
  have hl : (escBy hand).length ≤ 7 := by
    unfold escBy
    repeat' split
    all_goals decide
  have e : (escBy hand).take j = (escBy hand).take (min j 7) := by
    rcases Nat.le_total j 7 with h1 | h1
    · rw [Nat.min_eq_left h1]
    · rw [Nat.min_eq_right h1, List.take_of_length_le (by omega), List.take_of_length_le hl]
  rw [e]
  have h' := h ⟨min j 7, by omega⟩
  unfold escBy
  repeat' split
  · exact h'.1
  · exact h'.2.1
  · exact h'.2.2.1
  · exact h'.2.2.2.1
  · exact h'.2.2.2.2
theorem flat_len {α : Type} {k : Nat} (e : α → List Nat) : ∀ (T : List α), (∀ c ∈ T, (e c).length ≤ k) → (T.flatMap e).length ≤ T.length * k
  | [], _ => Nat.zero_le _
  | c :: T, h => by
    rw [List.flatMap_cons, List.length_append, List.length_cons, Nat.succ_mul, Nat.add_comm]
    exact Nat.add_le_add (flat_len e T fun d hd => h d (List.mem_cons_of_mem _ hd)) (h c List.mem_cons_self)
theorem enc_lens : ∀ hand : Fin 5, ∀ d : Fin 16, (((cl (plainL.getD d.val "")).flatMap (encC hand.val)).length : Int) = (lensOf hand.val).getD d.val 0 := by decide +kernel

/-- reading: the blocks of the signs, one reference after the other -/
def rdStep (e : Nat → List Nat) (p : Str × Nat) (c : Nat) : List Nat := if e c = cl p.1 then [p.2] else e c
def rdOk : (Nat → List Nat) → List (Str × Nat) → Bool
  | e, [] => alph.all fun c => decide ((e c).length ≤ 6)
  | e, p :: ps => (alph.all fun c => (e c == cl p.1 || freeOf (cl p.1) (e c)) && decide ((e c).length ≤ 6)) && !(cl p.1).isEmpty && rdOk (rdStep e p) ps
theorem rd_one {T : List Nat} {x : Str} {e : Nat → List Nat} {p : Str × Nat} (hT : ∀ c ∈ T, c ∈ alph) (hx : cl x = T.flatMap e) (h : ∀ c ∈ alph, e c = cl p.1 ∨ freeOf (cl p.1) (e c) = true) (hw : cl p.1 ≠ []) : cl (readStep x p) = T.flatMap (rdStep e p) := by
  have hl : 1 ≤ p.1.length := by
    have : (cl p.1).length = p.1.length := by simp [cl, Str.length]
    cases h1 : cl p.1 with
    | nil => exact absurd h1 hw
    | cons a b => rw [h1] at this; simp at this; omega
  refine replace_rp x p.1 ⟨#[p.2]⟩ hl ?_
  rw [show x.cps.toList = T.flatMap e from hx]
  exact rp_blocks e T (fun c hc => h c (hT c hc)) hw
theorem rd_fold {T : List Nat} (hT : ∀ c ∈ T, c ∈ alph) : ∀ (ps : List (Str × Nat)) (e : Nat → List Nat) (x : Str), cl x = T.flatMap e → rdOk e ps = true →
    cl (ps.foldl readStep x) = T.flatMap (ps.foldl rdStep e) ∧ ∀ j, (cl ((ps.take j).foldl readStep x)).length ≤ T.length * 6
  | [], e, x, hx, h => by
    unfold rdOk at h
    simp only [List.all_eq_true, decide_eq_true_eq] at h
    refine ⟨hx, fun j => ?_⟩
    rw [List.take_nil, List.foldl_nil, hx]
    exact flat_len e T fun c hc => h c (hT c hc)
  | p :: ps, e, x, hx, h => by
    unfold rdOk at h
    simp only [Bool.and_eq_true, List.all_eq_true, decide_eq_true_eq, Bool.or_eq_true, beq_iff_eq, Bool.not_eq_true', List.isEmpty_eq_false_iff] at h
    obtain ⟨⟨h1, h2⟩, h3⟩ := h
    have hx' := rd_one hT hx (fun c hc => (h1 c hc).1) h2
    obtain ⟨h4, h5⟩ := rd_fold hT ps (rdStep e p) (readStep x p) hx' h3
    refine ⟨h4, fun j => ?_⟩
    cases j with
    | zero =>
      rw [List.take_zero, List.foldl_nil, hx]
      exact flat_len e T fun c hc => (h1 c (hT c hc)).2
    | succ j => exact h5 j
theorem rd_ok : ∀ hand : Fin 5, rdOk (encC hand.val) ((written hand.val).zip marks.cps.toList) = true := by decide +kernel
theorem rd_back : ∀ hand : Fin 5, ∀ c ∈ alph, ((written hand.val).zip marks.cps.toList).foldl rdStep (encC hand.val) c = [c] := by decide +kernel

theorem flatMap_id {e : Nat → List Nat} : ∀ {T : List Nat}, (∀ c ∈ T, e c = [c]) → T.flatMap e = T
  | [], _ => rfl
  | c :: T, h => by rw [List.flatMap_cons, h c List.mem_cons_self, flatMap_id fun d hd => h d (List.mem_cons_of_mem _ hd)]; rfl

/-- join -/
def inter (s : List Nat) : List (List Nat) → List Nat
  | [] => []
  | [x] => x
  | x :: r => x ++ s ++ inter s r
theorem inter_cons (s x y : List Nat) (r : List (List Nat)) : inter s (x :: y :: r) = x ++ s ++ inter s (y :: r) := rfl
theorem cl_sjoin (sep : Str) : ∀ xs : List Str, cl (Str.join sep xs) = inter (cl sep) (xs.map cl)
  | [] => rfl
  | [x] => rfl
  | x :: y :: r => by
    have ih := cl_sjoin sep (y :: r)
    rw [show cl (Str.join sep (x :: y :: r)) = _ from join_cons sep x y r, show (Str.join sep (y :: r)).cps.toList = _ from ih]
    rfl
theorem cl_join (sep : Str) (xs : List Str) : cl (Txt.join sep xs) = inter (cl sep) (xs.map cl) := by
  show cl (glued sep xs) = _
  rw [StrLaws.glued_eq_join, cl_sjoin]
theorem inter_nil : ∀ xs : List (List Nat), inter [] xs = xs.flatten
  | [] => rfl
  | [x] => by simp [inter]
  | x :: y :: r => by rw [inter_cons, inter_nil (y :: r), List.append_nil, List.flatten_cons (l := x)]
theorem cl_join_empty (xs : List Str) : cl (Txt.join "" xs) = xs.flatMap cl := by
  rw [cl_join, show cl ("" : Str) = [] from rfl, inter_nil]; rfl
theorem inter_flatMap (e : Nat → List Nat) (s : List Nat) (hs : s.flatMap e = s) : ∀ xs : List (List Nat), inter s (xs.map fun x => x.flatMap e) = (inter s xs).flatMap e
  | [] => rfl
  | [x] => rfl
  | x :: y :: r => by
    have ih := inter_flatMap e s hs (y :: r)
    rw [List.map_cons, List.map_cons, inter_cons, inter_cons, List.flatMap_append, List.flatMap_append, hs, ← ih]
    rfl
theorem inter_mem {s : List Nat} {c : Nat} : ∀ {xs : List (List Nat)}, c ∈ inter s xs → c ∈ s ∨ ∃ x ∈ xs, c ∈ x
  | [], h => by cases h
  | [x], h => .inr ⟨x, List.mem_singleton.mpr rfl, h⟩
  | x :: y :: r, h => by
    rw [inter_cons, List.mem_append, List.mem_append] at h
    rcases h with (h | h) | h
    · exact .inr ⟨x, List.mem_cons_self, h⟩
    · exact .inl h
    · rcases inter_mem (xs := y :: r) h with h | ⟨z, hz, h⟩
      · exact .inl h
      · exact .inr ⟨z, List.mem_cons_of_mem _ hz, h⟩
theorem inter_len {s : List Nat} {k : Nat} : ∀ {xs : List (List Nat)}, (∀ x ∈ xs, x.length ≤ k) → (inter s xs).length ≤ xs.length * (k + s.length)
  | [], _ => Nat.zero_le _
  | [x], h => by have := h x List.mem_cons_self; show x.length ≤ _; rw [List.length_singleton]; omega
  | x :: y :: r, h => by
    have ih := inter_len (s := s) (xs := y :: r) fun z hz => h z (List.mem_cons_of_mem _ hz)
    have := h x List.mem_cons_self
    rw [inter_cons, List.length_append, List.length_append, List.length_cons (a := x), Nat.succ_mul]
    omega
end Law62

set_option maxRecDepth 100000
set_option linter.unusedVariables false
namespace Law62
open PySem PySem.W PySem.Calls PyProof.Rows PySem.Builtin.Str

theorem digs_step {n f : Nat} (hn : 1 ≤ n) (hf : f < 16) : digs (16 * n + f) = digs n ++ [f] := by
  have h0 : 16 * n + f ≠ 0 := by omega
  have h1 : (16 * n + f) / 16 = n := by omega
  have h2 : (16 * n + f) % 16 = f := by omega
  unfold digs
  rw [apd_pos h0, h1, h2, List.map_append, List.map_singleton]
  have : (UInt8.ofNat (65 + f)).toNat - 65 = f := by rw [UInt8.toNat_ofNat']; omega
  rw [this]
theorem digs_one {f : Nat} (h1 : 1 ≤ f) (hf : f < 16) : digs f = [f] := by
  have h0 : f ≠ 0 := by omega
  have h3 : f / 16 = 0 := by omega
  have h2 : f % 16 = f := by omega
  unfold digs
  rw [apd_pos h0, h3, h2, apd_zero, List.nil_append, List.map_singleton]
  have : (UInt8.ofNat (65 + f)).toNat - 65 = f := by rw [UInt8.toNat_ofNat']; omega
  rw [this]
def pl (d : Nat) : List Nat := cl (plainL.getD d "")
theorem pl_filter : ∀ l : List Nat, ((l.filter fun k => !(k == 0 || k == 7)).map fun k => plainL.getD k "").flatMap cl = l.flatMap pl
  | [] => rfl
  | d :: l => by
    have ih := pl_filter l
    by_cases h : (d == 0 || d == 7) = true
    · rw [List.filter_cons_of_neg (by rw [h]; decide), List.flatMap_cons, ih]
      have : pl d = [] := by
        simp only [Bool.or_eq_true, beq_iff_eq] at h
        rcases h with rfl | rfl <;> rfl
      rw [this, List.nil_append]
    · rw [List.filter_cons_of_pos (by simpa using h), List.map_cons, List.flatMap_cons, List.flatMap_cons, ih]; rfl
theorem cl_textOf (n : Nat) : cl (textOf n) = (digs n).flatMap pl := by
  unfold textOf
  rw [cl_join_empty, pl_filter]
theorem textOf_step {n f : Nat} (hn : 1 ≤ n) (hf : f < 16) : cl (textOf (16 * n + f)) = cl (textOf n) ++ pl f := by
  rw [cl_textOf, cl_textOf, digs_step hn hf, List.flatMap_append]; simp
theorem textOf_one {f : Nat} (h1 : 1 ≤ f) (hf : f < 16) : cl (textOf f) = pl f := by
  rw [cl_textOf, digs_one h1 hf]; simp
theorem textOf_alph (n : Nat) : ∀ c ∈ cl (textOf n), c ∈ alph := fun c hc => by
  rw [cl_textOf, List.mem_flatMap] at hc
  obtain ⟨d, hd, hc⟩ := hc
  unfold pl at hc
  rw [List.getD_eq_getElem?_getD] at hc
  cases e : plainL[d]? with
  | none => rw [e] at hc; cases hc
  | some x => rw [e] at hc; exact plain_alph x (List.mem_of_getElem? e) c hc
theorem escText_list (hand n : Nat) : cl (escText hand n) = (cl (textOf n)).flatMap (encC hand) := esc_list hand _
theorem len_cl (x : Str) : x.length = (cl x).length := by simp [cl, Str.length]
theorem escText_step {hand n f : Nat} (hh : hand < 5) (hn : 1 ≤ n) (hf : f < 16) : ((escText hand (16 * n + f)).length : Int) = (escText hand n).length + (lensOf hand).getD f 0 := by
  rw [len_cl, len_cl, escText_list, escText_list, textOf_step hn hf, List.flatMap_append, List.length_append, ← enc_lens ⟨hand, hh⟩ ⟨f, hf⟩]
  simp [pl]
theorem escText_one {hand f : Nat} (hh : hand < 5) (h1 : 1 ≤ f) (hf : f < 16) : ((escText hand f).length : Int) = (lensOf hand).getD f 0 := by
  rw [len_cl, escText_list, textOf_one h1 hf, ← enc_lens ⟨hand, hh⟩ ⟨f, hf⟩]; rfl

theorem plainAt_nat (N p : Nat) : plainAt (N : Int) (p : Int) = plainL.getD (N / 16 ^ p % 16) "" := by
  unfold plainAt
  have e1 : (N : Int).fdiv (16 ^ (p : Int).toNat) = ((N / 16 ^ p : Nat) : Int) := by
    rw [Int.toNat_natCast, Int.fdiv_eq_ediv_of_nonneg _ (by exact Int.le_of_lt (Int.pow_pos (by decide))), Int.natCast_ediv, Int.natCast_pow]; rfl
  rw [e1, Int.fmod_eq_emod_of_nonneg _ (by decide)]
  have e2 : ((N / 16 ^ p : Nat) : Int) % 16 = ((N / 16 ^ p % 16 : Nat) : Int) := by omega
  rw [e2, Int.toNat_natCast]
theorem cl_plainOf (k N : Nat) : cl (plainOf k (N : Int)) = (List.range (k + 1)).flatMap fun i => pl (N / 16 ^ (k - i) % 16) := by
  unfold plainOf
  rw [cl_join_empty, List.flatMap_map]
  unfold rangeInts
  rw [List.flatMap_map]
  rw [List.flatMap_def, List.flatMap_def]
  congr 1
  apply List.map_congr_left
  intro i hi
  have hi' := List.mem_range.mp hi
  have e : (k : Int) + (i : Int) * (-1) = ((k - i : Nat) : Int) := by omega
  rw [e, plainAt_nat]; rfl
theorem plainOf_step {k n f : Nat} (hf : f < 16) : cl (plainOf (k + 1) ((16 * n + f : Nat) : Int)) = cl (plainOf k (n : Int)) ++ pl f := by
  rw [cl_plainOf, cl_plainOf, List.range_succ, List.flatMap_append]
  congr 1
  · rw [List.flatMap_def, List.flatMap_def]
    congr 1
    apply List.map_congr_left
    intro i hi
    have hi' := List.mem_range.mp hi
    have e1 : k + 1 - i = (k - i) + 1 := by omega
    have e2 : (16 * n + f) / 16 ^ (k + 1 - i) = n / 16 ^ (k - i) := by
      rw [e1, Nat.pow_succ, Nat.mul_comm (16 ^ (k - i)) 16, ← Nat.div_div_eq_div_mul]
      congr 1
      omega
    rw [e2]
  · have e : (16 * n + f) / 16 ^ (k + 1 - (k + 1)) % 16 = f := by rw [Nat.sub_self, Nat.pow_zero, Nat.div_one]; omega
    rw [List.flatMap_singleton, e]
theorem plainOf_one {f : Nat} (hf : f < 16) : cl (plainOf 0 (f : Int)) = pl f := by
  rw [cl_plainOf]
  have e : f / 16 ^ (0 - 0) % 16 = f := by simp; omega
  show [0].flatMap _ = _
  rw [List.flatMap_singleton, e]
end Law62

namespace Law62

/-- g is a polynomial of degree d at most, with a before its d-th power -/
def Pol : Nat → Int → (Int → Int) → Prop
  | 0, a, g => ∀ x, g x = a
  | d + 1, a, g => ∀ f : Int, Pol d (a * ((d : Int) + 1) * f) (fun x => g (x + f) - g x)

theorem Pol.cast {d : Nat} {a b : Int} {g h : Int → Int} (p : Pol d a g) (e : a = b) (e' : ∀ x, g x = h x) : Pol d b h := by
  have : g = h := funext e'
  rw [← e, ← this]; exact p
theorem Pol.shift : ∀ {d : Nat} {a : Int} {g : Int → Int}, Pol d a g → ∀ c : Int, Pol d a (fun x => g (x + c))
  | 0, _, _, p, c => fun x => p (x + c)
  | d + 1, a, g, p, c => fun f => ((p f).shift c).cast rfl fun x => by
    show g (x + c + f) - g (x + c) = g (x + f + c) - g (x + c)
    rw [Int.add_right_comm]
theorem Pol.add : ∀ {d : Nat} {a b : Int} {g h : Int → Int}, Pol d a g → Pol d b h → Pol d (a + b) (fun x => g x + h x)
  | 0, a, b, g, h, p, q => fun x => by show g x + h x = a + b; rw [p x, q x]
  | d + 1, a, b, g, h, p, q => fun f => ((p f).add (q f)).cast (by grind) fun x => by
    show g (x + f) - g x + (h (x + f) - h x) = g (x + f) + h (x + f) - (g x + h x)
    omega
theorem Pol.smul (k : Int) : ∀ {d : Nat} {a : Int} {g : Int → Int}, Pol d a g → Pol d (k * a) (fun x => k * g x)
  | 0, a, g, p => fun x => by show k * g x = k * a; rw [p x]
  | d + 1, a, g, p => fun f => ((p f).smul k).cast (by grind) fun x => by
    show k * (g (x + f) - g x) = k * g (x + f) - k * g x
    grind
theorem Pol.raise : ∀ {d : Nat} {a : Int} {g : Int → Int}, Pol d a g → Pol (d + 1) 0 g
  | 0, a, g, p => fun f => fun x => by
    show g (x + f) - g x = 0 * ((0 : Nat) + 1 : Int) * f
    rw [p, p]; simp
  | d + 1, a, g, p => fun f => ((p f).raise).cast (by simp) fun x => rfl
theorem Pol.mulx : ∀ {d : Nat} {a : Int} {g : Int → Int}, Pol d a g → Pol (d + 1) a (fun x => x * g x)
  | 0, a, g, p => fun f => fun x => by
    show (x + f) * g (x + f) - x * g x = a * ((0 : Nat) + 1 : Int) * f
    rw [p, p]; grind
  | d + 1, a, g, p => fun f => (((p f).mulx).add ((p.shift f).smul f)).cast (by simp only [Int.natCast_add, Int.natCast_one]; grind) fun x => by
    show x * (g (x + f) - g x) + f * g (x + f) = (x + f) * g (x + f) - x * g x
    grind
theorem Pol.pow : ∀ p : Nat, Pol p 1 (fun x => x ^ p)
  | 0 => fun x => by show x ^ 0 = 1; simp
  | p + 1 => (Pol.pow p).mulx.cast rfl fun x => by show x * x ^ p = x ^ (p + 1); rw [Int.pow_succ, Int.mul_comm]
theorem Pol.scale (c : Int) : ∀ {d : Nat} {a : Int} {g : Int → Int}, Pol d a g → Pol d (a * c ^ d) (fun x => g (c * x))
  | 0, a, g, p => fun x => by show g (c * x) = a * c ^ 0; rw [p]; simp
  | d + 1, a, g, p => fun f => ((p (c * f)).scale c).cast (by rw [Int.pow_succ]; grind) fun x => by
    show g (c * x + c * f) - g (c * x) = g (c * (x + f)) - g (c * x)
    rw [Int.mul_add]

/-- the sum over 0 .. m-1 -/
def R (m : Nat) (φ : Nat → Int) : Int := ((List.range m).map φ).sum
theorem sum_add {α : Type} (φ ψ : α → Int) : ∀ l : List α, (l.map fun x => φ x + ψ x).sum = (l.map φ).sum + (l.map ψ).sum
  | [] => rfl
  | a :: l => by simp only [List.map_cons, List.sum_cons]; rw [sum_add φ ψ l]; omega
theorem sum_mul {α : Type} (k : Int) (φ : α → Int) : ∀ l : List α, (l.map fun x => k * φ x).sum = k * (l.map φ).sum
  | [] => by simp
  | a :: l => by simp only [List.map_cons, List.sum_cons]; rw [sum_mul k φ l, Int.mul_add]
theorem sum_zero {α : Type} : ∀ l : List α, (l.map fun _ => (0 : Int)).sum = 0
  | [] => rfl
  | a :: l => by simp only [List.map_cons, List.sum_cons]; rw [sum_zero l]; rfl
theorem sum_swap {α β : Type} (φ : α → β → Int) (ys : List β) : ∀ xs : List α, (xs.map fun x => (ys.map fun y => φ x y).sum).sum = (ys.map fun y => (xs.map fun x => φ x y).sum).sum
  | [] => by simp [sum_zero]
  | a :: xs => by
    simp only [List.map_cons, List.sum_cons]
    rw [sum_swap φ ys xs, sum_add]
theorem R_add (m : Nat) (φ ψ : Nat → Int) : R m (fun j => φ j + ψ j) = R m φ + R m ψ := sum_add φ ψ _
theorem R_mul (m : Nat) (k : Int) (φ : Nat → Int) : R m (fun j => k * φ j) = k * R m φ := sum_mul k φ _
theorem R_swap (m n : Nat) (φ : Nat → Nat → Int) : R m (fun i => R n fun j => φ i j) = R n fun j => R m fun i => φ i j := sum_swap φ _ _
theorem R_congr {m : Nat} {φ ψ : Nat → Int} (h : ∀ j, j < m → φ j = ψ j) : R m φ = R m ψ := by
  unfold R
  congr 1
  exact List.map_congr_left fun j hj => h j (List.mem_range.mp hj)
theorem R_one {m i : Nat} (v : Nat → Int) (hi : i < m) : R m (fun j => if j = i then v j else 0) = v i := by
  induction m with
  | zero => omega
  | succ m ih =>
    unfold R at ih ⊢
    rw [List.range_succ, List.map_append, List.sum_append]
    simp only [List.map_cons, List.map_nil, List.sum_cons, List.sum_nil]
    by_cases h : i = m
    · subst h
      have : ((List.range i).map fun j => if j = i then v j else 0) = (List.range i).map fun _ => (0 : Int) := List.map_congr_left fun j hj => if_neg (by have := List.mem_range.mp hj; omega)
      rw [this, sum_zero, if_pos rfl]; omega
    · rw [ih (by omega), if_neg (by omega)]; omega

/-- the heap from which j leads to h -/
def back (m h j : Nat) : Nat := (h + (m - j)) % m
theorem back_lt {m h j : Nat} (hm : 0 < m) : back m h j < m := Nat.mod_lt _ hm
theorem back_iff {m h i j : Nat} (hh : h < m) (hi : i < m) (hj : j < m) : (i + j) % m = h ↔ i = back m h j := by
  unfold back
  constructor
  · intro e
    by_cases h1 : i + j < m
    · rw [Nat.mod_eq_of_lt h1] at e
      rw [show h + (m - j) = i + m by omega, Nat.add_mod_right, Nat.mod_eq_of_lt hi]
    · rw [Nat.mod_eq_sub_mod (by omega), Nat.mod_eq_of_lt (by omega)] at e
      rw [show h + (m - j) = i by omega, Nat.mod_eq_of_lt hi]
  · intro e
    by_cases h1 : h + (m - j) < m
    · rw [Nat.mod_eq_of_lt h1] at e
      rw [show i + j = h + m by omega, Nat.add_mod_right, Nat.mod_eq_of_lt hh]
    · rw [Nat.mod_eq_sub_mod (by omega), Nat.mod_eq_of_lt (by omega)] at e
      rw [show i + j = h by omega, Nat.mod_eq_of_lt hh]
theorem R_back {m h j : Nat} (v : Nat → Int) (hh : h < m) (hj : j < m) : R m (fun i => if (i + j) % m = h then v i else 0) = v (back m h j) := by
  rw [← R_one v (back_lt (h := h) (j := j) (by omega : 0 < m))]
  refine R_congr fun i hi => ?_
  by_cases e : i = back m h j
  · rw [if_pos e, if_pos ((back_iff hh hi hj).mpr e)]
  · rw [if_neg e, if_neg fun q => e ((back_iff hh hi hj).mp q)]
/-- turned round, the sum is the same -/
theorem R_turn {m h : Nat} (φ : Nat → Int) (hh : h < m) : R m (fun j => φ (back m h j)) = R m φ := by
  have e1 : R m (fun j => φ (back m h j)) = R m fun j => R m fun i => if (i + j) % m = h then φ i else 0 := R_congr fun j hj => (R_back φ hh hj).symm
  rw [e1, R_swap]
  refine R_congr fun i hi => ?_
  have := R_back (m := m) (h := h) (j := i) (fun _ => φ i) hh hi
  refine Eq.trans (R_congr fun j hj => ?_) this
  rw [Nat.add_comm]

/-- numbers with their heaps -/
def Sm (g : Int → Int) (ps : List (Nat × Nat)) (h : Nat) : Int := (ps.map fun p => if p.2 = h then g (p.1 : Int) else 0).sum
def pStep (m : Nat) (ps : List (Nat × Nat)) (row : List Int) : List (Nat × Nat) := ps.flatMap fun p => (List.range m).map fun j => (16 * p.1 + (row.getD j 0).toNat, (p.2 + j) % m)
def conv (m : Nat) (C : Nat → Int) (row : List Int) (h : Nat) : Int := R m fun j => row.getD j 0 * C (back m h j)
def Wt : Nat → Int
  | 0 => 1
  | k + 1 => ((k : Int) + 1) * 16 ^ k * Wt k
theorem sum_flat {α β : Type} (φ : β → Int) (f : α → List β) : ∀ l : List α, ((l.flatMap f).map φ).sum = (l.map fun a => ((f a).map φ).sum).sum
  | [] => rfl
  | a :: l => by rw [List.flatMap_cons, List.map_append, List.sum_append, sum_flat φ f l]; rfl
theorem Sm_step {m : Nat} {ps : List (Nat × Nat)} {row : List Int} (g : Int → Int) (hps : ∀ p ∈ ps, p.2 < m) (hrow : ∀ j, j < m → 0 ≤ row.getD j 0) {h : Nat} (hh : h < m) :
    Sm g (pStep m ps row) h = R m fun j => Sm (fun x => g (16 * x + row.getD j 0)) ps (back m h j) := by
  unfold Sm pStep
  rw [sum_flat]
  have e : (R m fun j => (ps.map fun p => if p.2 = back m h j then g (16 * (p.1 : Int) + row.getD j 0) else 0).sum) = (ps.map fun p => R m fun j => if p.2 = back m h j then g (16 * (p.1 : Int) + row.getD j 0) else 0).sum := sum_swap _ _ _
  rw [e]
  congr 1
  refine List.map_congr_left fun p hp => ?_
  rw [List.map_map]
  refine R_congr (m := m) fun j hj => ?_
  have e1 : ((16 * p.1 + (row.getD j 0).toNat : Nat) : Int) = 16 * (p.1 : Int) + row.getD j 0 := by have := hrow j hj; omega
  show (if (p.2 + j) % m = h then g ((16 * p.1 + (row.getD j 0).toNat : Nat) : Int) else 0) = _
  rw [e1]
  by_cases q : p.2 = back m h j
  · rw [if_pos q, if_pos ((back_iff hh (hps p hp) hj).mpr q)]
  · rw [if_neg q, if_neg fun z => q ((back_iff hh (hps p hp) hj).mp z)]
theorem Sm_add (g g' : Int → Int) (ps : List (Nat × Nat)) (h : Nat) : Sm (fun x => g x + g' x) ps h = Sm g ps h + Sm g' ps h := by
  unfold Sm
  rw [← sum_add]
  congr 1
  refine List.map_congr_left fun p hp => ?_
  show (if p.2 = h then g (p.1 : Int) + g' (p.1 : Int) else 0) = _
  split <;> omega

/-- Lehmer's law, for one length -/
def Leh (m k : Nat) (ps : List (Nat × Nat)) (C : Nat → Int) : Prop := ∀ (g : Int → Int) (a : Int), Pol k a g → ∀ h, h < m → Sm g ps h - a * Wt k * C h = Sm g ps 0 - a * Wt k * C 0
theorem Leh.step {m k : Nat} {ps : List (Nat × Nat)} {C : Nat → Int} {row : List Int} (L : Leh m k ps C) (hm : 0 < m) (hps : ∀ p ∈ ps, p.2 < m) (hrow : ∀ j, j < m → 0 ≤ row.getD j 0) : Leh m (k + 1) (pStep m ps row) (conv m C row) := by
  intro g a P
  have key : ∀ h, h < m → Sm g (pStep m ps row) h - a * Wt (k + 1) * conv m C row h = R m (fun j => Sm (fun x => g (16 * x)) ps j) + R m fun j => Sm (fun x => g (16 * x + row.getD j 0) - g (16 * x)) ps 0 - a * ((k : Int) + 1) * row.getD j 0 * 16 ^ k * Wt k * C 0 := by
    intro h hh
    rw [Sm_step g hps hrow hh]
    have e1 : (R m fun j => Sm (fun x => g (16 * x + row.getD j 0)) ps (back m h j)) = R m (fun j => Sm (fun x => g (16 * x)) ps (back m h j)) + R m fun j => Sm (fun x => g (16 * x + row.getD j 0) - g (16 * x)) ps (back m h j) := by
      rw [← R_add]
      refine R_congr fun j hj => ?_
      rw [← Sm_add]
      congr 1
      funext x
      omega
    have e2 : R m (fun j => Sm (fun x => g (16 * x)) ps (back m h j)) = R m (fun j => Sm (fun x => g (16 * x)) ps j) := R_turn (fun i => Sm (fun x => g (16 * x)) ps i) hh
    have e3 : (R m fun j => Sm (fun x => g (16 * x + row.getD j 0) - g (16 * x)) ps (back m h j)) = (R m fun j => Sm (fun x => g (16 * x + row.getD j 0) - g (16 * x)) ps 0 - a * ((k : Int) + 1) * row.getD j 0 * 16 ^ k * Wt k * C 0) + a * Wt (k + 1) * conv m C row h := by
      unfold conv
      rw [← R_mul, ← R_add]
      refine R_congr fun j hj => ?_
      have P' : Pol k (a * ((k : Int) + 1) * row.getD j 0 * 16 ^ k) (fun x => g (16 * x + row.getD j 0) - g (16 * x)) := (P (row.getD j 0)).scale 16
      have := L _ _ P' (back m h j) (back_lt hm)
      show _ = _ + a * (((k : Int) + 1) * 16 ^ k * Wt k) * _
      grind
    rw [e1, e2, e3]
    omega
  intro h hh
  rw [key h hh, key 0 hm]
theorem pStep_lt {m : Nat} (hm : 0 < m) {ps : List (Nat × Nat)} {row : List Int} : ∀ p ∈ pStep m ps row, p.2 < m := fun p hp => by
  unfold pStep at hp
  rw [List.mem_flatMap] at hp
  obtain ⟨q, _, hq⟩ := hp
  obtain ⟨j, _, rfl⟩ := List.mem_map.mp hq
  exact Nat.mod_lt _ hm
theorem Leh.rows {m : Nat} (hm : 0 < m) : ∀ (rows : List (List Int)) {k : Nat} {ps : List (Nat × Nat)} {C : Nat → Int}, (∀ r ∈ rows, ∀ j, j < m → 0 ≤ r.getD j 0) → Leh m k ps C → (∀ p ∈ ps, p.2 < m) →
    Leh m (k + rows.length) (rows.foldl (pStep m) ps) (rows.foldl (conv m) C)
  | [], k, ps, C, _, L, _ => L
  | r :: rows, k, ps, C, h, L, hps => by
    have := Leh.rows hm rows (fun q hq => h q (List.mem_cons_of_mem _ hq)) (L.step hm hps (h r List.mem_cons_self)) (pStep_lt hm)
    rw [List.length_cons, show k + (rows.length + 1) = k + 1 + rows.length by omega]
    exact this
theorem Leh.base (m lead c : Nat) : Leh m 0 [(lead, c)] (fun h => if c = h then 1 else 0) := by
  intro g a P h hh
  have : ∀ h, Sm g [(lead, c)] h - a * Wt 0 * (if c = h then 1 else 0) = 0 := fun h => by
    unfold Sm Wt
    simp only [List.map_cons, List.map_nil, List.sum_cons, List.sum_nil]
    split
    · rw [P]; omega
    · omega
  show Sm g [(lead, c)] h - a * Wt 0 * (if c = h then 1 else 0) = Sm g [(lead, c)] 0 - a * Wt 0 * (if c = 0 then 1 else 0)
  rw [this, this]
/-- the lower powers: the sums are the same -/
theorem Pol.raises : ∀ {e d : Nat} {a : Int} {g : Int → Int}, Pol d a g → d < e → Pol e 0 g
  | 0, _, _, _, _, h => by omega
  | e + 1, d, a, g, p, h => by
    rcases Nat.lt_or_ge d e with h1 | h1
    · exact (Pol.raises p h1).raise.cast rfl fun _ => rfl
    · obtain rfl : d = e := by omega
      exact p.raise
end Law62

set_option maxRecDepth 100000
set_option linter.unusedVariables false
namespace Law62
open PySem PySem.W PySem.Calls PyProof.Rows

theorem getD_set {α : Type} (xs : List α) (k h : Nat) (v d : α) (hk : k < xs.length) : (xs.set k v).getD h d = if k = h then v else xs.getD h d := by
  rw [List.getD_eq_getElem?_getD, List.getD_eq_getElem?_getD, List.getElem?_set]
  by_cases e : k = h
  · subst e; rw [if_pos rfl, if_pos rfl, if_pos hk]; rfl
  · rw [if_neg e, if_neg e]
theorem addAt_len (xs : List Int) (k : Nat) (d : Int) : (addAt xs k d).length = xs.length := by unfold addAt; rw [List.length_set]
theorem addAt_getD (xs : List Int) (k h : Nat) (d : Int) (hk : k < xs.length) : (addAt xs k d).getD h 0 = xs.getD h 0 + if k = h then d else 0 := by
  unfold addAt
  rw [getD_set _ _ _ _ _ hk]
  by_cases e : k = h
  · subst e; rw [if_pos rfl, if_pos rfl]
  · rw [if_neg e, if_neg e]; omega
/-- a fold whose steps each add v -/
theorem fold_adds {α β : Type} (E : β → Int) (P : β → Prop) (F : β → α → β) (v : α → Int) : ∀ (l : List α) (t : β), P t → (∀ t x, x ∈ l → P t → P (F t x) ∧ E (F t x) = E t + v x) → P (l.foldl F t) ∧ E (l.foldl F t) = E t + (l.map v).sum
  | [], t, ht, _ => ⟨ht, by simp⟩
  | a :: l, t, ht, h => by
    obtain ⟨h1, h2⟩ := h t a List.mem_cons_self ht
    obtain ⟨h3, h4⟩ := fold_adds E P F v l (F t a) h1 fun t x hx => h t x (List.mem_cons_of_mem _ hx)
    refine ⟨h3, ?_⟩
    rw [List.foldl_cons, h4, h2, List.map_cons, List.sum_cons]; omega
theorem range01 (m : Nat) : rangeInts 0 1 m = (List.range m).map fun i : Nat => (i : Int) := by
  unfold rangeInts
  exact List.map_congr_left fun i _ => by omega
theorem fmod_nat (a m : Nat) : ((a : Int).fmod (m : Int)).toNat = a % m := by
  rw [Int.fmod_eq_emod_of_nonneg _ (by omega)]; omega

theorem turnOf_getD {m : Nat} (hm : 0 < m) (dial row : List Int) (worth : Int) {h : Nat} (hh : h < m) : (turnOf m dial row worth).getD h 0 = worth * conv m (fun i => dial.getD i 0) row h := by
  have t2 : ∀ (t : List Int) (i : Nat), t.length = m → (turn2 m dial row worth t (i : Int)).length = m ∧ (turn2 m dial row worth t (i : Int)).getD h 0 = t.getD h 0 + R m fun j => if (i + j) % m = h then dial.getD i 0 * row.getD j 0 * worth else 0 := by
    intro t i ht
    unfold turn2
    rw [range01, List.foldl_map]
    refine fold_adds (fun t => t.getD h 0) (fun t => t.length = m) _ (fun j : Nat => if (i + j) % m = h then dial.getD i 0 * row.getD j 0 * worth else 0) (List.range m) t ht fun t j _ ht => ?_
    have e : ((i : Int) + (j : Int)).fmod (m : Int) = (((i + j : Nat) : Int)).fmod (m : Int) := by rw [Int.natCast_add]
    unfold turn1
    rw [e, fmod_nat, Int.toNat_natCast, Int.toNat_natCast]
    exact ⟨by rw [addAt_len]; exact ht, addAt_getD _ _ _ _ (by rw [ht]; exact Nat.mod_lt _ hm)⟩
  unfold turnOf
  rw [range01, List.foldl_map]
  have := (fold_adds (fun t => t.getD h 0) (fun t => t.length = m) (fun t (i : Nat) => turn2 m dial row worth t (i : Int)) (fun i : Nat => R m fun j => if (i + j) % m = h then dial.getD i 0 * row.getD j 0 * worth else 0) (List.range m) (List.replicate m 0) List.length_replicate fun t i _ ht => t2 t i ht).2
  rw [this]
  have e0 : (List.replicate m (0 : Int)).getD h 0 = 0 := by
    rw [List.getD_eq_getElem?_getD, List.getElem?_replicate, if_pos hh]; rfl
  rw [e0, Int.zero_add]
  show (R m fun i => R m fun j => if (i + j) % m = h then dial.getD i 0 * row.getD j 0 * worth else 0) = _
  rw [R_swap]
  unfold conv
  rw [← R_mul]
  refine R_congr fun j hj => ?_
  rw [R_back (fun i => dial.getD i 0 * row.getD j 0 * worth) hh hj]
  grind

theorem conv_congr {m : Nat} {C C' : Nat → Int} (hm : 0 < m) (h : ∀ i, i < m → C i = C' i) (row : List Int) : ∀ i, i < m → conv m C row i = conv m C' row i := fun i hi =>
  R_congr fun j hj => by rw [h _ (back_lt hm)]
theorem conv_mul {m : Nat} (k : Int) (C : Nat → Int) (row : List Int) (h : Nat) : conv m (fun i => k * C i) row h = k * conv m C row h := by
  unfold conv
  rw [← R_mul]
  exact R_congr fun j _ => by grind
def PW (len : Nat) : Nat → Nat → Int
  | _, 0 => 1
  | i, n + 1 => worthOf len i * PW len (i + 1) n
theorem dials_getD {m len : Nat} (hm : 0 < m) : ∀ (rows : List (List Int)) (i : Nat) (dial : List Int) (C : Nat → Int) (k : Int), (∀ h, h < m → dial.getD h 0 = k * C h) →
    ∀ h, h < m → ((rows.zipIdx i).foldl (dialStep m len) dial).getD h 0 = k * PW len i rows.length * (rows.foldl (conv m) C) h
  | [], i, dial, C, k, hd, h, hh => by
    show dial.getD h 0 = k * 1 * C h
    rw [hd h hh, Int.mul_one]
  | r :: rows, i, dial, C, k, hd, h, hh => by
    rw [List.zipIdx_cons, List.foldl_cons, List.foldl_cons]
    have := dials_getD (len := len) hm rows (i + 1) (dialStep m len dial (r, i)) (conv m C r) (k * worthOf len i) (fun h hh => by
      show (turnOf m dial r (worthOf len i)).getD h 0 = _
      rw [turnOf_getD hm _ _ _ hh, conv_congr hm hd r h hh, conv_mul]
      grind) h hh
    rw [this]
    show _ = k * (worthOf len i * PW len (i + 1) rows.length) * _
    grind
theorem product_getD {m c k : Nat} (hm : 0 < m) (hc : c < m) {rows : List (List Int)} (hk : rows.length = k) (hw : PW k 0 k = Wt k) {h : Nat} (hh : h < m) :
    (productOf m c rows).getD h 0 = Wt k * (rows.foldl (conv m) fun h => if c = h then 1 else 0) h := by
  unfold productOf
  have := dials_getD (len := rows.length) hm rows 0 ((List.replicate m 0).set c 1) (fun h => if c = h then 1 else 0) 1 (fun h hh => by
    rw [getD_set _ _ _ _ _ (by rw [List.length_replicate]; exact hc)]
    by_cases e : c = h
    · rw [if_pos e, if_pos e]; rfl
    · rw [if_neg e, if_neg e, List.getD_eq_getElem?_getD, List.getElem?_replicate, if_pos hh]; rfl) h hh
  rw [this, hk, hw, Int.one_mul]
theorem dialFold_length {m len : Nat} : ∀ (l : List (List Int × Nat)) (d : List Int), d.length = m → (l.foldl (dialStep m len) d).length = m := foldl_dial_length
theorem product_length {m c : Nat} (rows : List (List Int)) : (productOf m c rows).length = m := foldl_dial_length _ _ (by rw [List.length_set, List.length_replicate])

/-- the sums -/
def En (S : List (List Int)) (p h : Nat) : Int := (S.getD p []).getD h 0
theorem step1_En {m q : Nat} {n : Int} {hx : Nat} {S : List (List Int)} (x : Sz m q S) (hxm : hx < m) {p' : Nat} (hp' : p' < q) (p h : Nat) :
    En (sumStep1 n hx S (p' : Int)) p h = En S p h + if p' = p then (if hx = h then n ^ p else 0) else 0 := by
  unfold En sumStep1
  rw [Int.toNat_natCast, getD_set _ _ _ _ _ (by rw [x.1]; exact hp')]
  by_cases e : p' = p
  · subst e
    rw [if_pos rfl, if_pos rfl, addAt_getD]
    have hr := x.2 (S.getD p' []) (by rw [List.getD_eq_getElem?_getD, List.getElem?_eq_getElem (by rw [x.1]; exact hp')]; exact List.getElem_mem _)
    rw [hr]; exact hxm
  · rw [if_neg e, if_neg e]; omega
theorem sumStep_En {m pl : Nat} (hm : 0 < m) {S : List (List Int)} (x : Sz m (pl + 1) S) (y : Int × Str) {p h : Nat} (hp : p < pl + 1) :
    Sz m (pl + 1) (sumStep m pl S y) ∧ En (sumStep m pl S y) p h = En S p h + if y.2.length % m = h then y.1 ^ p else 0 := by
  unfold sumStep
  rw [range01, List.foldl_map, fmod_nat]
  have hxm : y.2.length % m < m := Nat.mod_lt _ hm
  generalize y.2.length % m = hx at hxm
  obtain ⟨h1, h2⟩ := fold_adds (fun S => En S p h) (fun S => Sz m (pl + 1) S) (fun S (p' : Nat) => sumStep1 y.1 hx S (p' : Int)) (fun p' : Nat => if p' = p then (if hx = h then y.1 ^ p else 0) else 0) (List.range (pl + 1)) S x
    fun S p' hp' x => ⟨sz_step1 x, step1_En x hxm (List.mem_range.mp hp') p h⟩
  refine ⟨h1, ?_⟩
  rw [h2]
  congr 1
  exact R_one (fun _ => if hx = h then y.1 ^ p else 0) hp
theorem sums_En {m pl : Nat} (hm : 0 < m) (Ns : List Nat) (f : Nat → Str) {p h : Nat} (hp : p < pl + 1) :
    Sz m (pl + 1) (sumsOf m pl (Ns.map fun n : Nat => (n : Int)) (Ns.map f)) ∧ En (sumsOf m pl (Ns.map fun n : Nat => (n : Int)) (Ns.map f)) p h = (Ns.map fun n : Nat => if (f n).length % m = h then (n : Int) ^ p else 0).sum := by
  unfold sumsOf
  rw [List.zip_map', List.foldl_map]
  obtain ⟨h1, h2⟩ := fold_adds (fun S => En S p h) (fun S => Sz m (pl + 1) S) (fun S (n : Nat) => sumStep m pl S ((n : Int), f n)) (fun n : Nat => if (f n).length % m = h then (n : Int) ^ p else 0) Ns _ (sz_init m (pl + 1))
    fun S n _ x => sumStep_En hm x ((n : Int), f n) hp
  refine ⟨h1, ?_⟩
  rw [h2]
  have : En (List.replicate (pl + 1) (List.replicate m 0)) p h = 0 := by
    unfold En
    have e : (List.replicate (pl + 1) (List.replicate m (0 : Int))).getD p [] = List.replicate m 0 := by
      rw [List.getD_eq_getElem?_getD, List.getElem?_replicate, if_pos hp]; rfl
    rw [e]
    rw [List.getD_eq_getElem?_getD, List.getElem?_replicate]
    split <;> rfl
  rw [this]; omega
end Law62

set_option maxRecDepth 100000
set_option linter.unusedVariables false
namespace Law62
open PySem PySem.W PySem.Calls PyProof.Rows

theorem fig_all : ∀ hand : Fin 5, ∀ m ∈ [2, 3, 4, 5], ∀ j : Fin 5, j.val < m → 0 < (figsOf (lensOf hand.val) (m : Int) (j.val : Int)).length := by decide +kernel
theorem m_cases {m k : Nat} (h : ((m : Int), (k : Int)) ∈ pairT) : (m = 3 ∧ k = 3) ∨ (m = 4 ∧ k = 2) ∨ (m = 5 ∧ k = 2) ∨ (m = 2 ∧ k = 5) := by
  unfold pairT at h
  simp only [List.mem_cons, List.not_mem_nil, or_false, Prod.mk.injEq] at h
  omega
theorem fig_pos {hand m k j : Nat} (hh : hand < 5) (h : ((m : Int), (k : Int)) ∈ pairT) (hj : j < m) : 0 < (figsOf (lensOf hand) (m : Int) (j : Int)).length := by
  have hm := m_cases h
  exact fig_all ⟨hand, hh⟩ m (by rcases hm with ⟨rfl, _⟩ | ⟨rfl, _⟩ | ⟨rfl, _⟩ | ⟨rfl, _⟩ <;> decide) ⟨j, by omega⟩ hj

/-- a row as it must be -/
def RowOk (hand m : Nat) (row : List Int) : Prop := row.length = m ∧ ∀ j, j < m → ∃ f : Nat, f < 16 ∧ row.getD j 0 = (f : Int) ∧ ((lensOf hand).getD f 0).fmod m = (j : Int)
theorem row_ok {hand m k : Nat} (hh : hand < 5) (h : ((m : Int), (k : Int)) ∈ pairT) (place deal : Int) : RowOk hand m (rowOf (lensOf hand) m place deal) := by
  refine ⟨by unfold rowOf; rw [List.length_map, rangeInts_length], fun j hj => ?_⟩
  have e : (rowOf (lensOf hand) m place deal).getD j 0 = figAt (lensOf hand) m place deal (j : Int) := by
    unfold rowOf
    rw [List.getD_eq_getElem?_getD, List.getElem?_map, rangeInts_get hj]
    show figAt (lensOf hand) m place deal (0 + (j : Int) * 1) = _
    rw [show (0 : Int) + (j : Int) * 1 = j by omega]
  have hp := fig_pos hh h hj
  rw [e]
  unfold figAt
  generalize hF : figsOf (lensOf hand) (m : Int) (j : Int) = Fg at hp
  have hi : ((place + deal.fdiv (4 ^ (j : Int).toNat)).fmod (Fg.length : Int)).toNat < Fg.length := by
    have h1 := fmod_hi (place + deal.fdiv (4 ^ (j : Int).toNat)) (n := (Fg.length : Int)) (by omega)
    have h0 := fmod_lo (place + deal.fdiv (4 ^ (j : Int).toNat)) (n := (Fg.length : Int)) (by omega)
    omega
  rw [List.getD_eq_getElem?_getD, List.getElem?_eq_getElem hi]
  have hm : Fg[((place + deal.fdiv (4 ^ (j : Int).toNat)).fmod (Fg.length : Int)).toNat] ∈ figsOf (lensOf hand) (m : Int) (j : Int) := by rw [hF]; exact List.getElem_mem _
  generalize Fg[((place + deal.fdiv (4 ^ (j : Int).toNat)).fmod (Fg.length : Int)).toNat] = f at hm
  unfold figsOf at hm
  obtain ⟨h1, h2⟩ := List.mem_filter.mp hm
  rw [range01] at h1
  obtain ⟨f', hf', rfl⟩ := List.mem_map.mp h1
  exact ⟨f', List.mem_range.mp hf', rfl, by simpa using h2⟩
theorem rows_ok {hand m k : Nat} (hh : hand < 5) (h : ((m : Int), (k : Int)) ∈ pairT) (deals : List Int) : ∀ r ∈ rowsOf (lensOf hand) m deals, RowOk hand m r := fun r hr => by
  unfold rowsOf at hr
  obtain ⟨x, _, rfl⟩ := List.mem_map.mp hr
  exact row_ok hh h _ _

/-- what is so of a number behind i rows -/
def Inv (hand m i : Nat) (p : Nat × Nat) : Prop := 1 ≤ p.1 ∧ p.1 < 16 ^ (i + 1) ∧ cl (plainOf i (p.1 : Int)) = cl (textOf p.1) ∧ (escText hand p.1).length % m = p.2
theorem Inv.step {hand m i : Nat} (hh : hand < 5) {ps : List (Nat × Nat)} {row : List Int} (h : ∀ p ∈ ps, Inv hand m i p) (hr : RowOk hand m row) : ∀ p ∈ pStep m ps row, Inv hand m (i + 1) p := fun p hp => by
  unfold pStep at hp
  obtain ⟨q, hq, hp⟩ := List.mem_flatMap.mp hp
  obtain ⟨j, hj, rfl⟩ := List.mem_map.mp hp
  obtain ⟨f, hf, e, hl⟩ := hr.2 j (List.mem_range.mp hj)
  obtain ⟨h1, h2, h3, h4⟩ := h q hq
  rw [e, Int.toNat_natCast]
  refine ⟨by show 1 ≤ 16 * q.1 + f; omega, ?_, ?_, ?_⟩
  · show 16 * q.1 + f < 16 ^ (i + 1 + 1)
    rw [Nat.pow_succ]; omega
  · show cl (plainOf (i + 1) ((16 * q.1 + f : Nat) : Int)) = cl (textOf (16 * q.1 + f))
    rw [plainOf_step hf, textOf_step h1 hf, h3]
  · show (escText hand (16 * q.1 + f)).length % m = (q.2 + j) % m
    have e1 := escText_step hh h1 hf
    have e2 : ((lensOf hand).getD f 0) % (m : Int) = (j : Int) := by rw [← hl, Int.fmod_eq_emod_of_nonneg _ (by omega)]
    have e3 : (((escText hand (16 * q.1 + f)).length % m : Nat) : Int) = (((q.2 + j) % m : Nat) : Int) := by
      rw [Int.natCast_emod, e1, Int.add_emod, e2, ← Int.natCast_emod, h4, ← Int.natCast_add, ← Int.natCast_emod]
    omega
theorem Inv.rows {hand m : Nat} (hh : hand < 5) : ∀ (rows : List (List Int)) (i : Nat) (ps : List (Nat × Nat)), (∀ r ∈ rows, RowOk hand m r) → (∀ p ∈ ps, Inv hand m i p) → ∀ p ∈ rows.foldl (pStep m) ps, Inv hand m (i + rows.length) p
  | [], i, ps, _, h => h
  | r :: rows, i, ps, hr, h => by
    have := Inv.rows hh rows (i + 1) (pStep m ps r) (fun q hq => hr q (List.mem_cons_of_mem _ hq)) (Inv.step hh h (hr r List.mem_cons_self))
    rw [List.length_cons, show i + (rows.length + 1) = i + 1 + rows.length by omega]
    exact this
theorem pStep_length (m : Nat) (row : List Int) : ∀ ps : List (Nat × Nat), (pStep m ps row).length = ps.length * m
  | [] => by simp [pStep]
  | p :: ps => by
    have ih := pStep_length m row ps
    unfold pStep at ih ⊢
    rw [List.flatMap_cons, List.length_append, ih, List.length_map, List.length_range, List.length_cons, Nat.succ_mul, Nat.add_comm]
theorem pFold_length (m : Nat) : ∀ (rows : List (List Int)) (ps : List (Nat × Nat)), (rows.foldl (pStep m) ps).length = ps.length * m ^ rows.length
  | [], ps => by simp
  | r :: rows, ps => by rw [List.foldl_cons, pFold_length m rows, pStep_length, List.length_cons, Nat.pow_succ, Nat.mul_assoc, Nat.mul_comm m]
theorem nums_map {hand m : Nat} : ∀ (rows : List (List Int)) (ps : List (Nat × Nat)), (∀ r ∈ rows, RowOk hand m r) → rows.foldl nStep (ps.map fun p => (p.1 : Int)) = (rows.foldl (pStep m) ps).map fun p => (p.1 : Int)
  | [], ps, _ => rfl
  | r :: rows, ps, h => by
    rw [List.foldl_cons, List.foldl_cons, ← nums_map rows (pStep m ps r) fun q hq => h q (List.mem_cons_of_mem _ hq)]
    congr 1
    obtain ⟨hl, hr⟩ := h r List.mem_cons_self
    unfold nStep pStep
    rw [List.flatMap_map, List.map_flatMap]
    rw [List.flatMap_def, List.flatMap_def]
    congr 1
    refine List.map_congr_left fun p hp => ?_
    rw [List.map_map]
    have er : r = (List.range m).map fun j => r.getD j 0 := by
      apply List.ext_getElem
      · rw [List.length_map, List.length_range, hl]
      · intro j h1 h2
        rw [List.getElem_map, List.getElem_range, List.getD_eq_getElem?_getD, List.getElem?_eq_getElem h1]; rfl
    conv => lhs; rw [er]
    rw [List.map_map]
    refine List.map_congr_left fun j hj => ?_
    obtain ⟨f, hf, e, _⟩ := hr j (List.mem_range.mp hj)
    show 16 * (p.1 : Int) + r.getD j 0 = ((16 * p.1 + (r.getD j 0).toNat : Nat) : Int)
    rw [e]; omega

theorem enc_blank : ∀ hand : Fin 5, encC hand.val 32 = [32] := by decide +kernel
theorem enc_le6 (hand : Nat) : ∀ c ∈ alph, (encC hand c).length ≤ 6 := fun c hc => by
  have := take_le6 hand (escBy hand).length c hc
  rw [List.take_length] at this
  exact this
theorem cl_textOf_len {n : Nat} (h : n < 16 ^ 8) : (cl (textOf n)).length ≤ 24 := by
  rw [← len_cl]; exact textOf_len h
theorem eq_rep {m : Nat} {l : List Int} (h : l.length = m) (e : ∀ h, h < m → l.getD h 0 = l.getD 0 0) : ∃ c, l = List.replicate m c :=
  ⟨l.getD 0 0, List.eq_replicate_iff.mpr ⟨h, fun b hb => by
    obtain ⟨i, hi, rfl⟩ := List.getElem_of_mem hb
    have := e i (by omega)
    rw [List.getD_eq_getElem?_getD, List.getElem?_eq_getElem hi] at this
    exact this⟩⟩

theorem pages_list {hand : Nat} (hh : hand < 5) (Ns : List Nat) : cl (Txt.join " " (Ns.map (escText hand))) = (inter [32] (Ns.map fun n => cl (textOf n))).flatMap (encC hand) := by
  have e : [32].flatMap (encC hand) = [32] := by rw [List.flatMap_singleton]; exact enc_blank ⟨hand, hh⟩
  rw [cl_join, ← inter_flatMap _ _ e, List.map_map, List.map_map]
  show inter [32] _ = _
  congr 1
  exact List.map_congr_left fun n _ => escText_list hand n
theorem plainAll_list {k : Nat} {Ns : List Nat} (h : ∀ n : Nat, n ∈ Ns → cl (plainOf k (n : Int)) = cl (textOf n)) : cl (plainAll k (Ns.map fun n : Nat => (n : Int))) = inter [32] (Ns.map fun n => cl (textOf n)) := by
  unfold plainAll
  rw [cl_join, List.map_map, List.map_map]
  show inter [32] _ = _
  congr 1
  exact List.map_congr_left fun n hn => h n hn
theorem plain_ok (hand lead m k : Nat) (deals : List Int) (hh : hand < 5) (l1 : 1 ≤ lead) (l16 : lead < 16) (hmk : ((m : Int), (k : Int)) ∈ pairT) (hd : deals.length = k) : PlainOk hand lead m k deals := by
  have hc := m_cases hmk
  have hm0 : 0 < m := by omega
  have hk5 : k ≤ 5 := by omega
  have hrows := rows_ok hh hmk deals
  have hrl : (rowsOf (lensOf hand) m deals).length = k := by unfold rowsOf; rw [List.length_map, List.length_zipIdx, hd]
  have hmk32 : m ^ k ≤ 32 := by rcases hc with ⟨rfl, rfl⟩ | ⟨rfl, rfl⟩ | ⟨rfl, rfl⟩ | ⟨rfl, rfl⟩ <;> decide
  have hPW : PW k 0 k = Wt k := by rcases hc with ⟨_, rfl⟩ | ⟨_, rfl⟩ | ⟨_, rfl⟩ | ⟨_, rfl⟩ <;> decide +kernel
  refine ⟨fun j hj => fig_pos hh hmk hj, hrl, fun r hr => ?_, ?_⟩
  · obtain ⟨h1, h2⟩ := hrows r hr
    refine ⟨h1, fun x hx => ?_⟩
    obtain ⟨i, hi, rfl⟩ := List.getElem_of_mem hx
    obtain ⟨f, hf, e, _⟩ := h2 i (by omega)
    rw [List.getD_eq_getElem?_getD, List.getElem?_eq_getElem hi] at e
    have e : r[i] = (f : Int) := e
    rw [e]; omega
  generalize rowsOf (lensOf hand) m deals = rows at hrows hrl
  have hc0 : ((lensOf hand).getD lead 0).fmod m = ((((lensOf hand).getD lead 0).fmod m).toNat : Int) := by
    have := fmod_lo ((lensOf hand).getD lead 0) (n := (m : Int)) (by omega); omega
  have hc1 : (((lensOf hand).getD lead 0).fmod m).toNat < m := by
    have := fmod_hi ((lensOf hand).getD lead 0) (n := (m : Int)) (by omega); omega
  generalize (((lensOf hand).getD lead 0).fmod m).toNat = c at hc0 hc1
  have base : ∀ p ∈ [(lead, c)], Inv hand m 0 p := fun p hp => by
    rw [List.mem_singleton.mp hp]
    refine ⟨l1, by simpa using l16, ?_, ?_⟩
    · show cl (plainOf 0 (lead : Int)) = cl (textOf lead)
      rw [plainOf_one l16, textOf_one l1 l16]
    · show (escText hand lead).length % m = c
      have e1 := escText_one hh l1 l16
      have e2 : (((escText hand lead).length % m : Nat) : Int) = (c : Int) := by
        rw [Int.natCast_emod, e1, ← hc0, Int.fmod_eq_emod_of_nonneg _ (by omega)]
      omega
  have hinv := Inv.rows hh rows 0 [(lead, c)] hrows base
  rw [Nat.zero_add, hrl] at hinv
  have hlen := pFold_length m rows [(lead, c)]
  have hnum : numbersOf lead rows = (rows.foldl (pStep m) [(lead, c)]).map fun p => (p.1 : Int) := nums_map rows [(lead, c)] hrows
  have hLeh := Leh.rows hm0 rows (k := 0) (ps := [(lead, c)]) (fun r hr j hj => by
    obtain ⟨f, _, e, _⟩ := (hrows r hr).2 j hj
    rw [e]; omega) (Leh.base m lead c) (fun p hp => by rw [List.mem_singleton.mp hp]; exact hc1)
  rw [Nat.zero_add, hrl] at hLeh
  have hprod : ∀ h, h < m → (productOf m c rows).getD h 0 = Wt k * (rows.foldl (conv m) fun h => if c = h then 1 else 0) h := fun h hh' => product_getD hm0 hc1 hrl hPW hh'
  generalize (rows.foldl (conv m) fun h => if c = h then 1 else 0) = C at hLeh hprod
  generalize rows.foldl (pStep m) [(lead, c)] = prs at hinv hlen hnum hLeh
  rw [hrl, List.length_singleton, Nat.one_mul] at hlen
  have hNs : (prs.map fun p => (p.1 : Int)) = (prs.map (·.1)).map fun n : Nat => (n : Int) := by rw [List.map_map]; rfl
  have hb : ∀ n : Nat, n ∈ prs.map (·.1) → 1 ≤ n ∧ n < 16 ^ 8 ∧ cl (plainOf k (n : Int)) = cl (textOf n) := fun n hn => by
    obtain ⟨p, hp, rfl⟩ := List.mem_map.mp hn
    obtain ⟨h1, h2, h3, _⟩ := hinv p hp
    exact ⟨h1, Nat.lt_of_lt_of_le h2 (Nat.pow_le_pow_right (by decide) (show k + 1 ≤ 8 by omega)), h3⟩
  have hEn : ∀ p h, p < k + 1 → En (sumsOf m k ((prs.map (·.1)).map fun n : Nat => (n : Int)) ((prs.map (·.1)).map (escText hand))) p h = Sm (fun x => x ^ p) prs h := fun p h hp => by
    rw [(sums_En hm0 (prs.map (·.1)) (escText hand) hp).2, List.map_map]
    unfold Sm
    congr 1
    refine List.map_congr_left fun q hq => ?_
    show (if (escText hand q.1).length % m = h then (q.1 : Int) ^ p else 0) = _
    rw [(hinv q hq).2.2.2]
  have hSz := (sums_En hm0 (prs.map (·.1)) (escText hand) (p := 0) (h := 0) (show 0 < k + 1 by omega)).1
  generalize hsums : sumsOf m k ((prs.map (·.1)).map fun n : Nat => (n : Int)) ((prs.map (·.1)).map (escText hand)) = sums at hEn hSz
  have hNl : (prs.map (·.1)).length ≤ 32 := by rw [List.length_map, hlen]; exact hmk32
  have hpages : cl (Txt.join " " ((prs.map (·.1)).map (escText hand))) = (inter [32] ((prs.map (·.1)).map fun n => cl (textOf n))).flatMap (encC hand) := pages_list hh _
  have halph : ∀ x ∈ inter [32] ((prs.map (·.1)).map fun n => cl (textOf n)), x ∈ alph := fun x hx => by
    rcases inter_mem hx with h | ⟨y, hy, h⟩
    · rw [List.mem_singleton.mp h]; decide
    · obtain ⟨n, _, rfl⟩ := List.mem_map.mp hy
      exact textOf_alph n x h
  have hTlen : (inter [32] ((prs.map (·.1)).map fun n => cl (textOf n))).length ≤ 32 * 25 := by
    refine Nat.le_trans (inter_len (k := 24) fun x hx => ?_) ?_
    · obtain ⟨n, hn, rfl⟩ := List.mem_map.mp hx
      exact cl_textOf_len (hb n hn).2.1
    · rw [List.length_map]
      exact Nat.mul_le_mul_right 25 hNl
  obtain ⟨hr1, hr2⟩ := rd_fold halph ((written hand).zip marks.cps.toList) (encC hand) _ hpages (rd_ok ⟨hand, hh⟩)
  refine ⟨prs.map (·.1), by rw [hnum, hNs], hNl, ?_, ?_, ?_, by rw [hsums]; exact hSz, ?_⟩
  · intro n hn
    obtain ⟨_, hn8, _⟩ := hb n hn
    have hlt := cl_textOf_len hn8
    refine ⟨hn8, fun j => ?_, ?_⟩
    · rw [len_cl, esc_take_list]
      have := flat_len (k := 6) (fun c => gfold [c] ((escBy hand).take j)) (cl (textOf n)) fun x hx => take_le6 hand j x (textOf_alph n x hx)
      omega
    · rw [len_cl, escText_list]
      have := flat_len (k := 6) (encC hand) (cl (textOf n)) fun x hx => enc_le6 hand x (textOf_alph n x hx)
      omega
  · intro j
    rw [len_cl]
    have := hr2 j
    omega
  · refine cl_inj ?_
    show cl (((written hand).zip marks.cps.toList).foldl readStep (Txt.join " " ((prs.map (·.1)).map (escText hand)))) = _
    rw [hr1, flatMap_id fun x hx => rd_back ⟨hand, hh⟩ x (halph x hx)]
    exact (plainAll_list fun n hn => (hb n hn).2.2).symm
  · rw [hsums]
    intro line hl
    unfold levelOf at hl
    rcases List.mem_append.mp hl with hl | hl
    · obtain ⟨p, hp, rfl⟩ := List.getElem_of_mem hl
      rw [List.length_take] at hp
      have hpk : p < k := by omega
      have hps : p < sums.length := by omega
      rw [List.getElem_take]
      refine eq_rep (hSz.2 _ (List.getElem_mem _)) fun h hh' => ?_
      have e : ∀ h, sums[p].getD h 0 = Sm (fun x => x ^ p) prs h := fun h => by
        rw [← hEn p h (by omega)]
        unfold En
        rw [List.getD_eq_getElem?_getD (l := sums), List.getElem?_eq_getElem hps]; rfl
      have := hLeh _ 0 ((Pol.pow p).raises hpk) h hh'
      rw [e, e]
      simpa using this
    · rw [List.mem_singleton] at hl
      subst hl
      have hrow : (sums.getD k []).length = m := hSz.2 _ (by rw [List.getD_eq_getElem?_getD, List.getElem?_eq_getElem (by rw [hSz.1]; omega)]; exact List.getElem_mem _)
      have hpl : (productOf m c rows).length = m := product_length rows
      have e : ∀ h, h < m → (((sums.getD k []).zip (productOf m c rows)).map fun x => x.1 - x.2).getD h 0 = Sm (fun x => x ^ k) prs h - 1 * Wt k * C h := fun h hh' => by
        rw [← hEn k h (by omega), Int.one_mul, ← hprod h hh']
        unfold En
        rw [List.getD_eq_getElem?_getD, List.getElem?_map, List.getElem?_eq_getElem (by rw [List.length_zip, hrow, hpl]; omega), List.getElem_zip]
        rw [List.getD_eq_getElem?_getD (l := sums.getD k []), List.getElem?_eq_getElem (by omega), List.getD_eq_getElem?_getD (l := productOf m c rows), List.getElem?_eq_getElem (by omega)]; rfl
      refine eq_rep (by rw [List.length_map, List.length_zip, hrow, hpl, Nat.min_self]) fun h hh' => ?_
      rw [e h hh', e 0 hm0]
      exact hLeh _ 1 (Pol.pow k) h hh'
end Law62

namespace Law62
open PySem PySem.W PySem.Calls PyProof.Rows
theorem holds : PySem.Challenge.rw_tr0062_01.Holds := by
  have hdef : defOf qv PySem.Challenge.rw_tr0062_01.row.name = some (⟨fname 23, fpar 23, fbody 23, fsc 23, ⟨162, 0, 176, 57⟩⟩, []) := by kernel_rfl!
  exact head hdef (by kernel_rfl!) (by kernel_rfl!) (law_walk plain_ok hdef)
end Law62

theorem PySem.Challenge.cw_tr0062_01_holds : PySem.Challenge.rw_tr0062_01.Holds := by
  exact Law62.holds
