import PyProof.Rows.All
import Wide.All
import OpenK.AllK
import Wide.FinOn
import Lean
import PySem.Challenge.RW_wf0082_01
set_option genSizeOf false
section
open PySem PySem.W PyProof.Rows
set_option Elab.async false
namespace Mine
open Sem (wp)

noncomputable def gdH {α : Type} (b : Bool) (o : Option α) : Option α := match b with
  | true => o
  | false => none
theorem gdH_inv {α : Type} {b : Bool} {o : Option α} {r : α} (h : gdH b o = some r) : b = true ∧ o = some r := by
  cases b with
  | true => exact ⟨rfl, h⟩
  | false => exact nomatch h
theorem bindH_inv {α β : Type} {a : Option α} {f : α → Option β} {r : β} (h : a.bind f = some r) : ∃ x, a = some x ∧ f x = some r := by
  cases a with
  | none => exact nomatch h
  | some x => exact ⟨x, rfl, h⟩
/-- the object at a place -/
noncomputable def ldH (s : SharedT) (a : Addr) : Option Obj := gdH (Nat.blt a s.n) ((s.tree.get a).bind alive)
/-- the object at a place, if there is one -/
noncomputable def ldA (s : SharedT) (a : Addr) : Option (Option Obj) := match Nat.blt a s.n with
  | true => (s.tree.get a).bind fun o => some (alive o)
  | false => some none
/-- a big-step evaluator of the semantics' own trees over a heap written as a tree -/
noncomputable def wr (den : Code → Sem Fin) (prog : Program) (w : World) (run : Ctx → Pos → SharedT → Option (Result × SharedT)) (Γ : Ctx) {α : Type} :
    Sem α → Pos → SharedT → Option (Except Value α × Pos × SharedT)
  | .pure a, p, s => some (.ok a, p, s)
  | .raise e, p, s => some (.error e, p, s)
  | .rule _ k, p, s => wr den prog w run Γ (k ()) p s
  | .at q k, _, s => wr den prog w run Γ (k ()) q s
  | .load a _ k, p, s => (ldH s a).bind fun o => wr den prog w run Γ (k o) p s
  | .update a _ f k, p, s => (ldH s a).bind fun _ => wr den prog w run Γ (k ()) p ⟨s.tree.set a f, s.n, s.life, s.gens, s.drawn, s.toks, s.os⟩
  | .alloc o k, p, s => gdH ((s.tree.ins s.n o).get s.n).isSome (wr den prog w run Γ (k s.n) p ⟨s.tree.ins s.n o, s.n + 1, s.life, s.gens, s.drawn, s.toks, s.os⟩)
  | .loadIfAlive a k, p, s => (ldA s a).bind fun o => wr den prog w run Γ (k o) p s
  | .point _ k, p, s => wr den prog w run Γ (k ()) p s
  | .fresh k, p, s => wr den prog w run Γ (k s.toks) p ⟨s.tree, s.n, s.life, s.gens, s.drawn, s.toks + 1, s.os⟩
  | .ask k, p, s => wr den prog w run Γ (k ⟨prog, w.params⟩) p s
  | .call c h _ _ k, p, s => (run (Γ.enter c h p) p s).bind fun x => wr den prog w run Γ (k x.1) p x.2
  | .handled own k, p, s => wr den prog w run Γ (k (match own with | true => Γ.own | false => Γ.handled)) p s
  | .stack k, p, s => wr den prog w run Γ (k ((Γ.code, p) :: Γ.below)) p s
  | _, _, _ => none

noncomputable def runCode (den : Code → Sem Fin) (prog : Program) (w : World) : Nat → Ctx → Pos → SharedT → Option (Result × SharedT)
  | 0, _, _, _ => none
  | n + 1, Γ, p, s => match wr den prog w (runCode den prog w n) Γ (den Γ.code) p s with
    | some (.ok (.done f), _, s') => some (.ok f, s')
    | some (.ok (.again c), p', s') => match c.quiet with
      | true => runCode den prog w n (Γ.goto c) p' s'
      | false => none
    | some (.error e, _, s') => some (.error e, s')
    | none => none

section
variable {den : Code → Sem Fin} {prog : Program} {w : World}

theorem blt_lt {a b : Nat} (h : Nat.blt a b = true) : a < b := Nat.le_of_ble_eq_true h
theorem blt_nlt {a b : Nat} (h : Nat.blt a b = false) : ¬ a < b := fun q => by
  rw [show Nat.blt a b = true from Nat.ble_eq_true_of_le q] at h; cases h

theorem ldH_ok {s : SharedT} {a : Addr} {o : Obj} (h : ldH s a = some o) : s.abs.heap.get? a = some o := by
  obtain ⟨e, h2⟩ := gdH_inv h
  obtain ⟨o', g, al⟩ := bindH_inv h2
  exact (abs_get (blt_lt e) g).trans al
theorem ldA_ok {s : SharedT} {a : Addr} {o : Option Obj} (h : ldA s a = some o) : s.abs.heap.get? a = o := by
  unfold ldA at h
  split at h
  · rename_i e
    obtain ⟨o', g, al⟩ := bindH_inv h
    exact (abs_get (blt_lt e) g).trans (Option.some.inj al)
  · rename_i e
    exact (abs_get_none (blt_nlt e)).trans (Option.some.inj h)
theorem wr_sound {run : Ctx → Pos → SharedT → Option (Result × SharedT)}
    (hrun : ∀ Γ p s r s', run Γ p s = some (r, s') → wpCode ⟨den, prog, w⟩ Γ (fun r' t => r' = r ∧ t = s'.abs) p s.abs) {α : Type} {Γ : Ctx} :
    ∀ (t : Sem α) (p : Pos) (s : SharedT) (r : Except Value α) (p' : Pos) (s' : SharedT) (Q : α → Pos → Shared → Prop) (E : Value → Pos → Shared → Prop),
      wr den prog w run Γ t p s = some (r, p', s') → (match r with | .ok a => Q a p' s'.abs | .error e => E e p' s'.abs) → wp ⟨den, prog, w⟩ Γ t Q E p s.abs := by
  intro t
  induction t with
  | pure a => intro p s r p' s' Q E h hq; cases h; exact hq
  | raise e => intro p s r p' s' Q E h hq; cases h; exact hq
  | rule tag k ih => intro p s r p' s' Q E h hq; exact ih () _ _ _ _ _ Q E h hq
  | «at» q k ih => intro p s r p' s' Q E h hq; exact ih () _ _ _ _ _ Q E h hq
  | point l k ih => intro p s r p' s' Q E h hq; exact ih () _ _ _ _ _ Q E h hq
  | ask k ih => intro p s r p' s' Q E h hq; exact ih _ _ _ _ _ _ Q E h hq
  | stack k ih => intro p s r p' s' Q E h hq; exact ih _ _ _ _ _ _ Q E h hq
  | fresh k ih => intro p s r p' s' Q E h hq; exact ih _ _ _ _ _ _ Q E h hq
  | handled own k ih =>
    intro p s r p' s' Q E h hq
    have := ih _ _ _ _ _ _ Q E h hq
    cases own <;> exact this
  | load a part k ih =>
    intro p s r p' s' Q E h hq
    obtain ⟨o', h1, h2⟩ := bindH_inv (show (ldH s a).bind (fun o => wr den prog w run Γ (k o) p s) = some (r, p', s') from h)
    exact ⟨o', ldH_ok h1, ih _ _ _ _ _ _ Q E h2 hq⟩
  | update a part f k ih =>
    intro p s r p' s' Q E h hq
    obtain ⟨o', h1, h2⟩ := bindH_inv (show (ldH s a).bind (fun _ => wr den prog w run Γ (k ()) p ⟨s.tree.set a f, s.n, s.life, s.gens, s.drawn, s.toks, s.os⟩) = some (r, p', s') from h)
    have z := ih _ _ _ _ _ _ Q E h2 hq
    refine ⟨by rw [ldH_ok h1]; rfl, ?_⟩
    obtain ⟨e, h3⟩ := gdH_inv h1
    obtain ⟨o, g, _⟩ := bindH_inv h3
    have e2 : (⟨s.tree.set a f, s.n, s.life, s.gens, s.drawn, s.toks, s.os⟩ : SharedT).abs = { s.abs with heap := s.abs.heap.update a f } := by
      show (⟨absHeap (s.tree.set a f) s.n s.life, s.gens, s.drawn, s.toks, s.os⟩ : Shared) = _
      rw [absHeap_set g]; rfl
    rw [e2] at z; exact z
  | alloc o k ih =>
    intro p s r p' s' Q E h hq
    obtain ⟨e, h2⟩ := gdH_inv (show gdH ((s.tree.ins s.n o).get s.n).isSome (wr den prog w run Γ (k s.n) p ⟨s.tree.ins s.n o, s.n + 1, s.life, s.gens, s.drawn, s.toks, s.os⟩) = some (r, p', s') from h)
    have z := ih _ _ _ _ _ _ Q E h2 hq
    have e2 : (⟨s.tree.ins s.n o, s.n + 1, s.life, s.gens, s.drawn, s.toks, s.os⟩ : SharedT).abs = { s.abs with heap := s.abs.heap.push o } := by
      show (⟨absHeap (s.tree.ins s.n o) (s.n + 1) s.life, s.gens, s.drawn, s.toks, s.os⟩ : Shared) = _
      rw [absHeap_ins e]; rfl
    rw [e2] at z
    show wp _ _ (k s.abs.heap.objs.size) _ _ _ _
    rw [show s.abs.heap.objs.size = s.n from absHeap_size ..]
    exact z
  | loadIfAlive a k ih =>
    intro p s r p' s' Q E h hq
    obtain ⟨o, h1, h2⟩ := bindH_inv (show (ldA s a).bind (fun o => wr den prog w run Γ (k o) p s) = some (r, p', s') from h)
    show wp _ _ (k (s.abs.heap.get? a)) _ _ _ _
    rw [ldA_ok h1]
    exact ih _ _ _ _ _ _ Q E h2 hq
  | call c hd g l k ih =>
    intro p s r p' s' Q E h hq
    obtain ⟨⟨r₁, s₁⟩, e, h2⟩ := bindH_inv (show (run (Γ.enter c hd p) p s).bind (fun x => wr den prog w run Γ (k x.1) p x.2) = some (r, p', s') from h)
    show wpCode _ _ _ _ _
    refine wpCode_mono (fun r' t ht => ?_) (hrun _ _ _ _ _ e)
    obtain ⟨rfl, rfl⟩ := ht
    exact ih _ _ _ _ _ _ Q E h2 hq
  | _ => intro p s r p' s' Q E h hq; cases h

theorem runCode_sound : ∀ (n : Nat) (Γ : Ctx) (p : Pos) (s : SharedT) (r : Result) (s' : SharedT), runCode den prog w n Γ p s = some (r, s') →
    wpCode ⟨den, prog, w⟩ Γ (fun r' t => r' = r ∧ t = s'.abs) p s.abs
  | 0, _, _, _, _, _, h => by cases h
  | n + 1, Γ, p, s, r, s', h => by
    rw [wpCode_iff_wp]
    unfold runCode at h
    cases e : wr den prog w (runCode den prog w n) Γ (den Γ.code) p s with
    | none => rw [e] at h; cases h
    | some x =>
      obtain ⟨x, p₁, s₁⟩ := x
      rw [e] at h
      refine wr_sound (runCode_sound n) _ _ _ _ _ _ _ _ e ?_
      cases x with
      | error e' => cases h; exact ⟨rfl, rfl⟩
      | ok fin =>
        cases fin with
        | done f => cases h; exact ⟨rfl, rfl⟩
        | again c =>
          dsimp only at h
          cases hq : c.quiet with
          | false => rw [hq] at h; cases h
          | true => rw [hq] at h; exact ⟨hq, runCode_sound n _ _ _ _ _ h⟩
end
end Mine
end

section
open PySem PySem.W PyProof.Rows
set_option Elab.async false
namespace Mine
noncomputable def listNew : { b : Builtin // Builtin.«list.__new__» = b } := by
  refine' ⟨_, _⟩
  rotate_left
  · unfold Builtin.«list.__new__»
    rw [splitQ_eq]
noncomputable def tableM (id : String) : Option Builtin := match Nat.beq (code id) (code "list.__new__") with
  | true => some listNew.1
  | false => treeTable id
theorem tree_list_new : treeTable "list.__new__" = some Builtin.«list.__new__» := by kernel_rfl
theorem table_eq_M : table = tableM := by
  rw [table_eq_tree]
  funext id
  unfold tableM
  cases h : Nat.beq (code id) (code "list.__new__") with
  | false => rfl
  | true =>
    have e := Nat.eq_of_beq_eq_true h
    show entriesT.find (code id) = _
    rw [e, ← listNew.2]
    exact tree_list_new
end Mine
end

section
open PySem PySem.W PyProof.Rows
set_option Elab.async false
set_option linter.unusedVariables false
namespace Mine

noncomputable def ER (e : DictEntry) (x : Int × Str) : Prop := ∃ t u, e = ⟨hashInt x.1, .int x.1 t, .str x.2 u⟩
inductive ERs : List DictEntry → List (Int × Str) → Prop
  | nil : ERs [] []
  | cons {e x es xs} : ER e x → ERs es xs → ERs (e :: es) (x :: xs)
theorem ERs.length {es xs} (h : ERs es xs) : es.length = xs.length := by
  induction h with
  | nil => rfl
  | cons _ _ ih => simp [ih]
theorem ERs.append {es xs es' xs'} (h : ERs es xs) (h' : ERs es' xs') : ERs (es ++ es') (xs ++ xs') := by
  induction h with
  | nil => exact h'
  | cons a _ ih => exact .cons a ih
theorem ERs.mem {es xs} (h : ERs es xs) {e} (he : e ∈ es) : ∃ x ∈ xs, ER e x := by
  induction h with
  | nil => cases he
  | cons a _ ih =>
    cases he with
    | head => exact ⟨_, .head _, a⟩
    | tail _ he => obtain ⟨x, hx, r⟩ := ih he; exact ⟨x, .tail _ hx, r⟩
theorem ERs.get {es xs} (h : ERs es xs) : ∀ {i : Nat} {e}, es[i]? = some e → ∃ x, xs[i]? = some x ∧ ER e x := by
  induction h with
  | nil => intro i e h; simp at h
  | cons a _ ih =>
    intro i e h
    cases i with
    | zero => simp at h; subst h; exact ⟨_, rfl, a⟩
    | succ i => simp at h; simpa using ih h

noncomputable def DObj (o : Obj) (L : List (Int × Str)) : Prop := ∃ es ep, o = ⟨.type "dict", none, .dict es ep, #[]⟩ ∧ ERs es.toList L
theorem DObj.new : DObj { cls := .type "dict", data := .dict #[] } [] := ⟨#[], 0, rfl, .nil⟩

theorem ERs.intKeys {es : Array DictEntry} {L} (h : ERs es.toList L) : IntKeys es := fun e he => by
  obtain ⟨x, _, t, u, rfl⟩ := h.mem (Array.mem_toList_iff.mpr he)
  exact ⟨_, _, rfl, rfl⟩
theorem ERs.absent {es : Array DictEntry} {L} (h : ERs es.toList L) {k : Int} (hk : ∀ x ∈ L, x.1 ≠ k) : (es.findIdx? fun e => Value.isInt k e.key) = none :=
  Array.findIdx?_eq_none_iff.mpr fun e he => by
    obtain ⟨x, hx, t, u, rfl⟩ := h.mem (Array.mem_toList_iff.mpr he)
    show (x.1 == k) = false
    exact beq_eq_false_iff_ne.mpr (hk x hx)

/-- the objects as a list -/
noncomputable def mkS (s0 : Shared) (objs : List Obj) (k : Nat) : Shared := { s0 with heap := ⟨objs.toArray, s0.heap.life⟩, toks := s0.toks + k }
theorem mkS_get {s0 : Shared} {objs : List Obj} {k a : Nat} {o : Obj} (h : objs[a]? = some o) (hf : o.isFreed = false) : (mkS s0 objs k).heap.get? a = some o := by
  show (match objs.toArray[a]? with | some ⟨_, _, .freed, _⟩ => none | o => o) = some o
  rw [List.getElem?_toArray, h]
  obtain ⟨c, d, dt, sl⟩ := o
  cases dt <;> first | rfl | (cases hf)
theorem mkS_update {s0 : Shared} {objs : List Obj} {k a : Nat} {o : Obj} {f : Obj → Obj} (h : objs[a]? = some o) :
    { mkS s0 objs k with heap := (mkS s0 objs k).heap.update a f } = mkS s0 (objs.set a (f o)) k := by
  have : (objs.toArray.modify a f) = (objs.set a (f o)).toArray := by
    apply Array.ext_getElem?
    intro i
    rw [Array.getElem?_modify, List.getElem?_toArray, List.getElem?_toArray, List.getElem?_set]
    by_cases e : a = i
    · subst e
      have := List.getElem?_eq_some_iff.mp h
      obtain ⟨hl, e2⟩ := this
      simp [hl, e2]
    · simp [e]
  show (⟨⟨objs.toArray.modify a f, s0.heap.life⟩, s0.gens, s0.drawn, s0.toks + k, s0.os⟩ : Shared) = _
  rw [this]; rfl
theorem mkS_push {s0 : Shared} {objs : List Obj} {k : Nat} {o : Obj} : { mkS s0 objs k with heap := (mkS s0 objs k).heap.push o } = mkS s0 (objs ++ [o]) k := by
  show (⟨⟨objs.toArray.push o, s0.heap.life⟩, s0.gens, s0.drawn, s0.toks + k, s0.os⟩ : Shared) = _
  rw [List.push_toArray]; rfl
theorem mkS_tok {s0 : Shared} {objs : List Obj} {k n : Nat} : { mkS s0 objs k with toks := (mkS s0 objs k).toks + n } = mkS s0 objs (k + n) := by
  show (⟨⟨objs.toArray, s0.heap.life⟩, s0.gens, s0.drawn, s0.toks + k + n, s0.os⟩ : Shared) = _
  rw [Nat.add_assoc]; rfl

section
variable {prog : Program} {w : World} {A : Around} {E : Value → Shared → Prop} {s0 : Shared} {objs : List Obj} {n : Nat}

theorem push_ok {a : Addr} {key v : Value} {part : Option Value} {h : Int} {L : List (Int × Str)} {o : Obj} {x : Int × Str} {Q : Unit → Shared → Prop} (ho : objs[a]? = some o) (hD : DObj o L)
    (hx : ER ⟨h, key, v⟩ x) (hsz : L.length ≤ sizeLine) (hQ : ∀ o', DObj o' (L ++ [x]) → Q () (mkS s0 (objs.set a o') n)) :
    wpAny (model prog w) A (updateDictKeys a (·.push ⟨h, key, v⟩) part) Q E (mkS s0 objs n) := by
  obtain ⟨es, ep, rfl, hE⟩ := hD
  have hl : es.size ≤ sizeLine := by have := hE.length; rw [Array.length_toList] at this; (first | lia | omega)
  refine wpAny_updateDictKeys (mkS_get ho rfl) rfl ?_ hl (by simp)
  rw [mkS_update ho]
  exact hQ _ ⟨es.push ⟨h, key, v⟩, ep + 1, rfl, by rw [Array.toList_push]; exact hE.append (.cons hx .nil)⟩

theorem dset_ok {a : Addr} {k : Int} {t u : Tok} {v : Str} {L : List (Int × Str)} {o : Obj} {Q : Unit → Shared → Prop} (ho : objs[a]? = some o) (hD : DObj o L)
    (hk : ∀ x ∈ L, x.1 ≠ k) (hsz : L.length ≤ sizeLine) (hQ : ∀ o', DObj o' (L ++ [(k, v)]) → Q () (mkS s0 (objs.set a o') (n + 1))) :
    wpAny (model prog w) A (dictSet a (.int k t) (.str v u)) Q E (mkS s0 objs n) := by
  unfold dictSet
  refine wpAny_holding ?_
  refine wpAny_bind (wpAny_pyHash_int ?_)
  rw [mkS_tok]
  unfold dictSetHashed
  refine wpAny_holding ?_
  have hD' := hD
  obtain ⟨es, ep, rfl, hE⟩ := hD'
  refine wpAny_bind (wpAny_dictFind_int (mkS_get ho rfl) rfl hE.intKeys ?_)
  rw [hE.absent hk]
  exact wpAny_bind (wpAny_rule (push_ok ho hD ⟨t, u, rfl⟩ hsz hQ))

theorem dput_ok {a : Addr} {k : Int} {t u : Tok} {v : Str} {L : List (Int × Str)} {o : Obj} {Q : Unit → Shared → Prop} (ho : objs[a]? = some o) (hD : DObj o L)
    (hk : ∀ x ∈ L, x.1 ≠ k) (hsz : L.length ≤ sizeLine) (hQ : ∀ o', DObj o' (L ++ [(k, v)]) → Q () (mkS s0 (objs.set a o') n)) :
    wpAny (model prog w) A (dictPut a (hashInt k) (.int k t) (.str v u)) Q E (mkS s0 objs n) := by
  unfold dictPut
  have hD' := hD
  obtain ⟨es, ep, rfl, hE⟩ := hD'
  refine wpAny_bind (wpAny_dictFind_int (mkS_get ho rfl) rfl hE.intKeys ?_)
  rw [hE.absent hk]
  exact push_ok ho hD ⟨t, u, rfl⟩ hsz hQ

/-- the pairs of a display, as trees -/
noncomputable def pk (pos : Pos) (x : Int × Str) : Sem Value × Sem Value := (mkInt x.1, do let v ← mkText x.2; standAt pos; pure v)

theorem pair_ok {pos : Pos} {x : Int × Str} {Q : Value → Shared → Prop} (hQ : ∀ t, Q (.int x.1 t) (mkS s0 objs (n + 1))) : wpAny (model prog w) A (pk pos x).1 Q E (mkS s0 objs n) :=
  fun _ _ _ => by have := hQ (mkS s0 objs n).toks; rw [← mkS_tok] at this; exact this
theorem pairv_ok {pos : Pos} {x : Int × Str} {Q : Value → Shared → Prop} (hQ : ∀ t, Q (.str x.2 t) (mkS s0 objs (n + 1))) : wpAny (model prog w) A (pk pos x).2 Q E (mkS s0 objs n) :=
  fun _ _ _ => by have := hQ (mkS s0 objs n).toks; rw [← mkS_tok] at this; exact this

theorem evalPairs_ok {pos : Pos} : ∀ (xs : List (Int × Str)) {n : Nat} {Q : List (Value × Value) → Shared → Prop},
    (∀ vs : List (Value × Value), vs.length = xs.length → (∀ (i : Nat) (y : Value × Value), vs[i]? = some y → ∃ (x : Int × Str) (t u : Tok), xs[i]? = some x ∧ y = (Value.int x.1 t, Value.str x.2 u)) → Q vs (mkS s0 objs (n + 2 * xs.length))) →
    wpAny (model prog w) A (evalPairs (xs.map (pk pos))) Q E (mkS s0 objs n)
  | [], n, Q, hQ => wpAny_pure (hQ [] rfl (fun i y h => by simp at h))
  | x :: xs, n, Q, hQ => by
    rw [List.map_cons, show pk pos x = ((pk pos x).1, (pk pos x).2) from rfl, evalPairs]
    refine wpAny_bind (pair_ok fun t => wpAny_bind (wpAny_holding (pairv_ok fun u => wpAny_bind (wpAny_holding (evalPairs_ok xs fun vs hl hv => wpAny_pure ?_)))))
    rw [show n + 1 + 1 + 2 * xs.length = n + 2 * (x :: xs).length by simp; (first | lia | omega)]
    refine hQ _ (by simp [hl]) fun i y h => ?_
    cases i with
    | zero => simp at h; subst h; exact ⟨x, t, u, rfl, rfl⟩
    | succ i => simp at h; simpa using hv i y h

theorem set_self {objs : List Obj} {a : Nat} {o : Obj} (h : objs[a]? = some o) : objs.set a o = objs := by
  apply List.ext_getElem?
  intro i
  rw [List.getElem?_set]
  by_cases e : a = i
  · subst e
    obtain ⟨hl, e2⟩ := List.getElem?_eq_some_iff.mp h
    simp [hl, e2]
  · simp [e]
theorem getSet {objs : List Obj} {a : Nat} {o o' : Obj} (h : objs[a]? = some o) : (objs.set a o')[a]? = some o' := by
  obtain ⟨hl, _⟩ := List.getElem?_eq_some_iff.mp h
  simp [hl]

/-- what a sub-dict's filling leaves -/
theorem fillShort {a : Addr} : ∀ (vs : List (Value × Value)) (xs L : List (Int × Str)) {objs : List Obj} {n : Nat} {o : Obj} {Q : PUnit → Shared → Prop} (ho : objs[a]? = some o) (hD : DObj o L),
    vs.length = xs.length → (∀ (i : Nat) (y : Value × Value), vs[i]? = some y → ∃ (x : Int × Str) (t u : Tok), xs[i]? = some x ∧ y = (Value.int x.1 t, Value.str x.2 u)) →
    (L ++ xs).Pairwise (fun x y => x.1 ≠ y.1) → (L ++ xs).length ≤ sizeLine → (∀ o', DObj o' (L ++ xs) → Q ⟨⟩ (mkS s0 (objs.set a o') (n + xs.length))) →
    wpAny (model prog w) A (forIn vs PUnit.unit fun (x : Value × Value) _ => do dictSet a x.1 x.2; pure (ForInStep.yield PUnit.unit)) Q E (mkS s0 objs n)
  | [], xs, L, objs, n, o, Q, ho, hD, hl, hv, hp, hz, hQ => by
    have : xs = [] := List.length_eq_zero_iff.mp hl.symm
    subst this
    rw [List.forIn_nil]
    refine wpAny_pure ?_
    have := hQ o (by simpa using hD)
    rwa [set_self ho] at this
  | y :: vs, [], L, objs, n, o, Q, ho, hD, hl, hv, hp, hz, hQ => by simp at hl
  | y :: vs, x :: xs, L, objs, n, o, Q, ho, hD, hl, hv, hp, hz, hQ => by
    obtain ⟨x', t, u, e, rfl⟩ := hv 0 y rfl
    simp at e; subst e
    rw [List.forIn_cons]
    have hz' : L.length ≤ sizeLine := by simp at hz; (first | lia | omega)
    have hk : ∀ z ∈ L, z.1 ≠ x.1 := fun z hz => (List.pairwise_append.mp hp).2.2 z hz x (.head _)
    refine wpAny_bind (wpAny_bind (dset_ok ho hD hk hz' fun o' hD' => wpAny_pure ?_))
    refine fillShort vs xs (L ++ [x]) (getSet ho) hD' (by simpa using hl) (fun i z h => by simpa using hv (i + 1) z (by simpa using h)) (by simpa using hp) (by simpa using hz) fun o'' hD'' => ?_
    rw [List.set_set]
    have := hQ o'' (by simpa using hD'')
    simpa [Nat.add_assoc, Nat.add_comm 1] using this

theorem fillLong {a : Addr} {pos : Pos} : ∀ (xs L : List (Int × Str)) {objs : List Obj} {n : Nat} {o : Obj} {Q : PUnit → Shared → Prop} (ho : objs[a]? = some o) (hD : DObj o L),
    (L ++ xs).Pairwise (fun x y => x.1 ≠ y.1) → (L ++ xs).length ≤ sizeLine → (∀ o', DObj o' (L ++ xs) → Q ⟨⟩ (mkS s0 (objs.set a o') (n + 3 * xs.length))) →
    wpAny (model prog w) A (forIn (xs.map (pk pos)) PUnit.unit fun (x : Sem Value × Sem Value) _ => do
      let kv ← x.1
      let vv ← holding [kv] x.2
      holding [kv, vv] (dictSet a kv vv)
      pure (ForInStep.yield PUnit.unit)) Q E (mkS s0 objs n)
  | [], L, objs, n, o, Q, ho, hD, hp, hz, hQ => by
    rw [List.map_nil, List.forIn_nil]
    refine wpAny_pure ?_
    have := hQ o (by simpa using hD)
    rwa [set_self ho] at this
  | x :: xs, L, objs, n, o, Q, ho, hD, hp, hz, hQ => by
    rw [List.map_cons, List.forIn_cons]
    have hz' : L.length ≤ sizeLine := by simp at hz; (first | lia | omega)
    have hk : ∀ z ∈ L, z.1 ≠ x.1 := fun z hz => (List.pairwise_append.mp hp).2.2 z hz x (.head _)
    refine wpAny_bind (wpAny_bind (pair_ok fun t => wpAny_bind (wpAny_holding (pairv_ok fun u => wpAny_bind (wpAny_holding (dset_ok ho hD hk hz' fun o' hD' => wpAny_pure ?_))))))
    refine fillLong xs (L ++ [x]) (getSet ho) hD' (by simpa using hp) (by simpa using hz) fun o'' hD'' => ?_
    rw [List.set_set]
    have := hQ o'' (by simpa using hD'')
    rw [show n + 1 + 1 + 1 + 3 * xs.length = n + 3 * (x :: xs).length by simp; (first | lia | omega)]
    exact this

theorem subDict_ok {pos : Pos} {xs : List (Int × Str)} {Q : Addr → Shared → Prop} (hp : xs.Pairwise fun x y => x.1 ≠ y.1) (hz : xs.length ≤ sizeLine)
    (hQ : ∀ o', DObj o' xs → Q objs.length (mkS s0 (objs ++ [o']) (n + 3 * xs.length))) :
    wpAny (model prog w) A (subDict (xs.map (pk pos))) Q E (mkS s0 objs n) := by
  unfold subDict
  refine wpAny_bind (wpAny_alloc ?_)
  rw [mkS_push, show (mkS s0 objs n).heap.objs.size = objs.length from List.size_toArray]
  have hget : (objs ++ [({ cls := .type "dict", data := .dict #[] } : Obj)])[objs.length]? = some { cls := .type "dict", data := .dict #[] } := by simp
  have hset : ∀ o', (objs ++ [({ cls := .type "dict", data := .dict #[] } : Obj)]).set objs.length o' = objs ++ [o'] := fun o' => by simp
  refine wpAny_bind (wpAny_holding ?_)
  by_cases h : (xs.map (pk pos)).length ≤ 15
  · rw [if_pos h]
    refine wpAny_bind (evalPairs_ok xs fun vs hl hv => wpAny_holding ?_)
    refine wpAny_bind (fillShort vs xs [] hget DObj.new hl hv (by simpa using hp) (by simpa using hz) fun o' hD' => wpAny_pure (wpAny_pure ?_))
    rw [hset]
    have := hQ o' (by simpa using hD')
    rw [show n + 2 * xs.length + xs.length = n + 3 * xs.length by (first | lia | omega)]
    exact this
  · rw [if_neg h]
    refine wpAny_bind (wpAny_rule (wpAny_bind (fillLong xs [] hget DObj.new (by simpa using hp) (by simpa using hz) fun o' hD' => wpAny_pure (wpAny_pure ?_))))
    rw [hset]
    exact hQ o' (by simpa using hD')

theorem range_cons {i j m : Nat} {rest : List Nat} (h : i :: rest = List.range' j (m - j)) : j < m ∧ i = j ∧ rest = List.range' (i + 1) (m - (i + 1)) := by
  rcases Nat.lt_or_ge j m with hlt | hge
  · rw [show m - j = (m - (j + 1)) + 1 by (first | lia | omega), List.range'_succ] at h
    injection h with h1 h2
    exact ⟨hlt, h1, by rw [h2, h1]⟩
  · rw [show m - j = 0 by (first | lia | omega)] at h; cases h
theorem range_nil {j m : Nat} (h : [] = List.range' j (m - j)) : m ≤ j := by
  have := congrArg List.length h
  rw [List.length_range'] at this
  exact Nat.le_of_sub_eq_zero this.symm
inductive MergeI (s0 : Shared) (objs : List Obj) (n : Nat) (d : Addr) (L xs : List (Int × Str)) (rest : List Nat) : Shared → Prop
  | mk (i : Nat) (o' : Obj) (hr : rest = List.range' i (xs.length - i)) (hi : i ≤ xs.length) (hD : DObj o' (L ++ xs.take i)) : MergeI s0 objs n d L xs rest (mkS s0 (objs.set d o') n)
theorem isEmpty_no {α : Type} {l : Array α} (h : l.size ≠ 0) : l.isEmpty = false := by simpa using h
theorem new_key {L xs : List (Int × Str)} (hp : (L ++ xs).Pairwise fun x y => x.1 ≠ y.1) {i : Nat} {x : Int × Str} (hx : xs[i]? = some x) : ∀ z ∈ L ++ xs.take i, z.1 ≠ x.1 := fun z hz => by
  obtain ⟨hlt, e⟩ := List.getElem?_eq_some_iff.mp hx
  have e : xs = xs.take i ++ x :: xs.drop (i + 1) := by rw [← e, ← List.drop_eq_getElem_cons hlt, List.take_append_drop]
  rw [e, ← List.append_assoc, List.pairwise_append] at hp
  exact hp.2.2 z hz x (.head _)
theorem merge_ok {d a : Addr} {o o2 : Obj} {L xs : List (Int × Str)} {Q : Unit → Shared → Prop} (hd : objs[d]? = some o) (hD : DObj o L) (ha : objs[a]? = some o2) (hA : DObj o2 xs)
    (hne : d ≠ a) (hL : L ≠ []) (ha1 : (a == sysModules) = false) (hp : (L ++ xs).Pairwise fun x y => x.1 ≠ y.1) (hz : (L ++ xs).length ≤ sizeLine)
    (hQ : ∀ o', DObj o' (L ++ xs) → Q () (mkS s0 (objs.set d o') n)) : wpAny (model prog w) A (mergeMapping d (.ref a) false) Q E (mkS s0 objs n) := by
  have hA' := hA
  have hD' := hD
  obtain ⟨es, ep, rfl, hE⟩ := hD'
  obtain ⟨es2, ep2, rfl, hE2⟩ := hA'
  have hT : (mkS s0 objs n).TypeIs (.ref a) "dict" := ⟨_, mkS_get ha rfl, rfl⟩
  have hne0 : es.isEmpty = false := isEmpty_no fun e => hL (List.length_eq_zero_iff.mp (by rw [← hE.length, Array.length_toList]; exact e))
  unfold mergeMapping
  refine wpAny_bind (wpAny_isInstance hT isSubtype_dict_dict ?_)
  rw [if_pos rfl]
  refine wpAny_bind (wpAny_specialOf hT F.slot_dict_iter.lookup ?_)
  simp only [beq_self_eq_true]
  refine wpAny_bind (wpAny_pure ?_)
  dsimp only
  rw [if_neg (by rw [ha1]; exact Bool.false_ne_true)]
  refine wpAny_bind (wpAny_dictEntries (mkS_get hd rfl) rfl ?_)
  rw [if_neg (by rw [hne0]; exact Bool.false_ne_true)]
  refine wpAny_bind (wpAny_dictEntries (mkS_get ha rfl) rfl ?_)
  refine wpAny_bind (wpAny_dictEpoch (mkS_get ha rfl) rfl ?_)
  have hsz : es2.size = xs.length := by have := hE2.length; rwa [Array.length_toList] at this
  refine wpAny_bind (wpAny_forIn_list _ (fun rest _ s => MergeI s0 objs n d L xs rest s) _ ?_ ?_ _ _ ?_)
  · rintro i rest u s ⟨j, o', hr, hj, hDo⟩
    obtain ⟨hlt, rfl, rfl⟩ := range_cons hr
    have ha' : (objs.set d o')[a]? = some ⟨.type "dict", none, .dict es2 ep2, #[]⟩ := by rw [List.getElem?_set_ne hne]; exact ha
    refine wpAny_bind (wpAny_dictEntries (mkS_get ha' rfl) rfl ?_)
    have hi : i < es2.toList.length := by rw [Array.length_toList, hsz]; exact hlt
    obtain ⟨x, hx, t, u', he⟩ := hE2.get (List.getElem?_eq_getElem hi)
    have he' : es2[i]? = some ⟨hashInt x.1, .int x.1 t, .str x.2 u'⟩ := by
      rw [← Array.getElem?_toList, List.getElem?_eq_getElem hi, he]
    rw [he']
    have hlen : (L ++ xs.take i).length ≤ sizeLine := by
      have : (L ++ xs.take i).length ≤ (L ++ xs).length := by simp; (first | lia | omega)
      (first | lia | omega)
    dsimp only
    refine wpAny_bind (wpAny_holding ?_)
    rw [if_neg Bool.false_ne_true]
    refine dput_ok (getSet hd) hDo (new_key hp hx) hlen fun o'' hD'' => ?_
    rw [List.set_set]
    refine wpAny_bind (wpAny_dictEpoch (mkS_get (by rw [List.getElem?_set_ne hne]; exact ha) rfl) rfl ?_)
    rw [if_neg (by simp)]
    refine wpAny_pure (.mk (i + 1) o'' rfl hlt ?_)
    rw [List.take_add_one, hx, ← List.append_assoc]
    exact hD''
  · rintro u s ⟨j, o', hr, hj, hDo⟩
    rw [List.take_of_length_le (range_nil hr)] at hDo
    exact wpAny_pure (hQ o' hDo)
  · have := MergeI.mk (s0 := s0) (objs := objs) (n := n) (d := d) (L := L) (xs := xs) (rest := List.range es2.size) 0 _ (by rw [hsz, List.range_eq_range', Nat.sub_zero]) (Nat.zero_le _) (by rw [List.take_zero, List.append_nil]; exact hD)
    rwa [set_self hd] at this

inductive DispS (s0 : Shared) (objs : List Obj) (n : Nat) : Option Addr → List (Int × Str) → Shared → Prop
  | no : DispS s0 objs n none [] (mkS s0 objs n)
  | yes (dn : List (Int × Str)) (ds : List Obj) (o : Obj) (hd : ds.length = (dn.length + 16) / 17) (h0 : ds[0]? = some o) (hD : DObj o dn) : DispS s0 objs n (some objs.length) dn (mkS s0 (objs ++ ds) (n + 3 * dn.length))
inductive DispI (s0 : Shared) (objs : List Obj) (n : Nat) (pos : Pos) (whole : List (Int × Str)) (rest : List (Option (Sem Value) × Sem Value)) : Option Addr × List (Sem Value × Sem Value) → Shared → Prop
  | mk (dn run left : List (Int × Str)) (m : Option Addr) (s : Shared) (hr : rest = left.map fun x => (some (pk pos x).1, (pk pos x).2)) (hw : dn ++ run ++ left = whole) (hl : run.length < 17) (h0 : dn.length % 17 = 0) (hs : DispS s0 objs n m dn s) :
      DispI s0 objs n pos whole rest (m, run.map (pk pos)) s
theorem main_pos {ds : List Obj} {o : Obj} (h : ds[0]? = some o) : 0 < ds.length := (List.getElem?_eq_some_iff.mp h).1
theorem main_get {ds : List Obj} {o o' : Obj} (h : ds[0]? = some o) : (objs ++ ds ++ [o'])[objs.length]? = some o := by
  rw [List.append_assoc, List.getElem?_append_right (Nat.le_refl _), Nat.sub_self, List.getElem?_append_left (main_pos h)]; exact h
theorem main_set {ds : List Obj} {o o' o'' : Obj} (h : ds[0]? = some o) : (objs ++ ds ++ [o']).set objs.length o'' = objs ++ (ds.set 0 o'' ++ [o']) := by
  rw [List.append_assoc, List.set_append_right _ _ (Nat.le_refl _), Nat.sub_self, List.set_append_left _ _ (main_pos h)]
theorem main_new {ds : List Obj} {o o' o'' : Obj} (h : ds[0]? = some o) : (ds.set 0 o'' ++ [o'])[0]? = some o'' := by
  rw [List.getElem?_append_left (by rw [List.length_set]; exact main_pos h), List.getElem?_set_self (main_pos h)]
theorem pw_left {xs ys : List (Int × Str)} (h : (xs ++ ys).Pairwise fun x y => x.1 ≠ y.1) : xs.Pairwise fun x y => x.1 ≠ y.1 := (List.pairwise_append.mp h).1
theorem pw_right {xs ys : List (Int × Str)} (h : (xs ++ ys).Pairwise fun x y => x.1 ≠ y.1) : ys.Pairwise fun x y => x.1 ≠ y.1 := (List.pairwise_append.mp h).2.1
theorem disp_count {a b k : Nat} (h : k = (a + 16) / 17) (h0 : a % 17 = 0) (hb : 0 < b) (hb' : b ≤ 17) : k + 1 = (a + b + 16) / 17 := by (first | lia | omega)

noncomputable def flushM (run : List (Sem Value × Sem Value)) (main : Option Addr) : Sem (Option Addr) := do
  if run.isEmpty then return main
  match main with
  | none => return some (← subDict run)
  | some d =>
    let sub ← holding [.ref d] (subDict run)
    (holding [.ref d, .ref sub] (mergeMapping d (.ref sub) false)).onRaise fun x => do let _ ← holding [.ref d, x] (runValue (.builtin "proto.let_go" {}))
    return some d
theorem flush_ok {pos : Pos} {m : Option Addr} {dn : List (Int × Str)} {s : Shared} (hs : DispS s0 objs n m dn s) : ∀ {run : List (Int × Str)} {Q : Option Addr → Shared → Prop} (_ : (dn ++ run).Pairwise fun x y => x.1 ≠ y.1) (_ : (dn ++ run).length ≤ sizeLine) (_ : 2 ≤ objs.length) (_ : run.length ≤ 17) (_ : dn.length % 17 = 0)
    (_ : ∀ m' s', DispS s0 objs n m' (dn ++ run) s' → Q m' s'), wpAny (model prog w) A (flushM (run.map (pk pos)) m) Q E s
  | [], Q, hp, hz, hb, hl, h0, hQ => wpAny_pure (hQ _ _ (by rw [List.append_nil]; exact hs))
  | y :: run, Q, hp, hz, hb, hl, hm0, hQ => by
    have hzr : (y :: run).length ≤ sizeLine := Nat.le_trans (by rw [List.length_append]; exact Nat.le_add_left _ _) hz
    cases hs with
    | no =>
      refine wpAny_bind (subDict_ok hp hzr fun o' hD' => wpAny_pure ?_)
      exact hQ _ _ (.yes _ [o'] o' ((disp_count (a := 0) (k := 0) rfl rfl (Nat.succ_pos _) hl).trans (by rw [Nat.zero_add]; rfl)) rfl hD')
    | yes _ ds o hd h0 hDo =>
      have hpos := main_pos h0
      have hdn : dn ≠ [] := fun e => by rw [e, List.length_nil] at hd; (first | lia | omega)
      have hl2 : (objs ++ ds).length = objs.length + ds.length := List.length_append
      refine wpAny_bind (wpAny_holding (subDict_ok (pw_right hp) hzr fun o' hD' => ?_))
      refine wpAny_bind (wpAny_onRaise (wpAny_holding ?_))
      refine merge_ok (d := objs.length) (a := (objs ++ ds).length) (main_get h0) hDo List.getElem?_concat_length hD' (by show (objs.length : Nat) ≠ (objs ++ ds).length; (first | lia | omega)) hdn (beq_eq_false_iff_ne.mpr (by show (objs ++ ds).length ≠ 1; (first | lia | omega))) hp hz fun o'' hD'' => wpAny_pure ?_
      rw [main_set h0, show n + 3 * dn.length + 3 * (y :: run).length = n + 3 * (dn ++ y :: run).length by rw [List.length_append]; (first | lia | omega)]
      exact hQ _ _ (.yes _ _ _ (by rw [List.length_append, List.length_set, List.length_append]; exact disp_count hd hm0 (Nat.succ_pos _) hl) (main_new h0) hD'')

theorem display_ok {pos : Pos} {whole : List (Int × Str)} {Q : Value → Shared → Prop} (hp : whole.Pairwise fun x y => x.1 ≠ y.1) (hz : whole.length ≤ 16777216) (h17 : 17 ≤ whole.length) (hb : 2 ≤ objs.length)
    (hQ : ∀ ds o, ds.length = (whole.length + 16) / 17 → ds[0]? = some o → DObj o whole → Q (.ref objs.length) (mkS s0 (objs ++ ds) (n + 3 * whole.length))) :
    wpAny (model prog w) A (dictDisplay (whole.map fun x => (some (pk pos x).1, (pk pos x).2))) Q E (mkS s0 objs n) := by
  have hz : whole.length ≤ sizeLine := by rw [sizeLine_eq]; (first | lia | omega)
  unfold dictDisplay
  refine wpAny_bind (wpAny_forIn_list _ (fun (rest : List (Option (Sem Value) × Sem Value)) (b : Option Addr × List (Sem Value × Sem Value)) s => DispI s0 objs n pos whole rest b s) _ ?_ ?_ _ _
    (.mk [] [] whole _ _ rfl rfl (by decide) rfl .no))
  · rintro x rest ⟨mainD, runT⟩ s ⟨dn, run, left, _, _, hr, hw, hl, h0, hs⟩
    cases left with
    | nil => cases hr
    | cons y left =>
      injection hr with e1 e2
      subst e1 e2
      have hmap : run.map (pk pos) ++ [((pk pos y).1, (pk pos y).2)] = (run ++ [y]).map (pk pos) := (List.map_append (l₂ := [y])).symm
      have hlen : (run ++ [y]).length = run.length + 1 := List.length_append
      have hw' : dn ++ (run ++ [y]) ++ left = whole := by rw [← hw, List.append_assoc, List.append_assoc, List.append_assoc]; rfl
      dsimp only
      rw [hmap, List.length_map, hlen]
      by_cases h : run.length + 1 = 17
      · rw [if_pos (beq_iff_eq.mpr h)]
        refine wpAny_bind (flush_ok hs (pw_left (ys := left) (hw' ▸ hp)) (Nat.le_trans (by rw [← hw', List.length_append (as := dn ++ _)]; exact Nat.le_add_right _ _) hz) hb (Nat.le_of_eq (hlen.trans h)) h0 fun m' s' D => wpAny_pure ?_)
        exact .mk _ [] left _ _ rfl (by rw [List.append_nil]; exact hw') (by decide) (by rw [List.length_append, hlen, h, Nat.add_mod_right]; exact h0) D
      · rw [if_neg fun e => h (beq_iff_eq.mp e)]
        exact wpAny_pure (.mk dn (run ++ [y]) left _ _ rfl hw' (by (first | lia | omega)) h0 hs)
  · rintro ⟨mainD, runT⟩ s ⟨dn, run, left, _, _, hr, hw, hl, h0, hs⟩
    cases left with
    | cons => cases hr
    | nil =>
      rw [List.append_nil] at hw
      refine wpAny_bind (flush_ok hs (hw ▸ hp) (hw ▸ hz) hb (Nat.le_of_lt hl) h0 fun m' s' D => ?_)
      rw [hw] at D
      cases D with
      | no => exact absurd h17 (by decide)
      | yes _ ds o hd h0 hD => exact wpAny_pure (hQ ds o hd h0 hD)
end
end Mine
end

section
open PySem PySem.W PyProof.Rows
set_option Elab.async false
set_option linter.unusedVariables false
namespace Mine
open Sem (wp)

section
variable {M : Model} {Γ : Ctx} {env : Env}
theorem wp_execs_app (l rest : List Stmt) (Q : Flow → Pos → Shared → Prop) (E : Value → Pos → Shared → Prop) (p : Pos) (s : Shared) :
    wp M Γ (execs (l ++ rest) env) Q E p s = wp M Γ (execs l env) (fun f p s => match f with | .next => wp M Γ (execs rest env) Q E p s | f => Q f p s) E p s := by
  induction l generalizing p s with
  | nil => rfl
  | cons st l ih =>
    rw [List.cons_append, execs_cons, execs_cons, Sem.wp_bind', Sem.wp_bind']
    congr 1
    funext f p' s'
    cases f with
    | next => exact ih p' s'
    | _ => rfl
theorem wp_app {l rest : List Stmt} {Q : Flow → Pos → Shared → Prop} {E : Value → Pos → Shared → Prop} {p : Pos} {s : Shared}
    (h : wp M Γ (execs l env) (fun f p s => match f with | .next => wp M Γ (execs rest env) Q E p s | f => Q f p s) E p s) : wp M Γ (execs (l ++ rest) env) Q E p s := by
  rw [wp_execs_app]; exact h
end

theorem finish_done {o : Outcome} {s s' : Shared} {f : Flow} (h : finish o s = .halt (.done f) s') : o = .done f := by
  unfold finish at h
  split at h
  · cases h
  · cases h; rfl
/-- a step that ends it all stands at its end -/
theorem step_done {den : Code → Sem Fin} {p : Program} {w : World} {f : Flow} {s s' : Shared} {t : Thread} (hs : step den p w s t = .halt (.done f) s') : through t = true := by
  obtain ⟨heap, gens, drawn, toks, os⟩ := s
  obtain ⟨cur, code, pos, stack⟩ := t
  cases cur
  case pure fin =>
    cases fin with
    | again c => exact nomatch hs
    | done f' =>
      cases stack with
      | nil => rfl
      | cons F r => cases F <;> exact nomatch hs
  case raise e =>
    cases stack with
    | nil => exact nomatch finish_done (show finish (.uncaught e) _ = _ from hs)
    | cons F r => cases F <;> exact nomatch hs
  case finish e => revert hs; unfold step; dsimp only; split <;> exact fun h => nomatch h
  case load a part k => revert hs; unfold step; dsimp only; split <;> exact fun h => nomatch h
  case update a part g k => revert hs; unfold step; dsimp only; split <;> exact fun h => nomatch h
  case choose src n k => revert hs; unfold step; dsimp only; split <;> exact fun h => nomatch h
  case genState g k => revert hs; unfold step; dsimp only; split <;> exact fun h => nomatch h
  case resume g r l k =>
    revert hs; unfold step; dsimp only
    split
    · exact fun h => nomatch h
    · split <;> exact fun h => nomatch h
    · exact fun h => nomatch h
    · exact fun h => nomatch h
    · exact fun h => nomatch h
  case yield v g0 l kk => revert hs; unfold step; dsimp only; split <;> exact fun h => nomatch h
  all_goals exact nomatch hs
theorem runN_through {den : Code → Sem Fin} {p : Program} {w : World} {f : Flow} : ∀ {n : Nat} {s s' : Shared} {t : Thread}, runN den p w n s t = .halted (.done f) s' →
    ∃ m t', runN den p w m s t = .running s' t' ∧ through t' = true
  | 0, _, _, _, h => by cases h
  | n + 1, s, s', t, h => by
    unfold runN at h
    cases hs : step den p w s t with
    | go s₁ t₁ =>
      rw [hs] at h
      obtain ⟨m, t', a, b⟩ := runN_through h
      exact ⟨m + 1, t', by unfold runN; rw [hs]; exact a, b⟩
    | halt o s₁ =>
      rw [hs] at h
      simp only [Run.halted.injEq] at h
      obtain ⟨rfl, rfl⟩ := h
      have e := step_halt_same den p w s s₁ t _ hs
      subst e
      exact ⟨0, t, rfl, step_done hs⟩
end Mine
end

section
open PySem PySem.W PyProof.Rows PySem.Calls
set_option Elab.async false
set_option linter.unusedVariables false
namespace Mine
open Sem (wp)

/-- what stands behind the top -/
noncomputable def Behind (p q : Program) (loose : List Str) (YP : World → Heap → Prop) (w : World) : Prop :=
  (∃ s, AfterRun (opening p) w s) ∧ ∀ s, AfterRun (opening p) w s → ∃ s₀, fenceModules? p s = some s₀ ∧ s₀.gens = #[] ∧ ∃ s₁, TopRan p w s₀ s₁ ∧ s₁.asleep ∧ s₁.gens = #[] ∧ s₁.heap.isNs mainGlobals = true ∧
    Ground q loose [] (fun _ _ => True) w s₁ (s₁.heap.nsMap mainGlobals) (s₁.heap.nsMap builtinsNs) s₁.heap ∧ YP w s₁.heap

theorem holds_mine {r : OpenRow} {q : Program} {loose : List Str} {YP : World → Heap → Prop} {d : DefRec} {kwd : List (Str × Expr)} (beh : ∀ w, Behind r.prog q loose YP w) (hR : r.records = [])
    (hYk : ∀ w h h', YP w h → (∀ b o, h.get? b = some o → h'.get? b = some o) → YP w h')
    (hdef : defOf q r.name = some (d, kwd)) (hp : r.prog.theDef r.name = some (d.params, d.body, d.scope)) (hk : kwWritten? d.params.kwonlyargs d.params.kw_defaults = some kwd) (hwr : r.writes = false)
    (k1 : r.wellSaid = true) (ok : (chainsOk q && opensWell r.prog && (frees r.toRowW && r.within.isEmpty)) = true) (hb : r.prog.bare) (hw : r.toRowW.promised)
    (call : ∀ (w : World) (s₀ s₁ : Shared) (mg mb : Str → Option Value), Ground q loose [] (fun _ _ => True) w s₀ mg mb s₁.heap → YP w s₁.heap → ∀ (args : List WData) (vs : List Value) (as : List Addr),
      r.toRowW.claim.pre args = true → WData.layableAll args = true → s₁.gens = #[] → ReadsAllW [] (classAt s₀.heap) s₁.heap vs args as → ∃ f, mg r.name = some f ∧
        wpAny (model r.prog w) callerA (PySem.call f vs) (fun v s' => GoodW r.toRowW.claim (classAt s₀.heap) (ExcName.means s₀.heap) args s₁ (.ok (.ret v)) s') (fun _ _ => False) s₁) : r.Holds := by
  obtain ⟨ok, k5⟩ := Bool.and_eq_true_iff.mp ok
  obtain ⟨hch, o1⟩ := Bool.and_eq_true_iff.mp ok
  obtain ⟨k5, k6⟩ := Bool.and_eq_true_iff.mp k5
  obtain ⟨hsame, hu, ha, hap, hm⟩ := frees_parts k5
  have hRc : r.toRowW.claim.records = [] := hR
  refine ⟨k1, hw, ⟨hb, o1, by show r.makers.map _ = []; rw [hm]; rfl⟩, hw.witness, fun w => ⟨(beh w).1, fun s' hs' => ?_⟩⟩
  obtain ⟨s₀, hf, hg0, s, hT, hz, hgens, hg, G, y⟩ := (beh w).2 s' hs'
  refine ⟨s₀, hf, hg0, s, hT, fun n hn => ?_, by rw [hRc]; exact fun x hx => (nomatch hx), by rw [hRc]; exact fun x hx => (nomatch hx), ?_⟩
  · obtain rfl : n = r.name := by split at hn <;> simp_all
    exact pinned_of_view hg G hdef hp hk
  refine ClaimW.callFrom_of_specN (c := r.toRowW.claim) (tree := fun vs => do match ← nsGet mainNs r.name with
      | some f => do ret (← PySem.call f vs)
      | none => unsupported "claim.caller:no-such-global") hz (by rw [hgens]; simp [leftWithCleanup]) fun args hpre hlay ord hord => ?_
  have hpre' := hpre
  obtain ⟨⟨vs, s₁⟩, hlaid⟩ := Option.isSome_iff_exists.mp (layAllW_isSome (P := w.params) (ord := ord) (R := r.toRowW.claim.records) (by rw [hRc]; exact G.has) args r.args s (pre_splitW hpre).1)
  have keeps := layAllW_keeps _ _ _ hlaid
  have hal := layAllW_rest _ _ _ hlaid
  obtain ⟨as, hrd, hin, hold⟩ := reads_layAllW hord _ _ _ hlaid hlay s₁.heap (fun _ _ e => e)
  have G₁ := G.keeps (fun _ _ _ _ _ => trivial) keeps
  have hwi : r.within = [] := List.isEmpty_iff.mp k6
  have hi := ident_freeW hu ha hap
  obtain ⟨f, hfn, h⟩ := call w s { s₁ with gens := #[] } _ _ G₁ (hYk _ _ _ y keeps) args vs as hpre hlay rfl (by rw [← hRc]; exact hrd)
  have hal0 := hal.2.2.1
  refine ⟨vs, s₁, hlaid, ?_⟩
  refine wpAny_bind (wpAny_nsGet G₁.T.g ?_)
  rw [hfn]
  refine wpAny_bind (wpAny_mono h (fun v s' g => ?_) fun _ _ x => x.elim)
  have z := GoodW.endsN (c := r.toRowW.claim) hsame hwi hi hrd hold hal0 g
  exact wpAny_pure ⟨_, rfl, z.1, z.2.1, z.2.2, fun q => by rw [hwr] at q; cases q⟩

noncomputable abbrev Γ₀ : Ctx := ⟨.builtin "claim.caller" {}, none, none, [], none⟩

theorem behind_of {p q : Program} {loose : List Str} {YP : World → Heap → Prop} {N : Nat} {Good : OsState → Shared → Prop} (w : World) {H₀ : Heap} {d₀ : Drawn} {k₀ : Nat} (hch : chainsOk q = true)
    (open_ : (fencedOpening treeTable p w N).map (fun s => (s.heap, s.gens, s.drawn, s.toks)) = some (H₀, Array.mk [], d₀, k₀))
    (hn : H₀.isNs mainGlobals = true)
    (run : ∀ os, wp ⟨denote table, p, w⟩ Γ₀ (topStub p).cur (Sem.finPost ⟨denote table, p, w⟩ Γ₀ fun r s' => r = .ok (.ret .none) ∧ Good os s') (fun _ _ _ => False) default ⟨H₀, Array.mk [], d₀, k₀, os⟩)
    (good : ∀ os s₁, Good os s₁ → s₁.gens = #[] ∧ s₁.os = os ∧ YP w s₁.heap ∧
      (staticsOk (importedModules p.main.body) H₀ s₁.heap && namesBound p s₁.heap && gensDone s₁ && laidKept H₀ s₁.heap) = true ∧
      openSeen q loose (importedModules p.main.body) (fun _ => true) true s₁ = openGood q loose ∧
      (∀ b o, H₀.get? b = some o → ¬ theTopsOwn H₀ b → s₁.heap.get? b = some o)) : Behind p q loose YP w := by
  rw [← table_eq_tree] at open_
  obtain ⟨⟨h, gs, d, k, os⟩, h2, e'⟩ := Option.map_eq_some_iff.mp open_
  obtain ⟨rfl, rfl, rfl, rfl⟩ : h = H₀ ∧ gs = Array.mk [] ∧ d = d₀ ∧ k = k₀ := by simpa using e'
  unfold fencedOpening at h2
  obtain ⟨s, h4, h5⟩ := Option.bind_eq_some_iff.mp h2
  have A := AfterImport.of_importEnds h4
  refine ⟨⟨s, A⟩, fun s' hs' => ?_⟩
  obtain rfl : s' = s := AfterImport.unique hs' A
  have z : (⟨h, Array.mk [], d, k, os⟩ : Shared).asleep := Shared.asleep_of_life (fence_lifeW h5) A.life
  have hwp := run os
  obtain ⟨n, r, s₁, hrun, ⟨rfl, hgood⟩, hg2⟩ := (wp_iff_halts (M := ⟨denote table, p, w⟩) (c := .builtin "claim.caller" {}) (topStub p).cur (fun r s' => (r = .ok (.ret .none) ∧ Good os s') ∧ s'.gens = #[]) default ⟨h, Array.mk [], d, k, os⟩).mp
    (Sem.wp_mono _ _ _ (fun fin q s' h => by
      cases fin with
      | done f =>
        have g1 := (good os s' h.2).1
        exact ⟨⟨h, g1⟩, by rw [g1]; simp [leftWithCleanup]⟩
      | again c => exact ⟨h.1, wpCode_mono (fun r t ht => by
          have g1 := (good os t ht.2).1
          exact ⟨⟨ht, g1⟩, by rw [g1]; simp [leftWithCleanup]⟩) h.2⟩) (fun _ _ _ x => x.elim) _ _ hwp)
  obtain ⟨g1, os1, y, hl, hseen, hold⟩ := good os s₁ hgood
  simp only [Bool.and_eq_true] at hl
  obtain ⟨⟨⟨l1, l2⟩, l3⟩, l4⟩ := hl
  obtain ⟨s₃, hr, hfo, hc⟩ := runNI_real _ _ _ hrun (outcomeOf_ends _)
  obtain rfl := Shared.eq_of_forget_eq hfo g1
  have hne : ∀ k' s₂, runN (denote table) p w k' ⟨h, Array.mk [], d, k, os⟩ (topStub p) ≠ .halted (.unsupported "lifetime:generator-with-cleanup-left-suspended") s₂ := by
    intro k' s₂ hk
    have a := runN_mono _ _ _ n k' _ _ _ _ hr
    have b := runN_mono _ _ _ k' n _ _ _ _ hk
    rw [Nat.add_comm, show (topStub p) = ⟨(topStub p).cur, .builtin "claim.caller" {}, default, []⟩ from rfl] at b
    rw [b] at a
    injection a with a1 _
    cases a1
  obtain ⟨m, t', hm, ht⟩ := runN_through (f := .ret .none) hr
  have hsch : schedN (denote table) p w m (.single ⟨h, Array.mk [], d, k, os⟩ (topStub p)) = .running (.single s₃ t') := by
    exact (schedN_eq_runN (denote table) p w ⟨h, Array.mk [], d, k, os⟩ (topStub p) z ⟨hc, hne⟩ m).trans (congrArg Run.lift hm)
  have hlife : s₃.heap.life = h.life := runN_life_running hm
  obtain ⟨G, g0, hg, g2, g3, g4, g5⟩ := ground_of_open (w := w) (XP := fun _ _ => True) (fun _ _ => trivial) hch hseen
  exact ⟨_, h5, rfl, s₃, ⟨⟨m, t', hsch, ht⟩, hlife, Shared.rest_eq os1, hold, g2, statics_of_ok l1, g3, g4, g5, gens_of_done l3, names_of_bound l2, laid_of_kept l4⟩,
    Shared.asleep_of_life hlife z, g1, hg, G, y⟩
end Mine
end

section
open PySem PySem.W PyProof.Rows PySem.Calls
set_option Elab.async false
set_option linter.unusedVariables false
namespace Mine
open Sem (wp)

noncomputable abbrev topEnv (p : Program) (cd : Value) (fr : Addr) : Env := { scope := p.main.scope, locals := mainNs, globals := mainNs, cells := [], code := cd, frame := some fr }
noncomputable abbrev topPre (p : Program) : Sem (Value × Addr) := moduleCode p.main >>= fun code => newBodyFrame code mainNs mainNs >>= fun frame => pure (code, frame)
noncomputable abbrev wrM (p : Program) (w : World) (Γ : Ctx) {α : Type} (t : Sem α) (q : Pos) (s : SharedT) : Option (Except Value α × Pos × SharedT) :=
  wr (denote tableM) p w (runCode (denote tableM) p w 2000) Γ t q s
theorem wrM_sound {p : Program} {w : World} {Γ : Ctx} {α : Type} {t : Sem α} {q q' : Pos} {s s' : SharedT} {a : α} {Q : α → Pos → Shared → Prop} {E : Value → Pos → Shared → Prop}
    (h : wrM p w Γ t q s = some (.ok a, q', s')) (hq : Q a q' s'.abs) : wp ⟨denote table, p, w⟩ Γ t Q E q s.abs := by
  rw [table_eq_M]
  exact wr_sound (runCode_sound 2000) t q s _ _ _ Q E h hq

theorem topWp {p : Program} {w : World} {Sb S0 : SharedT} {cd : Value} {fr : Addr} {q1 : Pos} {Good : Shared → Prop}
    (h1 : wrM p w Γ₀ (topPre p) default Sb = some (.ok (cd, fr), q1, S0))
    (hann : hasAnns (behindTheImports p) = false) (hdoc : docOf (behindTheImports p) = none)
    (h2 : wp ⟨denote table, p, w⟩ (Γ₀.enter (.body (behindTheImports p) (topEnv p cd fr)) none q1) (execs (behindTheImports p) (topEnv p cd fr)) (fun f _ s' => f = .next ∧ Good s') (fun _ _ _ => False) q1 S0.abs) :
    wp ⟨denote table, p, w⟩ Γ₀ (topStub p).cur (Sem.finPost ⟨denote table, p, w⟩ Γ₀ fun rr s' => rr = .ok (.ret .none) ∧ Good s') (fun _ _ _ => False) default Sb.abs := by
  have e : (topStub p).cur = (topPre p >>= fun x => (do
      let _ ← run (.body (behindTheImports p) (topEnv p x.1 x.2))
      ret .none)) := by
    show (moduleCode p.main >>= fun code => newBodyFrame code mainNs mainNs >>= fun frame => (do
      let _ ← run (.body (behindTheImports p) (topEnv p code frame))
      ret .none)) = _
    unfold topPre
    simp only [bind_assoc, pure_bind]
  rw [e, Sem.wp_bind']
  refine wrM_sound h1 ?_
  dsimp only
  rw [Sem.wp_bind', Sem.wp_run]
  rw [wpCode_iff_wp]
  have hb : blockStart (behindTheImports p) (topEnv p cd fr) = pure () := by
    unfold blockStart
    rw [hann, hdoc]
    cases interactive (topEnv p cd fr) <;> rfl
  show wp _ _ (do blockStart (behindTheImports p) (topEnv p cd fr); return Fin.done (← (execs (behindTheImports p) (topEnv p cd fr)).onRaise (leaving (topEnv p cd fr)))) _ _ _ _
  rw [hb, pure_bind, Sem.wp_bind', Sem.wp_onRaise]
  refine Sem.wp_mono _ _ _ (fun f q s' h => ?_) (fun _ _ _ x => x.elim) _ _ h2
  obtain ⟨rfl, h⟩ := h
  exact ⟨rfl, h⟩

noncomputable def aroundOf (Γ : Ctx) : Around := { handled := Γ.handled, depth := frameCount Γ.below + Γ.code.weight, frames := none, guards := none, units := Γ.units }
theorem in_around (Γ : Ctx) : Γ.In (aroundOf Γ) := ⟨rfl, Nat.le_refl _, fun l hl => (nomatch hl), fun g hg => (nomatch hg), Nat.le_refl _⟩
theorem wp_of_any {M : Model} {Γ : Ctx} {α : Type} {t : Sem α} {Q : α → Shared → Prop} {E : Value → Shared → Prop} {p : Pos} {s : Shared} (h : wpAny M (aroundOf Γ) t Q E s) :
    wp M Γ t (fun a _ s' => Q a s') (fun e _ s' => E e s') p s := h Γ p (in_around Γ)

noncomputable def dKey : Option Expr → Option Int
  | some (.Constant (.int i) _ _) => some i
  | _ => none
noncomputable def dStr : Expr → Option Str
  | .Constant (.str s) _ _ => some s
  | _ => none
inductive KeyAt (i : Int) : Option Expr → Prop
  | mk (a : Nat) (p : Pos) : KeyAt i (some (.Constant (.int i) a p))
inductive StrAt (s : Str) : Expr → Prop
  | mk (a : Nat) (p : Pos) : StrAt s (.Constant (.str s) a p)
theorem noOpt {α : Type} {x : α} {P : Prop} (h : (none : Option α) = some x) : P := nomatch h
theorem dKey_at {i : Int} {k : Option Expr} (h : dKey k = some i) : KeyAt i k := by
  cases k with
  | none => exact noOpt h
  | some e =>
    cases e with
    | Constant c a p =>
      cases c with
      | int j => obtain rfl := Option.some.inj h; exact .mk a p
      | _ => exact noOpt h
    | _ => exact noOpt h
theorem dStr_at {s : Str} {e : Expr} (h : dStr e = some s) : StrAt s e := by
  cases e with
  | Constant c a p =>
    cases c with
    | str j => obtain rfl := Option.some.inj h; exact .mk a p
    | _ => exact noOpt h
  | _ => exact noOpt h
noncomputable def pairsOf : List (Option Expr) → List Expr → Option (List (Int × Str))
  | [], [] => some []
  | [], _ :: _ => none
  | _ :: _, [] => none
  | k :: ks, v :: vs => (dKey k).bind fun i => (dStr v).bind fun s => (pairsOf ks vs).bind fun l => some ((i, s) :: l)
theorem pairsOf_items {env : Env} {pos : Pos} : ∀ {ks : List (Option Expr)} {vs : List Expr} {L : List (Int × Str)}, pairsOf ks vs = some L →
    (evalEachOpt ks env).zip ((evalEach vs env).map fun v => do let x ← v; standAt pos; pure x) = L.map fun x => (some (pk pos x).1, (pk pos x).2) := by
  intro ks
  induction ks with
  | nil =>
    intro vs L h
    cases vs with
    | nil => cases Option.some.inj h; rfl
    | cons => cases h
  | cons k ks ih =>
    intro vs L h
    cases vs with
    | nil => cases h
    | cons v vs =>
      obtain ⟨i, h1, h⟩ := Option.bind_eq_some_iff.mp (show (dKey k).bind (fun i => (dStr v).bind fun s => (pairsOf ks vs).bind fun l => some ((i, s) :: l)) = some L from h)
      obtain ⟨s, h2, h⟩ := Option.bind_eq_some_iff.mp h
      obtain ⟨l, h3, e⟩ := Option.bind_eq_some_iff.mp h
      obtain ⟨a, p⟩ := dKey_at h1
      obtain ⟨b, q⟩ := dStr_at h2
      cases Option.some.inj e
      rw [arm_evalEachOpt_cons, arm_evalEach_cons, List.map_cons, List.zip_cons_cons, ih h3, List.map_cons]
      rfl

noncomputable def ascB : List (Int × Str) → Bool
  | [] => true
  | [_] => true
  | x :: y :: r => decide (x.1 < y.1) && ascB (y :: r)
theorem ascB_lt : ∀ {l : List (Int × Str)} {x : Int × Str}, ascB (x :: l) = true → ∀ y ∈ l, x.1 < y.1
  | [], _, _, y, hy => nomatch hy
  | z :: l, x, h, y, hy => by
    simp only [ascB, Bool.and_eq_true, decide_eq_true_eq] at h
    cases hy with
    | head => exact h.1
    | tail _ hy => exact Int.lt_trans h.1 (ascB_lt h.2 y hy)
theorem ascB_tail {l : List (Int × Str)} {x : Int × Str} (h : ascB (x :: l) = true) : ascB l = true := by
  cases l with
  | nil => rfl
  | cons y l => simp only [ascB, Bool.and_eq_true] at h; exact h.2
theorem ascB_pair : ∀ {l : List (Int × Str)}, ascB l = true → l.Pairwise fun x y => x.1 ≠ y.1
  | [], _ => .nil
  | x :: l, h => .cons (fun y hy => Int.ne_of_lt (ascB_lt h y hy)) (ascB_pair (ascB_tail h))

theorem b3_step {p : Program} {w : World} {Γ : Ctx} {env : Env} {ks : List (Option Expr)} {vs : List Expr} {pD pN pA : Pos} {x : Str} {L : List (Int × Str)} {objs : List Obj} {s0 : Shared}
    {Q : Flow → Pos → Shared → Prop} {q : Pos} (hL : pairsOf ks vs = some L) (ha : ascB L = true) (h17 : 17 ≤ L.length) (hz : L.length ≤ 16777216) (hb : 2 ≤ objs.length) (hs : s0.heap.objs = objs.toArray)
    (hsw : swapsWith (.Dict ks vs pD) (some (.Name x pN)) pA.line env = pure false)
    (hQ : ∀ ds o q, ds.length = (L.length + 16) / 17 → ds[0]? = some o → DObj o L →
      wp ⟨denote table, p, w⟩ Γ (do standAt pN; bindName env x (.ref objs.length)) (fun _ q s => Q .next q s) (fun _ _ _ => False) q (mkS s0 (objs ++ ds) (3 * L.length))) :
    wp ⟨denote table, p, w⟩ Γ (execs [.Assign [.Name x pN] (.Dict ks vs pD) pA] env) Q (fun _ _ _ => False) q s0 := by
  have e : s0 = mkS s0 objs 0 := by
    obtain ⟨⟨o, l⟩, g, d, t, os⟩ := s0
    dsimp only at hs
    subst hs
    rfl
  rw [execs_cons, exec_Assign_Name env x pN (.Dict ks vs pD) pA hsw]
  simp only [Sem.wp_bind']
  have this : wp ⟨denote table, p, w⟩ Γ (dictDisplay (L.map fun x => (some (pk pD x).1, (pk pD x).2)))
      (fun v _ s' => ∃ ds o, v = .ref objs.length ∧ ds.length = (L.length + 16) / 17 ∧ ds[0]? = some o ∧ DObj o L ∧ s' = mkS s0 (objs ++ ds) (3 * L.length)) (fun _ _ _ => False) pD (mkS s0 objs 0) :=
    wp_of_any (display_ok (prog := p) (w := w) (ascB_pair ha) hz h17 hb fun ds o h1 h2 h3 => ⟨ds, o, rfl, h1, h2, h3, by rw [Nat.zero_add]⟩)
  have hd : eval (.Dict ks vs pD) env = (do standAt pD; dictDisplay (L.map fun x => (some (pk pD x).1, (pk pD x).2))) := by rw [arm_eval_Dict, pairsOf_items hL]
  rw [hd]
  rw [← e] at this
  show wp _ _ (dictDisplay _) _ _ pD s0
  refine Sem.wp_mono _ _ _ (fun v q' s' h => ?_) (fun _ _ _ h => h) _ _ this
  obtain ⟨ds, o, rfl, h1, h2, h3, rfl⟩ := h
  have z := hQ ds o q' h1 h2 h3
  simp only [Sem.wp_bind'] at z ⊢
  exact z

/-- a run, closed to unfolding -/
structure Wp (p : Program) (w : World) (Γ : Ctx) {α : Type} (t : Sem α) (Q : α → Pos → Shared → Prop) (q : Pos) (s : Shared) : Prop where
  out : wp ⟨denote table, p, w⟩ Γ t Q (fun _ _ _ => False) q s
theorem Wp.nil {p : Program} {w : World} {Γ : Ctx} {env : Env} {Q : Flow → Pos → Shared → Prop} {q : Pos} {s : Shared} (h : Q .next q s) : Wp p w Γ (execs [] env) Q q s := ⟨h⟩
theorem Wp.piece {p : Program} {w : World} {Γ : Ctx} {env : Env} {l rest : List Stmt} {Q : Flow → Pos → Shared → Prop} {q q' : Pos} {s s' : SharedT}
    (h : wrM p w Γ (execs l env) q s = some (.ok .next, q', s')) (k : Wp p w Γ (execs rest env) Q q' s'.abs) : Wp p w Γ (execs (l ++ rest) env) Q q s.abs :=
  ⟨wp_app (wrM_sound h k.out)⟩
theorem Wp.b3 {p : Program} {w : World} {Γ : Ctx} {env : Env} {l rest : List Stmt} {ks : List (Option Expr)} {vs : List Expr} {pD pN pA : Pos} {x : Str} {L : List (Int × Str)} {objs : List Obj} {s0 : Shared}
    {Q : Flow → Pos → Shared → Prop} {q : Pos} (hl : l = [.Assign [.Name x pN] (.Dict ks vs pD) pA]) (hL : pairsOf ks vs = some L) (ha : ascB L = true) (h17 : 17 ≤ L.length) (hz : L.length ≤ 16777216) (hb : 2 ≤ objs.length) (hs : s0.heap.objs = objs.toArray)
    (hsw : swapsWith (.Dict ks vs pD) (some (.Name x pN)) pA.line env = pure false)
    (hQ : ∀ ds o, ds.length = (L.length + 16) / 17 → ds[0]? = some o → DObj o L → ∃ (sm s' : SharedT) (q' : Pos), (∀ q, wrM p w Γ (do standAt pN; bindName env x (.ref objs.length)) q sm = some (.ok (), q', s')) ∧
      mkS s0 (objs ++ ds) (3 * L.length) = sm.abs ∧ Wp p w Γ (execs rest env) Q q' s'.abs) : Wp p w Γ (execs (l ++ rest) env) Q q s0 := by
  subst hl
  refine ⟨wp_app (b3_step hL ha h17 hz hb hs hsw fun ds o q h1 h2 h3 => ?_)⟩
  obtain ⟨sm, s', q', h4, h5, h6⟩ := hQ ds o h1 h2 h3
  rw [h5]
  exact wrM_sound (h4 q) h6.out
end Mine
end

section
open PySem PySem.W PyProof.Rows PySem.Calls
set_option Elab.async false
set_option linter.unusedVariables false
set_option maxRecDepth 100000
namespace Mine
open Sem (wp)
noncomputable section
noncomputable abbrev S (s : String) : Str := Str.ofString s
namespace P1
noncomputable abbrev pw : Program := PySem.Challenge.pw_wf0082_01
noncomputable def bdy : List Stmt := behindTheImports pw
noncomputable def stAt (i : Nat) : Stmt := (bdy[i]?).getD (.Pass ⟨0, 0, 0, 0⟩)
noncomputable def fdOf (i : Nat) (g : Addr) (pm cd : Value) (b : Addr) : FuncData := match stAt i with
  | .FunctionDef name args body _ _ _ scope _ _ _ => { name := name, qualname := name, params := args, body := .stmts body, scope := scope, globals := g, closure := [], defaults := .none, kwdefaults := .none, pyModule := pm, code := cd, builtins := b }
  | _ => default
noncomputable abbrev env : Env := topEnv pw (.ref 13) 14
noncomputable abbrev Γ₁ : Ctx := Γ₀.enter (.body (behindTheImports pw) (topEnv pw (.ref 13) 14)) none ⟨0, 0, 0, 0⟩
noncomputable def tree_b (P : Params) : BT := (.node (boot_o_0 P) (.node (boot_o_1 P) (.node (boot_o_3 P) (.node (boot_o_7 P) .nil .nil) .nil) (.node (boot_o_5 P) (.node (boot_o_9 P) .nil .nil) .nil)) (.node (boot_o_2 P) (.node (boot_o_4 P) (.node (boot_o_8 P) .nil .nil) .nil) (.node (boot_o_6 P) (.node (boot_o_10 P) .nil .nil) .nil)))
noncomputable def S_b (P : Params) (os : OsState) : SharedT := ⟨tree_b P, 11, {}, #[], boot_drawn, boot_toks, os⟩
noncomputable def o11_0 (P : Params) : Obj := ⟨(.type "tuple"), none, (.seq #[] 0), #[]⟩
noncomputable def o12_0 (P : Params) : Obj := ⟨.none, none, (.fields #[]), #[]⟩
noncomputable def o13_0 (P : Params) : Obj := ⟨(.type "code"), none, (.fields #[(.str (S "<module>") 182), (.str (S "<module>") 183), (.str (S "/claim/cut.py") 184), (.int 1 0), (.int 0 0), (.int 0 0), (.int 0 0), (.int 0 0), (.ref 11), (.bool false), (.int 181 0), (.ref 12), .none, .none, .none, .none, (.int 185 0), (.int 1 0), (.str (S "/claim/cut.py") 186)]), #[]⟩
noncomputable def o14_0 (P : Params) : Obj := ⟨(.type "frame"), none, .plain, #[(some (.ref 13)), (some (.ref 3)), (some (.ref 3)), none, (some (.str (S "__main__") 164)), none, (some (.ref 0))]⟩
noncomputable def tree_0 (P : Params) : BT := (.node (boot_o_0 P) (.node (boot_o_1 P) (.node (boot_o_3 P) (.node (boot_o_7 P) .nil .nil) (.node (o11_0 P) .nil .nil)) (.node (boot_o_5 P) (.node (boot_o_9 P) .nil .nil) (.node (o13_0 P) .nil .nil))) (.node (boot_o_2 P) (.node (boot_o_4 P) (.node (boot_o_8 P) .nil .nil) (.node (o12_0 P) .nil .nil)) (.node (boot_o_6 P) (.node (boot_o_10 P) .nil .nil) (.node (o14_0 P) .nil .nil))))
noncomputable def S_0 (P : Params) (os : OsState) : SharedT := ⟨tree_0 P, 15, {}, #[], boot_drawn, 187, os⟩
theorem pre (w : World) (os : OsState) : wrM pw w Γ₀ (topPre pw) default (S_b w.params os) = some (.ok ((.ref 13), 14), ⟨0, 0, 0, 0⟩, S_0 w.params os) := by kernel_rfl
noncomputable def e3_1 (P : Params) : List DictEntry := [⟨PyData.keyHash P (S "__name__"), (.str (S "__name__") 165), (.str (S "cpy313.stringprep") 187)⟩, ⟨PyData.keyHash P (S "__doc__"), (.str (S "__doc__") 166), .none⟩, ⟨PyData.keyHash P (S "__package__"), (.str (S "__package__") 167), .none⟩, ⟨PyData.keyHash P (S "__loader__"), (.str (S "__loader__") 168), (.builtin "__main__.__loader__#opaque")⟩, ⟨PyData.keyHash P (S "__spec__"), (.str (S "__spec__") 169), .none⟩, ⟨PyData.keyHash P (S "__annotations__"), (.str (S "__annotations__") 170), (.ref 6)⟩, ⟨PyData.keyHash P (S "__builtins__"), (.str (S "__builtins__") 171), (.ref 4)⟩, ⟨PyData.keyHash P (S "__file__"), (.str (S "__file__") 173), (.str (S "/claim/cut.py") 172)⟩, ⟨PyData.keyHash P (S "__cached__"), (.str (S "__cached__") 174), .none⟩]
noncomputable def o3_1 (P : Params) : Obj := ⟨(.type "dict"), none, (.dict (e3_1 P).toArray 9), #[]⟩
noncomputable def tree_1 (P : Params) : BT := (.node (boot_o_0 P) (.node (boot_o_1 P) (.node (o3_1 P) (.node (boot_o_7 P) .nil .nil) (.node (o11_0 P) .nil .nil)) (.node (boot_o_5 P) (.node (boot_o_9 P) .nil .nil) (.node (o13_0 P) .nil .nil))) (.node (boot_o_2 P) (.node (boot_o_4 P) (.node (boot_o_8 P) .nil .nil) (.node (o12_0 P) .nil .nil)) (.node (boot_o_6 P) (.node (boot_o_10 P) .nil .nil) (.node (o14_0 P) .nil .nil))))
noncomputable def S_1 (P : Params) (os : OsState) : SharedT := ⟨tree_1 P, 15, {}, #[], boot_drawn, 189, os⟩
theorem pc_1 (w : World) (os : OsState) (q : Pos) : wrM pw w Γ₁ (execs ((bdy.drop 0).take 1) env) q (S_0 w.params os) = some (.ok .next, ⟨1, 0, 1, 8⟩, S_1 w.params os) := by kernel_rfl
noncomputable def e3_2 (P : Params) : List DictEntry := e3_1 P ++ [⟨PyData.keyHash P (S "b1_set"), (.str (S "b1_set") 248), (.ref 22)⟩]
noncomputable def o3_2 (P : Params) : Obj := ⟨(.type "dict"), none, (.dict (e3_2 P).toArray 10), #[]⟩
noncomputable def o15_0 (P : Params) : Obj := ⟨(.type "list"), none, (.seq #[(.int 173 189), (.int 847 190), (.int 6150 191), (.int 6155 192), (.int 6156 193), (.int 6157 194), (.int 8203 195), (.int 8204 196), (.int 8205 197), (.int 8288 198), (.int 65279 199)] 0), #[]⟩
noncomputable def o16_0 (P : Params) : Obj := ⟨(.type "range"), none, (.fields #[(.int 65024 200), (.int 65040 201), (.int 1 202)]), #[]⟩
noncomputable def o17_0 (P : Params) : Obj := ⟨(.type "list"), none, (.seq #[(.int 65024 205), (.int 65025 206), (.int 65026 207), (.int 65027 208), (.int 65028 209), (.int 65029 210), (.int 65030 211), (.int 65031 212), (.int 65032 213), (.int 65033 214), (.int 65034 215), (.int 65035 216), (.int 65036 217), (.int 65037 218), (.int 65038 219), (.int 65039 220)] 18), #[]⟩
noncomputable def o18_0 (P : Params) : Obj := ⟨(.type "range_iterator"), none, (.fields #[(.int 65040 0), (.int 0 0), (.int 1 0)]), #[]⟩
noncomputable def o19_0 (P : Params) : Obj := ⟨(.type "tuple"), none, (.seq #[] 0), #[]⟩
noncomputable def o20_0 (P : Params) : Obj := ⟨(.type "StopIteration"), none, (.fields #[(.ref 19), .none, .none, .none, (.bool false), .none]), #[]⟩
noncomputable def o21_0 (P : Params) : Obj := ⟨(.type "list"), none, (.seq #[(.int 173 189), (.int 847 190), (.int 6150 191), (.int 6155 192), (.int 6156 193), (.int 6157 194), (.int 8203 195), (.int 8204 196), (.int 8205 197), (.int 8288 198), (.int 65279 199), (.int 65024 205), (.int 65025 206), (.int 65026 207), (.int 65027 208), (.int 65028 209), (.int 65029 210), (.int 65030 211), (.int 65031 212), (.int 65032 213), (.int 65033 214), (.int 65034 215), (.int 65035 216), (.int 65036 217), (.int 65037 218), (.int 65038 219), (.int 65039 220)] 0), #[]⟩
noncomputable def o22_0 (P : Params) : Obj := ⟨(.type "set"), none, (.set #[(65024, (.int 65024 205)), (65025, (.int 65025 206)), (65026, (.int 65026 207)), (65027, (.int 65027 208)), (65028, (.int 65028 209)), (65029, (.int 65029 210)), (6150, (.int 6150 191)), (65030, (.int 65030 211)), (65031, (.int 65031 212)), (65032, (.int 65032 213)), (65033, (.int 65033 214)), (6155, (.int 6155 192)), (6156, (.int 6156 193)), (6157, (.int 6157 194)), (8203, (.int 8203 195)), (8204, (.int 8204 196)), (8205, (.int 8205 197)), (65034, (.int 65034 215)), (65035, (.int 65035 216)), (65036, (.int 65036 217)), (65037, (.int 65037 218)), (65038, (.int 65038 219)), (65039, (.int 65039 220)), (173, (.int 173 189)), (847, (.int 847 190)), (8288, (.int 8288 198)), (65279, (.int 65279 199))] 29 ⟨127, #[0, 1, 2, 3, 4, 5, 6, 7, 8, 9, 10, 11, 12, 13, 14, 15, 16, 17, 18, 19, 20, 21, 22, 45, 79, 96, 127], #[], 0, !P.followText "set-order", 2, true⟩), #[]⟩
noncomputable def o23_0 (P : Params) : Obj := ⟨(.type "list_iterator"), none, (.fields #[.none, (.int 27 0)]), #[]⟩
noncomputable def o24_0 (P : Params) : Obj := ⟨(.type "tuple"), none, (.seq #[] 0), #[]⟩
noncomputable def o25_0 (P : Params) : Obj := ⟨(.type "StopIteration"), none, (.fields #[(.ref 24), .none, .none, .none, (.bool false), .none]), #[]⟩
noncomputable def tree_2 (P : Params) : BT := (.node (boot_o_0 P) (.node (boot_o_1 P) (.node (o3_2 P) (.node (boot_o_7 P) (.node (o15_0 P) .nil .nil) (.node (o23_0 P) .nil .nil)) (.node (o11_0 P) (.node (o19_0 P) .nil .nil) .nil)) (.node (boot_o_5 P) (.node (boot_o_9 P) (.node (o17_0 P) .nil .nil) (.node (o25_0 P) .nil .nil)) (.node (o13_0 P) (.node (o21_0 P) .nil .nil) .nil))) (.node (boot_o_2 P) (.node (boot_o_4 P) (.node (boot_o_8 P) (.node (o16_0 P) .nil .nil) (.node (o24_0 P) .nil .nil)) (.node (o12_0 P) (.node (o20_0 P) .nil .nil) .nil)) (.node (boot_o_6 P) (.node (boot_o_10 P) (.node (o18_0 P) .nil .nil) .nil) (.node (o14_0 P) (.node (o22_0 P) .nil .nil) .nil))))
noncomputable def S_2 (P : Params) (os : OsState) : SharedT := ⟨tree_2 P, 26, {}, #[], boot_drawn, 249, os⟩
theorem pc_2false (w : World) (os : OsState) (q : Pos) : wrM pw (w.withFollow "special-get-raises" false) Γ₁ (execs ((bdy.drop 1).take 1) env) q (S_1 (w.withFollow "special-get-raises" false).params os) = some (.ok .next, ⟨2, 0, 2, 6⟩, S_2 (w.withFollow "special-get-raises" false).params os) := by kernel_rfl
theorem pc_2true (w : World) (os : OsState) (q : Pos) : wrM pw (w.withFollow "special-get-raises" true) Γ₁ (execs ((bdy.drop 1).take 1) env) q (S_1 (w.withFollow "special-get-raises" true).params os) = some (.ok .next, ⟨2, 0, 2, 6⟩, S_2 (w.withFollow "special-get-raises" true).params os) := by kernel_rfl
theorem pc_2 (w : World) (os : OsState) (q : Pos) : wrM pw w Γ₁ (execs ((bdy.drop 1).take 1) env) q (S_1 w.params os) = some (.ok .next, ⟨2, 0, 2, 6⟩, S_2 w.params os) :=
  byRow2 "special-get-raises" (P := fun w => wrM pw w Γ₁ (execs ((bdy.drop 1).take 1) env) q (S_1 w.params os) = some (.ok .next, ⟨2, 0, 2, 6⟩, S_2 w.params os)) (fun w => pc_2false w os q) (fun w => pc_2true w os q) w
noncomputable def e3_3 (P : Params) : List DictEntry := e3_2 P ++ [⟨PyData.keyHash P (S "in_table_b1"), (.str (S "in_table_b1") 255), (.ref 32)⟩]
noncomputable def o3_3 (P : Params) : Obj := ⟨(.type "dict"), none, (.dict (e3_3 P).toArray 11), #[]⟩
noncomputable def o12_1 (P : Params) : Obj := ⟨.none, none, (.fields #[(.int 3 0), (.int 0 0), (.ref 31)]), #[]⟩
noncomputable def o26_0 (P : Params) : Obj := ⟨(.type "tuple"), none, (.seq #[] 0), #[]⟩
noncomputable def o27_0 (P : Params) : Obj := ⟨.none, none, (.fields #[]), #[]⟩
noncomputable def o28_0 (P : Params) : Obj := ⟨(.type "tuple"), none, (.seq #[(.str (S "code") 252)] 0), #[]⟩
noncomputable def o29_0 (P : Params) : Obj := ⟨(.type "tuple"), none, (.seq #[] 0), #[]⟩
noncomputable def o30_0 (P : Params) : Obj := ⟨.none, none, (.func (fdOf 2 0 .none .none 0)), #[]⟩
noncomputable def o31_0 (P : Params) : Obj := ⟨(.type "code"), none, (.fields #[(.str (S "in_table_b1") 249), (.str (S "in_table_b1") 250), (.str (S "/claim/cut.py") 251), (.int 3 0), (.int 1 0), (.int 0 0), (.int 0 0), (.int 3 0), (.ref 26), (.bool true), (.int 181 0), (.ref 27), .none, (.ref 28), (.ref 29), (.ref 30), (.int 253 0), (.int 3 0), (.str (S "/claim/cut.py") 254)]), #[]⟩
noncomputable def o32_0 (P : Params) : Obj := ⟨(.type "function"), none, (.func (fdOf 2 3 (.str (S "cpy313.stringprep") 187) (.ref 31) 0)), #[]⟩
noncomputable def tree_3 (P : Params) : BT := (.node (boot_o_0 P) (.node (boot_o_1 P) (.node (o3_3 P) (.node (boot_o_7 P) (.node (o15_0 P) (.node (o31_0 P) .nil .nil) .nil) (.node (o23_0 P) .nil .nil)) (.node (o11_0 P) (.node (o19_0 P) .nil .nil) (.node (o27_0 P) .nil .nil))) (.node (boot_o_5 P) (.node (boot_o_9 P) (.node (o17_0 P) .nil .nil) (.node (o25_0 P) .nil .nil)) (.node (o13_0 P) (.node (o21_0 P) .nil .nil) (.node (o29_0 P) .nil .nil)))) (.node (boot_o_2 P) (.node (boot_o_4 P) (.node (boot_o_8 P) (.node (o16_0 P) (.node (o32_0 P) .nil .nil) .nil) (.node (o24_0 P) .nil .nil)) (.node (o12_1 P) (.node (o20_0 P) .nil .nil) (.node (o28_0 P) .nil .nil))) (.node (boot_o_6 P) (.node (boot_o_10 P) (.node (o18_0 P) .nil .nil) (.node (o26_0 P) .nil .nil)) (.node (o14_0 P) (.node (o22_0 P) .nil .nil) (.node (o30_0 P) .nil .nil)))))
noncomputable def S_3 (P : Params) (os : OsState) : SharedT := ⟨tree_3 P, 33, {}, #[], boot_drawn, 256, os⟩
theorem pc_3 (w : World) (os : OsState) (q : Pos) : wrM pw w Γ₁ (execs ((bdy.drop 2).take 1) env) q (S_2 w.params os) = some (.ok .next, ⟨3, 0, 4, 30⟩, S_3 w.params os) := by kernel_rfl
noncomputable def tree_m (P : Params) (u : Nat → Obj) : BT := (.node (boot_o_0 P) (.node (boot_o_1 P) (.node (o3_3 P) (.node (boot_o_7 P) (.node (o15_0 P) (.node (o31_0 P) (.node (u 63) .nil .nil) .nil) (.node (u 47) .nil .nil)) (.node (o23_0 P) (.node (u 39) (.node (u 71) .nil .nil) .nil) (.node (u 55) .nil .nil))) (.node (o11_0 P) (.node (o19_0 P) (.node (u 35) (.node (u 67) .nil .nil) .nil) (.node (u 51) .nil .nil)) (.node (o27_0 P) (.node (u 43) .nil .nil) (.node (u 59) .nil .nil)))) (.node (boot_o_5 P) (.node (boot_o_9 P) (.node (o17_0 P) (.node (u 33) (.node (u 65) .nil .nil) .nil) (.node (u 49) .nil .nil)) (.node (o25_0 P) (.node (u 41) .nil .nil) (.node (u 57) .nil .nil))) (.node (o13_0 P) (.node (o21_0 P) (.node (u 37) (.node (u 69) .nil .nil) .nil) (.node (u 53) .nil .nil)) (.node (o29_0 P) (.node (u 45) .nil .nil) (.node (u 61) .nil .nil))))) (.node (boot_o_2 P) (.node (boot_o_4 P) (.node (boot_o_8 P) (.node (o16_0 P) (.node (o32_0 P) (.node (u 64) .nil .nil) .nil) (.node (u 48) .nil .nil)) (.node (o24_0 P) (.node (u 40) .nil .nil) (.node (u 56) .nil .nil))) (.node (o12_1 P) (.node (o20_0 P) (.node (u 36) (.node (u 68) .nil .nil) .nil) (.node (u 52) .nil .nil)) (.node (o28_0 P) (.node (u 44) .nil .nil) (.node (u 60) .nil .nil)))) (.node (boot_o_6 P) (.node (boot_o_10 P) (.node (o18_0 P) (.node (u 34) (.node (u 66) .nil .nil) .nil) (.node (u 50) .nil .nil)) (.node (o26_0 P) (.node (u 42) .nil .nil) (.node (u 58) .nil .nil))) (.node (o14_0 P) (.node (o22_0 P) (.node (u 38) (.node (u 70) .nil .nil) .nil) (.node (u 54) .nil .nil)) (.node (o30_0 P) (.node (u 46) .nil .nil) (.node (u 62) .nil .nil))))))
noncomputable def S_m (P : Params) (u : Nat → Obj) (os : OsState) : SharedT := ⟨tree_m P u, 72, {}, #[], boot_drawn, 2206, os⟩
noncomputable def b3at : Nat := 3
noncomputable def b3lo : Nat := 33
noncomputable def b3n : Nat := 39
noncomputable def b3tok : Nat := 256
noncomputable def e3_4 (P : Params) : List DictEntry := e3_3 P ++ [⟨PyData.keyHash P (S "b3_exceptions"), (.str (S "b3_exceptions") 2206), (.ref 33)⟩]
noncomputable def o3_4 (P : Params) : Obj := ⟨(.type "dict"), none, (.dict (e3_4 P).toArray 12), #[]⟩
noncomputable def tree_4 (P : Params) (u : Nat → Obj) : BT := (.node (boot_o_0 P) (.node (boot_o_1 P) (.node (o3_4 P) (.node (boot_o_7 P) (.node (o15_0 P) (.node (o31_0 P) (.node (u 63) .nil .nil) .nil) (.node (u 47) .nil .nil)) (.node (o23_0 P) (.node (u 39) (.node (u 71) .nil .nil) .nil) (.node (u 55) .nil .nil))) (.node (o11_0 P) (.node (o19_0 P) (.node (u 35) (.node (u 67) .nil .nil) .nil) (.node (u 51) .nil .nil)) (.node (o27_0 P) (.node (u 43) .nil .nil) (.node (u 59) .nil .nil)))) (.node (boot_o_5 P) (.node (boot_o_9 P) (.node (o17_0 P) (.node (u 33) (.node (u 65) .nil .nil) .nil) (.node (u 49) .nil .nil)) (.node (o25_0 P) (.node (u 41) .nil .nil) (.node (u 57) .nil .nil))) (.node (o13_0 P) (.node (o21_0 P) (.node (u 37) (.node (u 69) .nil .nil) .nil) (.node (u 53) .nil .nil)) (.node (o29_0 P) (.node (u 45) .nil .nil) (.node (u 61) .nil .nil))))) (.node (boot_o_2 P) (.node (boot_o_4 P) (.node (boot_o_8 P) (.node (o16_0 P) (.node (o32_0 P) (.node (u 64) .nil .nil) .nil) (.node (u 48) .nil .nil)) (.node (o24_0 P) (.node (u 40) .nil .nil) (.node (u 56) .nil .nil))) (.node (o12_1 P) (.node (o20_0 P) (.node (u 36) (.node (u 68) .nil .nil) .nil) (.node (u 52) .nil .nil)) (.node (o28_0 P) (.node (u 44) .nil .nil) (.node (u 60) .nil .nil)))) (.node (boot_o_6 P) (.node (boot_o_10 P) (.node (o18_0 P) (.node (u 34) (.node (u 66) .nil .nil) .nil) (.node (u 50) .nil .nil)) (.node (o26_0 P) (.node (u 42) .nil .nil) (.node (u 58) .nil .nil))) (.node (o14_0 P) (.node (o22_0 P) (.node (u 38) (.node (u 70) .nil .nil) .nil) (.node (u 54) .nil .nil)) (.node (o30_0 P) (.node (u 46) .nil .nil) (.node (u 62) .nil .nil))))))
noncomputable def S_4 (P : Params) (u : Nat → Obj) (os : OsState) : SharedT := ⟨tree_4 P u, 72, {}, #[], boot_drawn, 2207, os⟩
theorem pc_4b (w : World) (u : Nat → Obj) (os : OsState) (q : Pos) : wrM pw w Γ₁ (do standAt ⟨5, 0, 5, 13⟩; bindName env (Str.ofString "b3_exceptions") (.ref 33)) q (S_m w.params u os) = some (.ok (), ⟨5, 0, 5, 13⟩, S_4 w.params u os) := by kernel_rfl
noncomputable def b3S := S_4
-- pos of the name: ⟨5, 0, 5, 13⟩
noncomputable def e3_5 (P : Params) : List DictEntry := [⟨PyData.keyHash P (S "__name__"), (.str (S "__name__") 165), (.str (S "cpy313.ftplib") 2215)⟩, ⟨PyData.keyHash P (S "__doc__"), (.str (S "__doc__") 166), .none⟩, ⟨PyData.keyHash P (S "__package__"), (.str (S "__package__") 167), .none⟩, ⟨PyData.keyHash P (S "__loader__"), (.str (S "__loader__") 168), (.builtin "__main__.__loader__#opaque")⟩, ⟨PyData.keyHash P (S "__spec__"), (.str (S "__spec__") 169), .none⟩, ⟨PyData.keyHash P (S "__annotations__"), (.str (S "__annotations__") 170), (.ref 6)⟩, ⟨PyData.keyHash P (S "__builtins__"), (.str (S "__builtins__") 171), (.ref 4)⟩, ⟨PyData.keyHash P (S "__file__"), (.str (S "__file__") 173), (.str (S "/claim/cut.py") 172)⟩, ⟨PyData.keyHash P (S "__cached__"), (.str (S "__cached__") 174), .none⟩, ⟨PyData.keyHash P (S "b1_set"), (.str (S "b1_set") 248), (.ref 22)⟩, ⟨PyData.keyHash P (S "in_table_b1"), (.str (S "in_table_b1") 255), (.ref 32)⟩, ⟨PyData.keyHash P (S "b3_exceptions"), (.str (S "b3_exceptions") 2206), (.ref 33)⟩, ⟨PyData.keyHash P (S "map_table_b3"), (.str (S "map_table_b3") 2214), (.ref 78)⟩]
noncomputable def o3_5 (P : Params) : Obj := ⟨(.type "dict"), none, (.dict (e3_5 P).toArray 13), #[]⟩
noncomputable def o12_2 (P : Params) : Obj := ⟨.none, none, (.fields #[(.int 3 0), (.int 0 0), (.ref 31), (.int 6 0), (.int 0 0), (.ref 77)]), #[]⟩
noncomputable def o72_0 (P : Params) : Obj := ⟨(.type "tuple"), none, (.seq #[] 0), #[]⟩
noncomputable def o73_0 (P : Params) : Obj := ⟨.none, none, (.fields #[]), #[]⟩
noncomputable def o74_0 (P : Params) : Obj := ⟨(.type "tuple"), none, (.seq #[(.str (S "code") 2210), (.str (S "r") 2211)] 0), #[]⟩
noncomputable def o75_0 (P : Params) : Obj := ⟨(.type "tuple"), none, (.seq #[] 0), #[]⟩
noncomputable def o76_0 (P : Params) : Obj := ⟨.none, none, (.func (fdOf 4 0 .none .none 0)), #[]⟩
noncomputable def o77_0 (P : Params) : Obj := ⟨(.type "code"), none, (.fields #[(.str (S "map_table_b3") 2207), (.str (S "map_table_b3") 2208), (.str (S "/claim/cut.py") 2209), (.int 6 0), (.int 1 0), (.int 0 0), (.int 0 0), (.int 3 0), (.ref 72), (.bool true), (.int 181 0), (.ref 73), .none, (.ref 74), (.ref 75), (.ref 76), (.int 2212 0), (.int 6 0), (.str (S "/claim/cut.py") 2213)]), #[]⟩
noncomputable def o78_0 (P : Params) : Obj := ⟨(.type "function"), none, (.func (fdOf 4 3 (.str (S "cpy313.stringprep") 187) (.ref 77) 0)), #[]⟩
noncomputable def tree_5 (P : Params) (u : Nat → Obj) : BT := (.node (boot_o_0 P) (.node (boot_o_1 P) (.node (o3_5 P) (.node (boot_o_7 P) (.node (o15_0 P) (.node (o31_0 P) (.node (u 63) .nil .nil) .nil) (.node (u 47) .nil .nil)) (.node (o23_0 P) (.node (u 39) (.node (u 71) .nil .nil) .nil) (.node (u 55) .nil .nil))) (.node (o11_0 P) (.node (o19_0 P) (.node (u 35) (.node (u 67) .nil .nil) .nil) (.node (u 51) .nil .nil)) (.node (o27_0 P) (.node (u 43) (.node (o75_0 P) .nil .nil) .nil) (.node (u 59) .nil .nil)))) (.node (boot_o_5 P) (.node (boot_o_9 P) (.node (o17_0 P) (.node (u 33) (.node (u 65) .nil .nil) .nil) (.node (u 49) .nil .nil)) (.node (o25_0 P) (.node (u 41) (.node (o73_0 P) .nil .nil) .nil) (.node (u 57) .nil .nil))) (.node (o13_0 P) (.node (o21_0 P) (.node (u 37) (.node (u 69) .nil .nil) .nil) (.node (u 53) .nil .nil)) (.node (o29_0 P) (.node (u 45) (.node (o77_0 P) .nil .nil) .nil) (.node (u 61) .nil .nil))))) (.node (boot_o_2 P) (.node (boot_o_4 P) (.node (boot_o_8 P) (.node (o16_0 P) (.node (o32_0 P) (.node (u 64) .nil .nil) .nil) (.node (u 48) .nil .nil)) (.node (o24_0 P) (.node (u 40) (.node (o72_0 P) .nil .nil) .nil) (.node (u 56) .nil .nil))) (.node (o12_2 P) (.node (o20_0 P) (.node (u 36) (.node (u 68) .nil .nil) .nil) (.node (u 52) .nil .nil)) (.node (o28_0 P) (.node (u 44) (.node (o76_0 P) .nil .nil) .nil) (.node (u 60) .nil .nil)))) (.node (boot_o_6 P) (.node (boot_o_10 P) (.node (o18_0 P) (.node (u 34) (.node (u 66) .nil .nil) .nil) (.node (u 50) .nil .nil)) (.node (o26_0 P) (.node (u 42) (.node (o74_0 P) .nil .nil) .nil) (.node (u 58) .nil .nil))) (.node (o14_0 P) (.node (o22_0 P) (.node (u 38) (.node (u 70) .nil .nil) .nil) (.node (u 54) .nil .nil)) (.node (o30_0 P) (.node (u 46) (.node (o78_0 P) .nil .nil) .nil) (.node (u 62) .nil .nil))))))
noncomputable def S_5 (P : Params) (u : Nat → Obj) (os : OsState) : SharedT := ⟨tree_5 P u, 79, {}, #[], boot_drawn, 2217, os⟩
theorem pc_5 (w : World) (u : Nat → Obj) (os : OsState) (q : Pos) : wrM pw w Γ₁ (execs ((bdy.drop 4).take 2) env) q (S_4 w.params u os) = some (.ok .next, ⟨11, 0, 11, 8⟩, S_5 w.params u os) := by kernel_rfl
noncomputable def e2_1 (P : Params) : List DictEntry := [⟨PyData.keyHash P (S "type.__subclasses__.Exception.0"), (.str (S "type.__subclasses__.Exception.0") 2233), (.int 88 0)⟩, ⟨PyData.keyHash P (S "type.__subclasses__.Exception.n"), (.str (S "type.__subclasses__.Exception.n") 2234), (.int 1 0)⟩]
noncomputable def o2_1 (P : Params) : Obj := ⟨.none, none, (.dict (e2_1 P).toArray 2), #[]⟩
noncomputable def e3_6 (P : Params) : List DictEntry := e3_5 P ++ [⟨PyData.keyHash P (S "Error"), (.str (S "Error") 2236), (.ref 88)⟩]
noncomputable def o3_6 (P : Params) : Obj := ⟨(.type "dict"), none, (.dict (e3_6 P).toArray 14), #[]⟩
noncomputable def o12_3 (P : Params) : Obj := ⟨.none, none, (.fields #[(.int 3 0), (.int 0 0), (.ref 31), (.int 6 0), (.int 0 0), (.ref 77), (.int 12 0), (.int 0 0), (.ref 84)]), #[]⟩
noncomputable def o79_0 (P : Params) : Obj := ⟨(.type "tuple"), none, (.seq #[(.type "Exception")] 0), #[]⟩
noncomputable def o80_0 (P : Params) : Obj := ⟨(.type "builtin_function_or_method"), none, (.fields #[(.builtin "type.__prepare__"), (.type "type")]), #[]⟩
noncomputable def e81_0 (P : Params) : List DictEntry := [⟨PyData.keyHash P (S "__module__"), (.str (S "__module__") 2224), (.str (S "cpy313.ftplib") 2215)⟩, ⟨PyData.keyHash P (S "__qualname__"), (.str (S "__qualname__") 2226), (.str (S "Error") 2225)⟩, ⟨PyData.keyHash P (S "__firstlineno__"), (.str (S "__firstlineno__") 2228), (.int 12 2227)⟩, ⟨PyData.keyHash P (S "__static_attributes__"), (.str (S "__static_attributes__") 2229), (.ref 86)⟩]
noncomputable def o81_0 (P : Params) : Obj := ⟨(.type "dict"), none, (.dict (e81_0 P).toArray 4), #[]⟩
noncomputable def o82_0 (P : Params) : Obj := ⟨(.type "tuple"), none, (.seq #[] 0), #[]⟩
noncomputable def o83_0 (P : Params) : Obj := ⟨.none, none, (.fields #[]), #[]⟩
noncomputable def o84_0 (P : Params) : Obj := ⟨(.type "code"), none, (.fields #[(.str (S "Error") 2219), (.str (S "Error") 2220), (.str (S "/claim/cut.py") 2221), (.int 12 0), (.int 0 0), (.int 0 0), (.int 0 0), (.int 0 0), (.ref 82), (.bool false), (.int 181 0), (.ref 83), .none, .none, .none, .none, (.int 2222 0), (.int 12 0), (.str (S "/claim/cut.py") 2223)]), #[]⟩
noncomputable def o85_0 (P : Params) : Obj := ⟨(.type "frame"), none, .plain, #[(some (.ref 84)), (some (.ref 3)), (some (.ref 81)), none, (some (.str (S "cpy313.ftplib") 2215)), none, (some (.ref 0))]⟩
noncomputable def o86_0 (P : Params) : Obj := ⟨(.type "tuple"), none, (.seq #[] 0), #[]⟩
noncomputable def e87_0 (P : Params) : List DictEntry := [⟨PyData.keyHash P (S "__module__"), (.str (S "__module__") 2224), (.str (S "cpy313.ftplib") 2215)⟩, ⟨PyData.keyHash P (S "__firstlineno__"), (.str (S "__firstlineno__") 2228), (.int 12 2227)⟩, ⟨PyData.keyHash P (S "__static_attributes__"), (.str (S "__static_attributes__") 2229), (.ref 86)⟩, ⟨PyData.keyHash P (S "__weakref__"), (.str (S "__weakref__") 2231), (.ref 89)⟩, ⟨PyData.keyHash P (S "__doc__"), (.str (S "__doc__") 2232), .none⟩]
noncomputable def o87_0 (P : Params) : Obj := ⟨(.type "dict"), none, (.dict (e87_0 P).toArray 3), #[]⟩
noncomputable def o88_0 (P : Params) : Obj := ⟨(.type "type"), none, (.cls ⟨(S "Error"), [(.type "Exception")], [(.ref 88), (.type "Exception"), (.type "BaseException"), (.type "object")], 87, (S "Error"), true, [], [], false, none, false⟩), #[(some (.ref 79)), none, (some (.str (S "Error") 2217)), (some (.str (S "Error") 2225)), (some (.builtin "Exception.__new__")), (some (.bool true))]⟩
noncomputable def o89_0 (P : Params) : Obj := ⟨(.type "getset_descriptor"), none, (.fields #[(.str (S "__weakref__") 2230), (.ref 88), (.builtin "ExceptionGroup.__weakref__"), .none]), #[]⟩
noncomputable def o90_0 (P : Params) : Obj := ⟨(.type "super"), none, (.fields #[(.ref 88), (.ref 88), (.ref 88)]), #[]⟩
noncomputable def o91_0 (P : Params) : Obj := ⟨(.type "builtin_function_or_method"), none, (.fields #[(.builtin "object.__init_subclass__"), (.ref 88)]), #[]⟩
noncomputable def tree_6 (P : Params) (u : Nat → Obj) : BT := (.node (boot_o_0 P) (.node (boot_o_1 P) (.node (o3_6 P) (.node (boot_o_7 P) (.node (o15_0 P) (.node (o31_0 P) (.node (u 63) .nil .nil) .nil) (.node (u 47) (.node (o79_0 P) .nil .nil) .nil)) (.node (o23_0 P) (.node (u 39) (.node (u 71) .nil .nil) .nil) (.node (u 55) (.node (o87_0 P) .nil .nil) .nil))) (.node (o11_0 P) (.node (o19_0 P) (.node (u 35) (.node (u 67) .nil .nil) .nil) (.node (u 51) (.node (o83_0 P) .nil .nil) .nil)) (.node (o27_0 P) (.node (u 43) (.node (o75_0 P) .nil .nil) .nil) (.node (u 59) (.node (o91_0 P) .nil .nil) .nil)))) (.node (boot_o_5 P) (.node (boot_o_9 P) (.node (o17_0 P) (.node (u 33) (.node (u 65) .nil .nil) .nil) (.node (u 49) (.node (o81_0 P) .nil .nil) .nil)) (.node (o25_0 P) (.node (u 41) (.node (o73_0 P) .nil .nil) .nil) (.node (u 57) (.node (o89_0 P) .nil .nil) .nil))) (.node (o13_0 P) (.node (o21_0 P) (.node (u 37) (.node (u 69) .nil .nil) .nil) (.node (u 53) (.node (o85_0 P) .nil .nil) .nil)) (.node (o29_0 P) (.node (u 45) (.node (o77_0 P) .nil .nil) .nil) (.node (u 61) .nil .nil))))) (.node (o2_1 P) (.node (boot_o_4 P) (.node (boot_o_8 P) (.node (o16_0 P) (.node (o32_0 P) (.node (u 64) .nil .nil) .nil) (.node (u 48) (.node (o80_0 P) .nil .nil) .nil)) (.node (o24_0 P) (.node (u 40) (.node (o72_0 P) .nil .nil) .nil) (.node (u 56) (.node (o88_0 P) .nil .nil) .nil))) (.node (o12_3 P) (.node (o20_0 P) (.node (u 36) (.node (u 68) .nil .nil) .nil) (.node (u 52) (.node (o84_0 P) .nil .nil) .nil)) (.node (o28_0 P) (.node (u 44) (.node (o76_0 P) .nil .nil) .nil) (.node (u 60) .nil .nil)))) (.node (boot_o_6 P) (.node (boot_o_10 P) (.node (o18_0 P) (.node (u 34) (.node (u 66) .nil .nil) .nil) (.node (u 50) (.node (o82_0 P) .nil .nil) .nil)) (.node (o26_0 P) (.node (u 42) (.node (o74_0 P) .nil .nil) .nil) (.node (u 58) (.node (o90_0 P) .nil .nil) .nil))) (.node (o14_0 P) (.node (o22_0 P) (.node (u 38) (.node (u 70) .nil .nil) .nil) (.node (u 54) (.node (o86_0 P) .nil .nil) .nil)) (.node (o30_0 P) (.node (u 46) (.node (o78_0 P) .nil .nil) .nil) (.node (u 62) .nil .nil))))))
noncomputable def S_6 (P : Params) (u : Nat → Obj) (os : OsState) : SharedT := ⟨tree_6 P u, 92, {}, #[], boot_drawn, 2237, os⟩
theorem pc_6 (w : World) (u : Nat → Obj) (os : OsState) (q : Pos) : wrM pw w Γ₁ (execs ((bdy.drop 6).take 1) env) q (S_5 w.params u os) = some (.ok .next, ⟨12, 0, 13, 8⟩, S_6 w.params u os) := by kernel_rfl
noncomputable def e3_7 (P : Params) : List DictEntry := e3_6 P ++ [⟨PyData.keyHash P (S "error_reply"), (.str (S "error_reply") 2252), (.ref 101)⟩]
noncomputable def o3_7 (P : Params) : Obj := ⟨(.type "dict"), none, (.dict (e3_7 P).toArray 15), #[]⟩
noncomputable def o12_4 (P : Params) : Obj := ⟨.none, none, (.fields #[(.int 3 0), (.int 0 0), (.ref 31), (.int 6 0), (.int 0 0), (.ref 77), (.int 12 0), (.int 0 0), (.ref 84), (.int 14 0), (.int 0 0), (.ref 97)]), #[]⟩
noncomputable def o88_1 (P : Params) : Obj := ⟨(.type "type"), none, (.cls ⟨(S "Error"), [(.type "Exception")], [(.ref 88), (.type "Exception"), (.type "BaseException"), (.type "object")], 87, (S "Error"), true, [], [(.ref 101)], false, none, false⟩), #[(some (.ref 79)), none, (some (.str (S "Error") 2217)), (some (.str (S "Error") 2225)), (some (.builtin "Exception.__new__")), (some (.bool true))]⟩
noncomputable def o92_0 (P : Params) : Obj := ⟨(.type "tuple"), none, (.seq #[(.ref 88)] 0), #[]⟩
noncomputable def o93_0 (P : Params) : Obj := ⟨(.type "builtin_function_or_method"), none, (.fields #[(.builtin "type.__prepare__"), (.type "type")]), #[]⟩
noncomputable def e94_0 (P : Params) : List DictEntry := [⟨PyData.keyHash P (S "__module__"), (.str (S "__module__") 2244), (.str (S "cpy313.ftplib") 2215)⟩, ⟨PyData.keyHash P (S "__qualname__"), (.str (S "__qualname__") 2246), (.str (S "error_reply") 2245)⟩, ⟨PyData.keyHash P (S "__firstlineno__"), (.str (S "__firstlineno__") 2248), (.int 14 2247)⟩, ⟨PyData.keyHash P (S "__static_attributes__"), (.str (S "__static_attributes__") 2249), (.ref 99)⟩]
noncomputable def o94_0 (P : Params) : Obj := ⟨(.type "dict"), none, (.dict (e94_0 P).toArray 4), #[]⟩
noncomputable def o95_0 (P : Params) : Obj := ⟨(.type "tuple"), none, (.seq #[] 0), #[]⟩
noncomputable def o96_0 (P : Params) : Obj := ⟨.none, none, (.fields #[]), #[]⟩
noncomputable def o97_0 (P : Params) : Obj := ⟨(.type "code"), none, (.fields #[(.str (S "error_reply") 2239), (.str (S "error_reply") 2240), (.str (S "/claim/cut.py") 2241), (.int 14 0), (.int 0 0), (.int 0 0), (.int 0 0), (.int 0 0), (.ref 95), (.bool false), (.int 181 0), (.ref 96), .none, .none, .none, .none, (.int 2242 0), (.int 14 0), (.str (S "/claim/cut.py") 2243)]), #[]⟩
noncomputable def o98_0 (P : Params) : Obj := ⟨(.type "frame"), none, .plain, #[(some (.ref 97)), (some (.ref 3)), (some (.ref 94)), none, (some (.str (S "cpy313.ftplib") 2215)), none, (some (.ref 0))]⟩
noncomputable def o99_0 (P : Params) : Obj := ⟨(.type "tuple"), none, (.seq #[] 0), #[]⟩
noncomputable def e100_0 (P : Params) : List DictEntry := [⟨PyData.keyHash P (S "__module__"), (.str (S "__module__") 2244), (.str (S "cpy313.ftplib") 2215)⟩, ⟨PyData.keyHash P (S "__firstlineno__"), (.str (S "__firstlineno__") 2248), (.int 14 2247)⟩, ⟨PyData.keyHash P (S "__static_attributes__"), (.str (S "__static_attributes__") 2249), (.ref 99)⟩, ⟨PyData.keyHash P (S "__doc__"), (.str (S "__doc__") 2250), .none⟩]
noncomputable def o100_0 (P : Params) : Obj := ⟨(.type "dict"), none, (.dict (e100_0 P).toArray 2), #[]⟩
noncomputable def o101_0 (P : Params) : Obj := ⟨(.type "type"), none, (.cls ⟨(S "error_reply"), [(.ref 88)], [(.ref 101), (.ref 88), (.type "Exception"), (.type "BaseException"), (.type "object")], 100, (S "error_reply"), true, [], [], false, none, false⟩), #[(some (.ref 92)), none, (some (.str (S "error_reply") 2237)), (some (.str (S "error_reply") 2245)), (some (.builtin "Exception.__new__")), (some (.bool true))]⟩
noncomputable def o102_0 (P : Params) : Obj := ⟨(.type "super"), none, (.fields #[(.ref 101), (.ref 101), (.ref 101)]), #[]⟩
noncomputable def o103_0 (P : Params) : Obj := ⟨(.type "builtin_function_or_method"), none, (.fields #[(.builtin "object.__init_subclass__"), (.ref 101)]), #[]⟩
noncomputable def tree_7 (P : Params) (u : Nat → Obj) : BT := (.node (boot_o_0 P) (.node (boot_o_1 P) (.node (o3_7 P) (.node (boot_o_7 P) (.node (o15_0 P) (.node (o31_0 P) (.node (u 63) .nil .nil) (.node (o95_0 P) .nil .nil)) (.node (u 47) (.node (o79_0 P) .nil .nil) .nil)) (.node (o23_0 P) (.node (u 39) (.node (u 71) .nil .nil) (.node (o103_0 P) .nil .nil)) (.node (u 55) (.node (o87_0 P) .nil .nil) .nil))) (.node (o11_0 P) (.node (o19_0 P) (.node (u 35) (.node (u 67) .nil .nil) (.node (o99_0 P) .nil .nil)) (.node (u 51) (.node (o83_0 P) .nil .nil) .nil)) (.node (o27_0 P) (.node (u 43) (.node (o75_0 P) .nil .nil) .nil) (.node (u 59) (.node (o91_0 P) .nil .nil) .nil)))) (.node (boot_o_5 P) (.node (boot_o_9 P) (.node (o17_0 P) (.node (u 33) (.node (u 65) .nil .nil) (.node (o97_0 P) .nil .nil)) (.node (u 49) (.node (o81_0 P) .nil .nil) .nil)) (.node (o25_0 P) (.node (u 41) (.node (o73_0 P) .nil .nil) .nil) (.node (u 57) (.node (o89_0 P) .nil .nil) .nil))) (.node (o13_0 P) (.node (o21_0 P) (.node (u 37) (.node (u 69) .nil .nil) (.node (o101_0 P) .nil .nil)) (.node (u 53) (.node (o85_0 P) .nil .nil) .nil)) (.node (o29_0 P) (.node (u 45) (.node (o77_0 P) .nil .nil) .nil) (.node (u 61) (.node (o93_0 P) .nil .nil) .nil))))) (.node (o2_1 P) (.node (boot_o_4 P) (.node (boot_o_8 P) (.node (o16_0 P) (.node (o32_0 P) (.node (u 64) .nil .nil) (.node (o96_0 P) .nil .nil)) (.node (u 48) (.node (o80_0 P) .nil .nil) .nil)) (.node (o24_0 P) (.node (u 40) (.node (o72_0 P) .nil .nil) .nil) (.node (u 56) (.node (o88_1 P) .nil .nil) .nil))) (.node (o12_4 P) (.node (o20_0 P) (.node (u 36) (.node (u 68) .nil .nil) (.node (o100_0 P) .nil .nil)) (.node (u 52) (.node (o84_0 P) .nil .nil) .nil)) (.node (o28_0 P) (.node (u 44) (.node (o76_0 P) .nil .nil) .nil) (.node (u 60) (.node (o92_0 P) .nil .nil) .nil)))) (.node (boot_o_6 P) (.node (boot_o_10 P) (.node (o18_0 P) (.node (u 34) (.node (u 66) .nil .nil) (.node (o98_0 P) .nil .nil)) (.node (u 50) (.node (o82_0 P) .nil .nil) .nil)) (.node (o26_0 P) (.node (u 42) (.node (o74_0 P) .nil .nil) .nil) (.node (u 58) (.node (o90_0 P) .nil .nil) .nil))) (.node (o14_0 P) (.node (o22_0 P) (.node (u 38) (.node (u 70) .nil .nil) (.node (o102_0 P) .nil .nil)) (.node (u 54) (.node (o86_0 P) .nil .nil) .nil)) (.node (o30_0 P) (.node (u 46) (.node (o78_0 P) .nil .nil) .nil) (.node (u 62) (.node (o94_0 P) .nil .nil) .nil))))))
noncomputable def S_7 (P : Params) (u : Nat → Obj) (os : OsState) : SharedT := ⟨tree_7 P u, 104, {}, #[], boot_drawn, 2253, os⟩
theorem pc_7 (w : World) (u : Nat → Obj) (os : OsState) (q : Pos) : wrM pw w Γ₁ (execs ((bdy.drop 7).take 1) env) q (S_6 w.params u os) = some (.ok .next, ⟨14, 0, 15, 8⟩, S_7 w.params u os) := by kernel_rfl
noncomputable def e3_8 (P : Params) : List DictEntry := [⟨PyData.keyHash P (S "__name__"), (.str (S "__name__") 165), (.str (S "cpy313.token") 2264)⟩, ⟨PyData.keyHash P (S "__doc__"), (.str (S "__doc__") 166), .none⟩, ⟨PyData.keyHash P (S "__package__"), (.str (S "__package__") 167), .none⟩, ⟨PyData.keyHash P (S "__loader__"), (.str (S "__loader__") 168), (.builtin "__main__.__loader__#opaque")⟩, ⟨PyData.keyHash P (S "__spec__"), (.str (S "__spec__") 169), .none⟩, ⟨PyData.keyHash P (S "__annotations__"), (.str (S "__annotations__") 170), (.ref 6)⟩, ⟨PyData.keyHash P (S "__builtins__"), (.str (S "__builtins__") 171), (.ref 4)⟩, ⟨PyData.keyHash P (S "__file__"), (.str (S "__file__") 173), (.str (S "/claim/cut.py") 172)⟩, ⟨PyData.keyHash P (S "__cached__"), (.str (S "__cached__") 174), .none⟩, ⟨PyData.keyHash P (S "b1_set"), (.str (S "b1_set") 248), (.ref 22)⟩, ⟨PyData.keyHash P (S "in_table_b1"), (.str (S "in_table_b1") 255), (.ref 32)⟩, ⟨PyData.keyHash P (S "b3_exceptions"), (.str (S "b3_exceptions") 2206), (.ref 33)⟩, ⟨PyData.keyHash P (S "map_table_b3"), (.str (S "map_table_b3") 2214), (.ref 78)⟩, ⟨PyData.keyHash P (S "Error"), (.str (S "Error") 2236), (.ref 88)⟩, ⟨PyData.keyHash P (S "error_reply"), (.str (S "error_reply") 2252), (.ref 101)⟩, ⟨PyData.keyHash P (S "parse257"), (.str (S "parse257") 2263), (.ref 110)⟩, ⟨PyData.keyHash P (S "ENDMARKER"), (.str (S "ENDMARKER") 2267), (.int 0 2266)⟩, ⟨PyData.keyHash P (S "LPAR"), (.str (S "LPAR") 2269), (.int 7 2268)⟩, ⟨PyData.keyHash P (S "RPAR"), (.str (S "RPAR") 2271), (.int 8 2270)⟩, ⟨PyData.keyHash P (S "LSQB"), (.str (S "LSQB") 2273), (.int 9 2272)⟩, ⟨PyData.keyHash P (S "RSQB"), (.str (S "RSQB") 2275), (.int 10 2274)⟩, ⟨PyData.keyHash P (S "COLON"), (.str (S "COLON") 2277), (.int 11 2276)⟩, ⟨PyData.keyHash P (S "COMMA"), (.str (S "COMMA") 2279), (.int 12 2278)⟩, ⟨PyData.keyHash P (S "SEMI"), (.str (S "SEMI") 2281), (.int 13 2280)⟩, ⟨PyData.keyHash P (S "PLUS"), (.str (S "PLUS") 2283), (.int 14 2282)⟩, ⟨PyData.keyHash P (S "MINUS"), (.str (S "MINUS") 2285), (.int 15 2284)⟩, ⟨PyData.keyHash P (S "STAR"), (.str (S "STAR") 2287), (.int 16 2286)⟩, ⟨PyData.keyHash P (S "SLASH"), (.str (S "SLASH") 2289), (.int 17 2288)⟩, ⟨PyData.keyHash P (S "VBAR"), (.str (S "VBAR") 2291), (.int 18 2290)⟩, ⟨PyData.keyHash P (S "AMPER"), (.str (S "AMPER") 2293), (.int 19 2292)⟩, ⟨PyData.keyHash P (S "LESS"), (.str (S "LESS") 2295), (.int 20 2294)⟩, ⟨PyData.keyHash P (S "GREATER"), (.str (S "GREATER") 2297), (.int 21 2296)⟩, ⟨PyData.keyHash P (S "EQUAL"), (.str (S "EQUAL") 2299), (.int 22 2298)⟩, ⟨PyData.keyHash P (S "DOT"), (.str (S "DOT") 2301), (.int 23 2300)⟩, ⟨PyData.keyHash P (S "PERCENT"), (.str (S "PERCENT") 2303), (.int 24 2302)⟩, ⟨PyData.keyHash P (S "LBRACE"), (.str (S "LBRACE") 2305), (.int 25 2304)⟩, ⟨PyData.keyHash P (S "RBRACE"), (.str (S "RBRACE") 2307), (.int 26 2306)⟩, ⟨PyData.keyHash P (S "EQEQUAL"), (.str (S "EQEQUAL") 2309), (.int 27 2308)⟩, ⟨PyData.keyHash P (S "NOTEQUAL"), (.str (S "NOTEQUAL") 2311), (.int 28 2310)⟩, ⟨PyData.keyHash P (S "LESSEQUAL"), (.str (S "LESSEQUAL") 2313), (.int 29 2312)⟩, ⟨PyData.keyHash P (S "GREATEREQUAL"), (.str (S "GREATEREQUAL") 2315), (.int 30 2314)⟩, ⟨PyData.keyHash P (S "TILDE"), (.str (S "TILDE") 2317), (.int 31 2316)⟩, ⟨PyData.keyHash P (S "CIRCUMFLEX"), (.str (S "CIRCUMFLEX") 2319), (.int 32 2318)⟩, ⟨PyData.keyHash P (S "LEFTSHIFT"), (.str (S "LEFTSHIFT") 2321), (.int 33 2320)⟩, ⟨PyData.keyHash P (S "RIGHTSHIFT"), (.str (S "RIGHTSHIFT") 2323), (.int 34 2322)⟩, ⟨PyData.keyHash P (S "DOUBLESTAR"), (.str (S "DOUBLESTAR") 2325), (.int 35 2324)⟩, ⟨PyData.keyHash P (S "PLUSEQUAL"), (.str (S "PLUSEQUAL") 2327), (.int 36 2326)⟩, ⟨PyData.keyHash P (S "MINEQUAL"), (.str (S "MINEQUAL") 2329), (.int 37 2328)⟩, ⟨PyData.keyHash P (S "STAREQUAL"), (.str (S "STAREQUAL") 2331), (.int 38 2330)⟩, ⟨PyData.keyHash P (S "SLASHEQUAL"), (.str (S "SLASHEQUAL") 2333), (.int 39 2332)⟩, ⟨PyData.keyHash P (S "PERCENTEQUAL"), (.str (S "PERCENTEQUAL") 2335), (.int 40 2334)⟩, ⟨PyData.keyHash P (S "AMPEREQUAL"), (.str (S "AMPEREQUAL") 2337), (.int 41 2336)⟩, ⟨PyData.keyHash P (S "VBAREQUAL"), (.str (S "VBAREQUAL") 2339), (.int 42 2338)⟩, ⟨PyData.keyHash P (S "CIRCUMFLEXEQUAL"), (.str (S "CIRCUMFLEXEQUAL") 2341), (.int 43 2340)⟩, ⟨PyData.keyHash P (S "LEFTSHIFTEQUAL"), (.str (S "LEFTSHIFTEQUAL") 2343), (.int 44 2342)⟩, ⟨PyData.keyHash P (S "RIGHTSHIFTEQUAL"), (.str (S "RIGHTSHIFTEQUAL") 2345), (.int 45 2344)⟩, ⟨PyData.keyHash P (S "DOUBLESTAREQUAL"), (.str (S "DOUBLESTAREQUAL") 2347), (.int 46 2346)⟩, ⟨PyData.keyHash P (S "DOUBLESLASH"), (.str (S "DOUBLESLASH") 2349), (.int 47 2348)⟩, ⟨PyData.keyHash P (S "DOUBLESLASHEQUAL"), (.str (S "DOUBLESLASHEQUAL") 2351), (.int 48 2350)⟩, ⟨PyData.keyHash P (S "AT"), (.str (S "AT") 2353), (.int 49 2352)⟩, ⟨PyData.keyHash P (S "ATEQUAL"), (.str (S "ATEQUAL") 2355), (.int 50 2354)⟩]
noncomputable def o3_8 (P : Params) : Obj := ⟨(.type "dict"), none, (.dict (e3_8 P).toArray 61), #[]⟩
noncomputable def o12_5 (P : Params) : Obj := ⟨.none, none, (.fields #[(.int 3 0), (.int 0 0), (.ref 31), (.int 6 0), (.int 0 0), (.ref 77), (.int 12 0), (.int 0 0), (.ref 84), (.int 14 0), (.int 0 0), (.ref 97), (.int 16 0), (.int 0 0), (.ref 109)]), #[]⟩
noncomputable def o104_0 (P : Params) : Obj := ⟨(.type "tuple"), none, (.seq #[] 0), #[]⟩
noncomputable def o105_0 (P : Params) : Obj := ⟨.none, none, (.fields #[]), #[]⟩
noncomputable def o106_0 (P : Params) : Obj := ⟨(.type "tuple"), none, (.seq #[(.str (S "resp") 2256), (.str (S "dirname") 2257), (.str (S "i") 2258), (.str (S "n") 2259), (.str (S "c") 2260)] 0), #[]⟩
noncomputable def o107_0 (P : Params) : Obj := ⟨(.type "tuple"), none, (.seq #[] 0), #[]⟩
noncomputable def o108_0 (P : Params) : Obj := ⟨.none, none, (.func (fdOf 8 0 .none .none 0)), #[]⟩
noncomputable def o109_0 (P : Params) : Obj := ⟨(.type "code"), none, (.fields #[(.str (S "parse257") 2253), (.str (S "parse257") 2254), (.str (S "/claim/cut.py") 2255), (.int 16 0), (.int 1 0), (.int 0 0), (.int 0 0), (.int 3 0), (.ref 104), (.bool true), (.int 181 0), (.ref 105), .none, (.ref 106), (.ref 107), (.ref 108), (.int 2261 0), (.int 16 0), (.str (S "/claim/cut.py") 2262)]), #[]⟩
noncomputable def o110_0 (P : Params) : Obj := ⟨(.type "function"), none, (.func (fdOf 8 3 (.str (S "cpy313.ftplib") 2215) (.ref 109) 0)), #[]⟩
noncomputable def tree_8 (P : Params) (u : Nat → Obj) : BT := (.node (boot_o_0 P) (.node (boot_o_1 P) (.node (o3_8 P) (.node (boot_o_7 P) (.node (o15_0 P) (.node (o31_0 P) (.node (u 63) .nil .nil) (.node (o95_0 P) .nil .nil)) (.node (u 47) (.node (o79_0 P) .nil .nil) .nil)) (.node (o23_0 P) (.node (u 39) (.node (u 71) .nil .nil) (.node (o103_0 P) .nil .nil)) (.node (u 55) (.node (o87_0 P) .nil .nil) .nil))) (.node (o11_0 P) (.node (o19_0 P) (.node (u 35) (.node (u 67) .nil .nil) (.node (o99_0 P) .nil .nil)) (.node (u 51) (.node (o83_0 P) .nil .nil) .nil)) (.node (o27_0 P) (.node (u 43) (.node (o75_0 P) .nil .nil) (.node (o107_0 P) .nil .nil)) (.node (u 59) (.node (o91_0 P) .nil .nil) .nil)))) (.node (boot_o_5 P) (.node (boot_o_9 P) (.node (o17_0 P) (.node (u 33) (.node (u 65) .nil .nil) (.node (o97_0 P) .nil .nil)) (.node (u 49) (.node (o81_0 P) .nil .nil) .nil)) (.node (o25_0 P) (.node (u 41) (.node (o73_0 P) .nil .nil) (.node (o105_0 P) .nil .nil)) (.node (u 57) (.node (o89_0 P) .nil .nil) .nil))) (.node (o13_0 P) (.node (o21_0 P) (.node (u 37) (.node (u 69) .nil .nil) (.node (o101_0 P) .nil .nil)) (.node (u 53) (.node (o85_0 P) .nil .nil) .nil)) (.node (o29_0 P) (.node (u 45) (.node (o77_0 P) .nil .nil) (.node (o109_0 P) .nil .nil)) (.node (u 61) (.node (o93_0 P) .nil .nil) .nil))))) (.node (o2_1 P) (.node (boot_o_4 P) (.node (boot_o_8 P) (.node (o16_0 P) (.node (o32_0 P) (.node (u 64) .nil .nil) (.node (o96_0 P) .nil .nil)) (.node (u 48) (.node (o80_0 P) .nil .nil) .nil)) (.node (o24_0 P) (.node (u 40) (.node (o72_0 P) .nil .nil) (.node (o104_0 P) .nil .nil)) (.node (u 56) (.node (o88_1 P) .nil .nil) .nil))) (.node (o12_5 P) (.node (o20_0 P) (.node (u 36) (.node (u 68) .nil .nil) (.node (o100_0 P) .nil .nil)) (.node (u 52) (.node (o84_0 P) .nil .nil) .nil)) (.node (o28_0 P) (.node (u 44) (.node (o76_0 P) .nil .nil) (.node (o108_0 P) .nil .nil)) (.node (u 60) (.node (o92_0 P) .nil .nil) .nil)))) (.node (boot_o_6 P) (.node (boot_o_10 P) (.node (o18_0 P) (.node (u 34) (.node (u 66) .nil .nil) (.node (o98_0 P) .nil .nil)) (.node (u 50) (.node (o82_0 P) .nil .nil) .nil)) (.node (o26_0 P) (.node (u 42) (.node (o74_0 P) .nil .nil) (.node (o106_0 P) .nil .nil)) (.node (u 58) (.node (o90_0 P) .nil .nil) .nil))) (.node (o14_0 P) (.node (o22_0 P) (.node (u 38) (.node (u 70) .nil .nil) (.node (o102_0 P) .nil .nil)) (.node (u 54) (.node (o86_0 P) .nil .nil) .nil)) (.node (o30_0 P) (.node (u 46) (.node (o78_0 P) .nil .nil) (.node (o110_0 P) .nil .nil)) (.node (u 62) (.node (o94_0 P) .nil .nil) .nil))))))
noncomputable def S_8 (P : Params) (u : Nat → Obj) (os : OsState) : SharedT := ⟨tree_8 P u, 111, {}, #[], boot_drawn, 2356, os⟩
theorem pc_8 (w : World) (u : Nat → Obj) (os : OsState) (q : Pos) : wrM pw w Γ₁ (execs ((bdy.drop 8).take 47) env) q (S_7 w.params u os) = some (.ok .next, ⟨78, 0, 78, 7⟩, S_8 w.params u os) := by kernel_rfl
noncomputable def e3_9 (P : Params) : List DictEntry := e3_8 P ++ [⟨PyData.keyHash P (S "RARROW"), (.str (S "RARROW") 2357), (.int 51 2356)⟩, ⟨PyData.keyHash P (S "ELLIPSIS"), (.str (S "ELLIPSIS") 2359), (.int 52 2358)⟩, ⟨PyData.keyHash P (S "COLONEQUAL"), (.str (S "COLONEQUAL") 2361), (.int 53 2360)⟩, ⟨PyData.keyHash P (S "EXCLAMATION"), (.str (S "EXCLAMATION") 2363), (.int 54 2362)⟩, ⟨PyData.keyHash P (S "NT_OFFSET"), (.str (S "NT_OFFSET") 2365), (.int 256 2364)⟩]
noncomputable def o3_9 (P : Params) : Obj := ⟨(.type "dict"), none, (.dict (e3_9 P).toArray 66), #[]⟩
noncomputable def tree_9 (P : Params) (u : Nat → Obj) : BT := (.node (boot_o_0 P) (.node (boot_o_1 P) (.node (o3_9 P) (.node (boot_o_7 P) (.node (o15_0 P) (.node (o31_0 P) (.node (u 63) .nil .nil) (.node (o95_0 P) .nil .nil)) (.node (u 47) (.node (o79_0 P) .nil .nil) .nil)) (.node (o23_0 P) (.node (u 39) (.node (u 71) .nil .nil) (.node (o103_0 P) .nil .nil)) (.node (u 55) (.node (o87_0 P) .nil .nil) .nil))) (.node (o11_0 P) (.node (o19_0 P) (.node (u 35) (.node (u 67) .nil .nil) (.node (o99_0 P) .nil .nil)) (.node (u 51) (.node (o83_0 P) .nil .nil) .nil)) (.node (o27_0 P) (.node (u 43) (.node (o75_0 P) .nil .nil) (.node (o107_0 P) .nil .nil)) (.node (u 59) (.node (o91_0 P) .nil .nil) .nil)))) (.node (boot_o_5 P) (.node (boot_o_9 P) (.node (o17_0 P) (.node (u 33) (.node (u 65) .nil .nil) (.node (o97_0 P) .nil .nil)) (.node (u 49) (.node (o81_0 P) .nil .nil) .nil)) (.node (o25_0 P) (.node (u 41) (.node (o73_0 P) .nil .nil) (.node (o105_0 P) .nil .nil)) (.node (u 57) (.node (o89_0 P) .nil .nil) .nil))) (.node (o13_0 P) (.node (o21_0 P) (.node (u 37) (.node (u 69) .nil .nil) (.node (o101_0 P) .nil .nil)) (.node (u 53) (.node (o85_0 P) .nil .nil) .nil)) (.node (o29_0 P) (.node (u 45) (.node (o77_0 P) .nil .nil) (.node (o109_0 P) .nil .nil)) (.node (u 61) (.node (o93_0 P) .nil .nil) .nil))))) (.node (o2_1 P) (.node (boot_o_4 P) (.node (boot_o_8 P) (.node (o16_0 P) (.node (o32_0 P) (.node (u 64) .nil .nil) (.node (o96_0 P) .nil .nil)) (.node (u 48) (.node (o80_0 P) .nil .nil) .nil)) (.node (o24_0 P) (.node (u 40) (.node (o72_0 P) .nil .nil) (.node (o104_0 P) .nil .nil)) (.node (u 56) (.node (o88_1 P) .nil .nil) .nil))) (.node (o12_5 P) (.node (o20_0 P) (.node (u 36) (.node (u 68) .nil .nil) (.node (o100_0 P) .nil .nil)) (.node (u 52) (.node (o84_0 P) .nil .nil) .nil)) (.node (o28_0 P) (.node (u 44) (.node (o76_0 P) .nil .nil) (.node (o108_0 P) .nil .nil)) (.node (u 60) (.node (o92_0 P) .nil .nil) .nil)))) (.node (boot_o_6 P) (.node (boot_o_10 P) (.node (o18_0 P) (.node (u 34) (.node (u 66) .nil .nil) (.node (o98_0 P) .nil .nil)) (.node (u 50) (.node (o82_0 P) .nil .nil) .nil)) (.node (o26_0 P) (.node (u 42) (.node (o74_0 P) .nil .nil) (.node (o106_0 P) .nil .nil)) (.node (u 58) (.node (o90_0 P) .nil .nil) .nil))) (.node (o14_0 P) (.node (o22_0 P) (.node (u 38) (.node (u 70) .nil .nil) (.node (o102_0 P) .nil .nil)) (.node (u 54) (.node (o86_0 P) .nil .nil) .nil)) (.node (o30_0 P) (.node (u 46) (.node (o78_0 P) .nil .nil) (.node (o110_0 P) .nil .nil)) (.node (u 62) (.node (o94_0 P) .nil .nil) .nil))))))
noncomputable def S_9 (P : Params) (u : Nat → Obj) (os : OsState) : SharedT := ⟨tree_9 P u, 111, {}, #[], boot_drawn, 2366, os⟩
theorem pc_9 (w : World) (u : Nat → Obj) (os : OsState) (q : Pos) : wrM pw w Γ₁ (execs ((bdy.drop 55).take 5) env) q (S_8 w.params u os) = some (.ok .next, ⟨83, 0, 83, 9⟩, S_9 w.params u os) := by kernel_rfl
noncomputable def e3_10 (P : Params) : List DictEntry := e3_9 P ++ [⟨PyData.keyHash P (S "EXACT_TOKEN_TYPES"), (.str (S "EXACT_TOKEN_TYPES") 2462), (.ref 111)⟩]
noncomputable def o3_10 (P : Params) : Obj := ⟨(.type "dict"), none, (.dict (e3_10 P).toArray 67), #[]⟩
noncomputable def e111_0 (P : Params) : List DictEntry := [⟨PyData.keyHash P (S "!"), (.str (S "!") 2366), (.int 54 2362)⟩, ⟨PyData.keyHash P (S "!="), (.str (S "!=") 2368), (.int 28 2310)⟩, ⟨PyData.keyHash P (S "%"), (.str (S "%") 2370), (.int 24 2302)⟩, ⟨PyData.keyHash P (S "%="), (.str (S "%=") 2372), (.int 40 2334)⟩, ⟨PyData.keyHash P (S "&"), (.str (S "&") 2374), (.int 19 2292)⟩, ⟨PyData.keyHash P (S "&="), (.str (S "&=") 2376), (.int 41 2336)⟩, ⟨PyData.keyHash P (S "("), (.str (S "(") 2378), (.int 7 2268)⟩, ⟨PyData.keyHash P (S ")"), (.str (S ")") 2380), (.int 8 2270)⟩, ⟨PyData.keyHash P (S "*"), (.str (S "*") 2382), (.int 16 2286)⟩, ⟨PyData.keyHash P (S "**"), (.str (S "**") 2384), (.int 35 2324)⟩, ⟨PyData.keyHash P (S "**="), (.str (S "**=") 2386), (.int 46 2346)⟩, ⟨PyData.keyHash P (S "*="), (.str (S "*=") 2388), (.int 38 2330)⟩, ⟨PyData.keyHash P (S "+"), (.str (S "+") 2390), (.int 14 2282)⟩, ⟨PyData.keyHash P (S "+="), (.str (S "+=") 2392), (.int 36 2326)⟩, ⟨PyData.keyHash P (S ","), (.str (S ",") 2394), (.int 12 2278)⟩, ⟨PyData.keyHash P (S "-"), (.str (S "-") 2396), (.int 15 2284)⟩, ⟨PyData.keyHash P (S "-="), (.str (S "-=") 2398), (.int 37 2328)⟩, ⟨PyData.keyHash P (S "->"), (.str (S "->") 2400), (.int 51 2356)⟩, ⟨PyData.keyHash P (S "."), (.str (S ".") 2402), (.int 23 2300)⟩, ⟨PyData.keyHash P (S "..."), (.str (S "...") 2404), (.int 52 2358)⟩, ⟨PyData.keyHash P (S "/"), (.str (S "/") 2406), (.int 17 2288)⟩, ⟨PyData.keyHash P (S "//"), (.str (S "//") 2408), (.int 47 2348)⟩, ⟨PyData.keyHash P (S "//="), (.str (S "//=") 2410), (.int 48 2350)⟩, ⟨PyData.keyHash P (S "/="), (.str (S "/=") 2412), (.int 39 2332)⟩, ⟨PyData.keyHash P (S ":"), (.str (S ":") 2414), (.int 11 2276)⟩, ⟨PyData.keyHash P (S ":="), (.str (S ":=") 2416), (.int 53 2360)⟩, ⟨PyData.keyHash P (S ";"), (.str (S ";") 2418), (.int 13 2280)⟩, ⟨PyData.keyHash P (S "<"), (.str (S "<") 2420), (.int 20 2294)⟩, ⟨PyData.keyHash P (S "<<"), (.str (S "<<") 2422), (.int 33 2320)⟩, ⟨PyData.keyHash P (S "<<="), (.str (S "<<=") 2424), (.int 44 2342)⟩, ⟨PyData.keyHash P (S "<="), (.str (S "<=") 2426), (.int 29 2312)⟩, ⟨PyData.keyHash P (S "="), (.str (S "=") 2428), (.int 22 2298)⟩, ⟨PyData.keyHash P (S "=="), (.str (S "==") 2430), (.int 27 2308)⟩, ⟨PyData.keyHash P (S ">"), (.str (S ">") 2432), (.int 21 2296)⟩, ⟨PyData.keyHash P (S ">="), (.str (S ">=") 2434), (.int 30 2314)⟩, ⟨PyData.keyHash P (S ">>"), (.str (S ">>") 2435), (.int 34 2322)⟩, ⟨PyData.keyHash P (S ">>="), (.str (S ">>=") 2436), (.int 45 2344)⟩, ⟨PyData.keyHash P (S "@"), (.str (S "@") 2437), (.int 49 2352)⟩, ⟨PyData.keyHash P (S "@="), (.str (S "@=") 2438), (.int 50 2354)⟩, ⟨PyData.keyHash P (S "["), (.str (S "[") 2439), (.int 9 2272)⟩, ⟨PyData.keyHash P (S "]"), (.str (S "]") 2440), (.int 10 2274)⟩, ⟨PyData.keyHash P (S "^"), (.str (S "^") 2441), (.int 32 2318)⟩, ⟨PyData.keyHash P (S "^="), (.str (S "^=") 2442), (.int 43 2340)⟩, ⟨PyData.keyHash P (S "{"), (.str (S "{") 2443), (.int 25 2304)⟩, ⟨PyData.keyHash P (S "|"), (.str (S "|") 2444), (.int 18 2290)⟩, ⟨PyData.keyHash P (S "|="), (.str (S "|=") 2445), (.int 42 2338)⟩, ⟨PyData.keyHash P (S "}"), (.str (S "}") 2446), (.int 26 2306)⟩, ⟨PyData.keyHash P (S "~"), (.str (S "~") 2447), (.int 31 2316)⟩]
noncomputable def o111_0 (P : Params) : Obj := ⟨(.type "dict"), none, (.dict (e111_0 P).toArray 48), #[]⟩
noncomputable def e112_0 (P : Params) : List DictEntry := [⟨PyData.keyHash P (S "->"), (.str (S "->") 2400), (.int 51 2356)⟩, ⟨PyData.keyHash P (S "."), (.str (S ".") 2402), (.int 23 2300)⟩, ⟨PyData.keyHash P (S "..."), (.str (S "...") 2404), (.int 52 2358)⟩, ⟨PyData.keyHash P (S "/"), (.str (S "/") 2406), (.int 17 2288)⟩, ⟨PyData.keyHash P (S "//"), (.str (S "//") 2408), (.int 47 2348)⟩, ⟨PyData.keyHash P (S "//="), (.str (S "//=") 2410), (.int 48 2350)⟩, ⟨PyData.keyHash P (S "/="), (.str (S "/=") 2412), (.int 39 2332)⟩, ⟨PyData.keyHash P (S ":"), (.str (S ":") 2414), (.int 11 2276)⟩, ⟨PyData.keyHash P (S ":="), (.str (S ":=") 2416), (.int 53 2360)⟩, ⟨PyData.keyHash P (S ";"), (.str (S ";") 2418), (.int 13 2280)⟩, ⟨PyData.keyHash P (S "<"), (.str (S "<") 2420), (.int 20 2294)⟩, ⟨PyData.keyHash P (S "<<"), (.str (S "<<") 2422), (.int 33 2320)⟩, ⟨PyData.keyHash P (S "<<="), (.str (S "<<=") 2424), (.int 44 2342)⟩, ⟨PyData.keyHash P (S "<="), (.str (S "<=") 2426), (.int 29 2312)⟩, ⟨PyData.keyHash P (S "="), (.str (S "=") 2428), (.int 22 2298)⟩, ⟨PyData.keyHash P (S "=="), (.str (S "==") 2430), (.int 27 2308)⟩, ⟨PyData.keyHash P (S ">"), (.str (S ">") 2432), (.int 21 2296)⟩]
noncomputable def o112_0 (P : Params) : Obj := ⟨(.type "dict"), none, (.dict (e112_0 P).toArray 17), #[]⟩
noncomputable def e113_0 (P : Params) : List DictEntry := [⟨PyData.keyHash P (S ">="), (.str (S ">=") 2434), (.int 30 2314)⟩, ⟨PyData.keyHash P (S ">>"), (.str (S ">>") 2435), (.int 34 2322)⟩, ⟨PyData.keyHash P (S ">>="), (.str (S ">>=") 2436), (.int 45 2344)⟩, ⟨PyData.keyHash P (S "@"), (.str (S "@") 2437), (.int 49 2352)⟩, ⟨PyData.keyHash P (S "@="), (.str (S "@=") 2438), (.int 50 2354)⟩, ⟨PyData.keyHash P (S "["), (.str (S "[") 2439), (.int 9 2272)⟩, ⟨PyData.keyHash P (S "]"), (.str (S "]") 2440), (.int 10 2274)⟩, ⟨PyData.keyHash P (S "^"), (.str (S "^") 2441), (.int 32 2318)⟩, ⟨PyData.keyHash P (S "^="), (.str (S "^=") 2442), (.int 43 2340)⟩, ⟨PyData.keyHash P (S "{"), (.str (S "{") 2443), (.int 25 2304)⟩, ⟨PyData.keyHash P (S "|"), (.str (S "|") 2444), (.int 18 2290)⟩, ⟨PyData.keyHash P (S "|="), (.str (S "|=") 2445), (.int 42 2338)⟩, ⟨PyData.keyHash P (S "}"), (.str (S "}") 2446), (.int 26 2306)⟩, ⟨PyData.keyHash P (S "~"), (.str (S "~") 2447), (.int 31 2316)⟩]
noncomputable def o113_0 (P : Params) : Obj := ⟨(.type "dict"), none, (.dict (e113_0 P).toArray 14), #[]⟩
noncomputable def tree_10 (P : Params) (u : Nat → Obj) : BT := (.node (boot_o_0 P) (.node (boot_o_1 P) (.node (o3_10 P) (.node (boot_o_7 P) (.node (o15_0 P) (.node (o31_0 P) (.node (u 63) .nil .nil) (.node (o95_0 P) .nil .nil)) (.node (u 47) (.node (o79_0 P) .nil .nil) (.node (o111_0 P) .nil .nil))) (.node (o23_0 P) (.node (u 39) (.node (u 71) .nil .nil) (.node (o103_0 P) .nil .nil)) (.node (u 55) (.node (o87_0 P) .nil .nil) .nil))) (.node (o11_0 P) (.node (o19_0 P) (.node (u 35) (.node (u 67) .nil .nil) (.node (o99_0 P) .nil .nil)) (.node (u 51) (.node (o83_0 P) .nil .nil) .nil)) (.node (o27_0 P) (.node (u 43) (.node (o75_0 P) .nil .nil) (.node (o107_0 P) .nil .nil)) (.node (u 59) (.node (o91_0 P) .nil .nil) .nil)))) (.node (boot_o_5 P) (.node (boot_o_9 P) (.node (o17_0 P) (.node (u 33) (.node (u 65) .nil .nil) (.node (o97_0 P) .nil .nil)) (.node (u 49) (.node (o81_0 P) .nil .nil) (.node (o113_0 P) .nil .nil))) (.node (o25_0 P) (.node (u 41) (.node (o73_0 P) .nil .nil) (.node (o105_0 P) .nil .nil)) (.node (u 57) (.node (o89_0 P) .nil .nil) .nil))) (.node (o13_0 P) (.node (o21_0 P) (.node (u 37) (.node (u 69) .nil .nil) (.node (o101_0 P) .nil .nil)) (.node (u 53) (.node (o85_0 P) .nil .nil) .nil)) (.node (o29_0 P) (.node (u 45) (.node (o77_0 P) .nil .nil) (.node (o109_0 P) .nil .nil)) (.node (u 61) (.node (o93_0 P) .nil .nil) .nil))))) (.node (o2_1 P) (.node (boot_o_4 P) (.node (boot_o_8 P) (.node (o16_0 P) (.node (o32_0 P) (.node (u 64) .nil .nil) (.node (o96_0 P) .nil .nil)) (.node (u 48) (.node (o80_0 P) .nil .nil) (.node (o112_0 P) .nil .nil))) (.node (o24_0 P) (.node (u 40) (.node (o72_0 P) .nil .nil) (.node (o104_0 P) .nil .nil)) (.node (u 56) (.node (o88_1 P) .nil .nil) .nil))) (.node (o12_5 P) (.node (o20_0 P) (.node (u 36) (.node (u 68) .nil .nil) (.node (o100_0 P) .nil .nil)) (.node (u 52) (.node (o84_0 P) .nil .nil) .nil)) (.node (o28_0 P) (.node (u 44) (.node (o76_0 P) .nil .nil) (.node (o108_0 P) .nil .nil)) (.node (u 60) (.node (o92_0 P) .nil .nil) .nil)))) (.node (boot_o_6 P) (.node (boot_o_10 P) (.node (o18_0 P) (.node (u 34) (.node (u 66) .nil .nil) (.node (o98_0 P) .nil .nil)) (.node (u 50) (.node (o82_0 P) .nil .nil) .nil)) (.node (o26_0 P) (.node (u 42) (.node (o74_0 P) .nil .nil) (.node (o106_0 P) .nil .nil)) (.node (u 58) (.node (o90_0 P) .nil .nil) .nil))) (.node (o14_0 P) (.node (o22_0 P) (.node (u 38) (.node (u 70) .nil .nil) (.node (o102_0 P) .nil .nil)) (.node (u 54) (.node (o86_0 P) .nil .nil) .nil)) (.node (o30_0 P) (.node (u 46) (.node (o78_0 P) .nil .nil) (.node (o110_0 P) .nil .nil)) (.node (u 62) (.node (o94_0 P) .nil .nil) .nil))))))
noncomputable def S_10 (P : Params) (u : Nat → Obj) (os : OsState) : SharedT := ⟨tree_10 P u, 114, {}, #[], boot_drawn, 2463, os⟩
theorem pc_10false (w : World) (u : Nat → Obj) (os : OsState) (q : Pos) : wrM pw (w.withFollow "special-get-raises" false) Γ₁ (execs ((bdy.drop 60).take 1) env) q (S_9 (w.withFollow "special-get-raises" false).params u os) = some (.ok .next, ⟨84, 0, 84, 17⟩, S_10 (w.withFollow "special-get-raises" false).params u os) := by kernel_rfl
theorem pc_10true (w : World) (u : Nat → Obj) (os : OsState) (q : Pos) : wrM pw (w.withFollow "special-get-raises" true) Γ₁ (execs ((bdy.drop 60).take 1) env) q (S_9 (w.withFollow "special-get-raises" true).params u os) = some (.ok .next, ⟨84, 0, 84, 17⟩, S_10 (w.withFollow "special-get-raises" true).params u os) := by kernel_rfl
theorem pc_10 (w : World) (u : Nat → Obj) (os : OsState) (q : Pos) : wrM pw w Γ₁ (execs ((bdy.drop 60).take 1) env) q (S_9 w.params u os) = some (.ok .next, ⟨84, 0, 84, 17⟩, S_10 w.params u os) :=
  byRow2 "special-get-raises" (P := fun w => wrM pw w Γ₁ (execs ((bdy.drop 60).take 1) env) q (S_9 w.params u os) = some (.ok .next, ⟨84, 0, 84, 17⟩, S_10 w.params u os)) (fun w => pc_10false w u os q) (fun w => pc_10true w u os q) w
noncomputable def e3_11 (P : Params) : List DictEntry := [⟨PyData.keyHash P (S "__name__"), (.str (S "__name__") 165), (.str (S "law_wf0082_01") 2484)⟩, ⟨PyData.keyHash P (S "__doc__"), (.str (S "__doc__") 166), .none⟩, ⟨PyData.keyHash P (S "__package__"), (.str (S "__package__") 167), .none⟩, ⟨PyData.keyHash P (S "__loader__"), (.str (S "__loader__") 168), (.builtin "__main__.__loader__#opaque")⟩, ⟨PyData.keyHash P (S "__spec__"), (.str (S "__spec__") 169), .none⟩, ⟨PyData.keyHash P (S "__annotations__"), (.str (S "__annotations__") 170), (.ref 6)⟩, ⟨PyData.keyHash P (S "__builtins__"), (.str (S "__builtins__") 171), (.ref 4)⟩, ⟨PyData.keyHash P (S "__file__"), (.str (S "__file__") 173), (.str (S "/claim/cut.py") 172)⟩, ⟨PyData.keyHash P (S "__cached__"), (.str (S "__cached__") 174), .none⟩, ⟨PyData.keyHash P (S "b1_set"), (.str (S "b1_set") 248), (.ref 22)⟩, ⟨PyData.keyHash P (S "in_table_b1"), (.str (S "in_table_b1") 255), (.ref 32)⟩, ⟨PyData.keyHash P (S "b3_exceptions"), (.str (S "b3_exceptions") 2206), (.ref 33)⟩, ⟨PyData.keyHash P (S "map_table_b3"), (.str (S "map_table_b3") 2214), (.ref 78)⟩, ⟨PyData.keyHash P (S "Error"), (.str (S "Error") 2236), (.ref 88)⟩, ⟨PyData.keyHash P (S "error_reply"), (.str (S "error_reply") 2252), (.ref 101)⟩, ⟨PyData.keyHash P (S "parse257"), (.str (S "parse257") 2263), (.ref 110)⟩, ⟨PyData.keyHash P (S "ENDMARKER"), (.str (S "ENDMARKER") 2267), (.int 0 2266)⟩, ⟨PyData.keyHash P (S "LPAR"), (.str (S "LPAR") 2269), (.int 7 2268)⟩, ⟨PyData.keyHash P (S "RPAR"), (.str (S "RPAR") 2271), (.int 8 2270)⟩, ⟨PyData.keyHash P (S "LSQB"), (.str (S "LSQB") 2273), (.int 9 2272)⟩, ⟨PyData.keyHash P (S "RSQB"), (.str (S "RSQB") 2275), (.int 10 2274)⟩, ⟨PyData.keyHash P (S "COLON"), (.str (S "COLON") 2277), (.int 11 2276)⟩, ⟨PyData.keyHash P (S "COMMA"), (.str (S "COMMA") 2279), (.int 12 2278)⟩, ⟨PyData.keyHash P (S "SEMI"), (.str (S "SEMI") 2281), (.int 13 2280)⟩, ⟨PyData.keyHash P (S "PLUS"), (.str (S "PLUS") 2283), (.int 14 2282)⟩, ⟨PyData.keyHash P (S "MINUS"), (.str (S "MINUS") 2285), (.int 15 2284)⟩, ⟨PyData.keyHash P (S "STAR"), (.str (S "STAR") 2287), (.int 16 2286)⟩, ⟨PyData.keyHash P (S "SLASH"), (.str (S "SLASH") 2289), (.int 17 2288)⟩, ⟨PyData.keyHash P (S "VBAR"), (.str (S "VBAR") 2291), (.int 18 2290)⟩, ⟨PyData.keyHash P (S "AMPER"), (.str (S "AMPER") 2293), (.int 19 2292)⟩, ⟨PyData.keyHash P (S "LESS"), (.str (S "LESS") 2295), (.int 20 2294)⟩, ⟨PyData.keyHash P (S "GREATER"), (.str (S "GREATER") 2297), (.int 21 2296)⟩, ⟨PyData.keyHash P (S "EQUAL"), (.str (S "EQUAL") 2299), (.int 22 2298)⟩, ⟨PyData.keyHash P (S "DOT"), (.str (S "DOT") 2301), (.int 23 2300)⟩, ⟨PyData.keyHash P (S "PERCENT"), (.str (S "PERCENT") 2303), (.int 24 2302)⟩, ⟨PyData.keyHash P (S "LBRACE"), (.str (S "LBRACE") 2305), (.int 25 2304)⟩, ⟨PyData.keyHash P (S "RBRACE"), (.str (S "RBRACE") 2307), (.int 26 2306)⟩, ⟨PyData.keyHash P (S "EQEQUAL"), (.str (S "EQEQUAL") 2309), (.int 27 2308)⟩, ⟨PyData.keyHash P (S "NOTEQUAL"), (.str (S "NOTEQUAL") 2311), (.int 28 2310)⟩, ⟨PyData.keyHash P (S "LESSEQUAL"), (.str (S "LESSEQUAL") 2313), (.int 29 2312)⟩, ⟨PyData.keyHash P (S "GREATEREQUAL"), (.str (S "GREATEREQUAL") 2315), (.int 30 2314)⟩, ⟨PyData.keyHash P (S "TILDE"), (.str (S "TILDE") 2317), (.int 31 2316)⟩, ⟨PyData.keyHash P (S "CIRCUMFLEX"), (.str (S "CIRCUMFLEX") 2319), (.int 32 2318)⟩, ⟨PyData.keyHash P (S "LEFTSHIFT"), (.str (S "LEFTSHIFT") 2321), (.int 33 2320)⟩, ⟨PyData.keyHash P (S "RIGHTSHIFT"), (.str (S "RIGHTSHIFT") 2323), (.int 34 2322)⟩, ⟨PyData.keyHash P (S "DOUBLESTAR"), (.str (S "DOUBLESTAR") 2325), (.int 35 2324)⟩, ⟨PyData.keyHash P (S "PLUSEQUAL"), (.str (S "PLUSEQUAL") 2327), (.int 36 2326)⟩, ⟨PyData.keyHash P (S "MINEQUAL"), (.str (S "MINEQUAL") 2329), (.int 37 2328)⟩, ⟨PyData.keyHash P (S "STAREQUAL"), (.str (S "STAREQUAL") 2331), (.int 38 2330)⟩, ⟨PyData.keyHash P (S "SLASHEQUAL"), (.str (S "SLASHEQUAL") 2333), (.int 39 2332)⟩, ⟨PyData.keyHash P (S "PERCENTEQUAL"), (.str (S "PERCENTEQUAL") 2335), (.int 40 2334)⟩, ⟨PyData.keyHash P (S "AMPEREQUAL"), (.str (S "AMPEREQUAL") 2337), (.int 41 2336)⟩, ⟨PyData.keyHash P (S "VBAREQUAL"), (.str (S "VBAREQUAL") 2339), (.int 42 2338)⟩, ⟨PyData.keyHash P (S "CIRCUMFLEXEQUAL"), (.str (S "CIRCUMFLEXEQUAL") 2341), (.int 43 2340)⟩, ⟨PyData.keyHash P (S "LEFTSHIFTEQUAL"), (.str (S "LEFTSHIFTEQUAL") 2343), (.int 44 2342)⟩, ⟨PyData.keyHash P (S "RIGHTSHIFTEQUAL"), (.str (S "RIGHTSHIFTEQUAL") 2345), (.int 45 2344)⟩, ⟨PyData.keyHash P (S "DOUBLESTAREQUAL"), (.str (S "DOUBLESTAREQUAL") 2347), (.int 46 2346)⟩, ⟨PyData.keyHash P (S "DOUBLESLASH"), (.str (S "DOUBLESLASH") 2349), (.int 47 2348)⟩, ⟨PyData.keyHash P (S "DOUBLESLASHEQUAL"), (.str (S "DOUBLESLASHEQUAL") 2351), (.int 48 2350)⟩, ⟨PyData.keyHash P (S "AT"), (.str (S "AT") 2353), (.int 49 2352)⟩, ⟨PyData.keyHash P (S "ATEQUAL"), (.str (S "ATEQUAL") 2355), (.int 50 2354)⟩, ⟨PyData.keyHash P (S "RARROW"), (.str (S "RARROW") 2357), (.int 51 2356)⟩, ⟨PyData.keyHash P (S "ELLIPSIS"), (.str (S "ELLIPSIS") 2359), (.int 52 2358)⟩, ⟨PyData.keyHash P (S "COLONEQUAL"), (.str (S "COLONEQUAL") 2361), (.int 53 2360)⟩, ⟨PyData.keyHash P (S "EXCLAMATION"), (.str (S "EXCLAMATION") 2363), (.int 54 2362)⟩, ⟨PyData.keyHash P (S "NT_OFFSET"), (.str (S "NT_OFFSET") 2365), (.int 256 2364)⟩, ⟨PyData.keyHash P (S "EXACT_TOKEN_TYPES"), (.str (S "EXACT_TOKEN_TYPES") 2462), (.ref 111)⟩, ⟨PyData.keyHash P (S "ISTERMINAL"), (.str (S "ISTERMINAL") 2469), (.ref 120)⟩, ⟨PyData.keyHash P (S "ISNONTERMINAL"), (.str (S "ISNONTERMINAL") 2476), (.ref 127)⟩, ⟨PyData.keyHash P (S "ISEOF"), (.str (S "ISEOF") 2483), (.ref 134)⟩, ⟨PyData.keyHash P (S "_law_numbers"), (.str (S "_law_numbers") 2494), (.ref 141)⟩, ⟨PyData.keyHash P (S "_law_spelled"), (.str (S "_law_spelled") 2503), (.ref 148)⟩, ⟨PyData.keyHash P (S "_law_grown"), (.str (S "_law_grown") 2515), (.ref 155)⟩, ⟨PyData.keyHash P (S "_law_letter"), (.str (S "_law_letter") 2524), (.ref 162)⟩, ⟨PyData.keyHash P (S "_law_by_quotes"), (.str (S "_law_by_quotes") 2536), (.ref 169)⟩, ⟨PyData.keyHash P (S "_law_cut"), (.str (S "_law_cut") 2545), (.ref 176)⟩, ⟨PyData.keyHash P (S "_law_by_stars"), (.str (S "_law_by_stars") 2557), (.ref 183)⟩, ⟨PyData.keyHash P (S "_law_ones"), (.str (S "_law_ones") 2565), (.ref 190)⟩, ⟨PyData.keyHash P (S "_law_sums"), (.str (S "_law_sums") 2571), (.ref 195)⟩, ⟨PyData.keyHash P (S "_law_unlike"), (.str (S "_law_unlike") 2583), (.ref 202)⟩, ⟨PyData.keyHash P (S "law"), (.str (S "law") 2589), (.ref 207)⟩]
noncomputable def o3_11 (P : Params) : Obj := ⟨(.type "dict"), none, (.dict (e3_11 P).toArray 81), #[]⟩
noncomputable def o12_6 (P : Params) : Obj := ⟨.none, none, (.fields #[(.int 3 0), (.int 0 0), (.ref 31), (.int 6 0), (.int 0 0), (.ref 77), (.int 12 0), (.int 0 0), (.ref 84), (.int 14 0), (.int 0 0), (.ref 97), (.int 16 0), (.int 0 0), (.ref 109), (.int 85 0), (.int 0 0), (.ref 119), (.int 87 0), (.int 0 0), (.ref 126), (.int 89 0), (.int 0 0), (.ref 133), (.int 92 0), (.int 0 0), (.ref 140), (.int 97 0), (.int 0 0), (.ref 147), (.int 103 0), (.int 0 0), (.ref 154), (.int 114 0), (.int 0 0), (.ref 161), (.int 118 0), (.int 0 0), (.ref 168), (.int 130 0), (.int 0 0), (.ref 175), (.int 139 0), (.int 0 0), (.ref 182), (.int 151 0), (.int 0 0), (.ref 189), (.int 157 0), (.int 0 0), (.ref 194), (.int 170 0), (.int 0 0), (.ref 201), (.int 179 0), (.int 0 0), (.ref 206)]), #[]⟩
noncomputable def o114_0 (P : Params) : Obj := ⟨(.type "tuple"), none, (.seq #[] 0), #[]⟩
noncomputable def o115_0 (P : Params) : Obj := ⟨.none, none, (.fields #[]), #[]⟩
noncomputable def o116_0 (P : Params) : Obj := ⟨(.type "tuple"), none, (.seq #[(.str (S "x") 2466)] 0), #[]⟩
noncomputable def o117_0 (P : Params) : Obj := ⟨(.type "tuple"), none, (.seq #[] 0), #[]⟩
noncomputable def o118_0 (P : Params) : Obj := ⟨.none, none, (.func (fdOf 61 0 .none .none 0)), #[]⟩
noncomputable def o119_0 (P : Params) : Obj := ⟨(.type "code"), none, (.fields #[(.str (S "ISTERMINAL") 2463), (.str (S "ISTERMINAL") 2464), (.str (S "/claim/cut.py") 2465), (.int 85 0), (.int 1 0), (.int 0 0), (.int 0 0), (.int 3 0), (.ref 114), (.bool true), (.int 181 0), (.ref 115), .none, (.ref 116), (.ref 117), (.ref 118), (.int 2467 0), (.int 85 0), (.str (S "/claim/cut.py") 2468)]), #[]⟩
noncomputable def o120_0 (P : Params) : Obj := ⟨(.type "function"), none, (.func (fdOf 61 3 (.str (S "cpy313.token") 2264) (.ref 119) 0)), #[]⟩
noncomputable def o121_0 (P : Params) : Obj := ⟨(.type "tuple"), none, (.seq #[] 0), #[]⟩
noncomputable def o122_0 (P : Params) : Obj := ⟨.none, none, (.fields #[]), #[]⟩
noncomputable def o123_0 (P : Params) : Obj := ⟨(.type "tuple"), none, (.seq #[(.str (S "x") 2473)] 0), #[]⟩
noncomputable def o124_0 (P : Params) : Obj := ⟨(.type "tuple"), none, (.seq #[] 0), #[]⟩
noncomputable def o125_0 (P : Params) : Obj := ⟨.none, none, (.func (fdOf 62 0 .none .none 0)), #[]⟩
noncomputable def o126_0 (P : Params) : Obj := ⟨(.type "code"), none, (.fields #[(.str (S "ISNONTERMINAL") 2470), (.str (S "ISNONTERMINAL") 2471), (.str (S "/claim/cut.py") 2472), (.int 87 0), (.int 1 0), (.int 0 0), (.int 0 0), (.int 3 0), (.ref 121), (.bool true), (.int 181 0), (.ref 122), .none, (.ref 123), (.ref 124), (.ref 125), (.int 2474 0), (.int 87 0), (.str (S "/claim/cut.py") 2475)]), #[]⟩
noncomputable def o127_0 (P : Params) : Obj := ⟨(.type "function"), none, (.func (fdOf 62 3 (.str (S "cpy313.token") 2264) (.ref 126) 0)), #[]⟩
noncomputable def o128_0 (P : Params) : Obj := ⟨(.type "tuple"), none, (.seq #[] 0), #[]⟩
noncomputable def o129_0 (P : Params) : Obj := ⟨.none, none, (.fields #[]), #[]⟩
noncomputable def o130_0 (P : Params) : Obj := ⟨(.type "tuple"), none, (.seq #[(.str (S "x") 2480)] 0), #[]⟩
noncomputable def o131_0 (P : Params) : Obj := ⟨(.type "tuple"), none, (.seq #[] 0), #[]⟩
noncomputable def o132_0 (P : Params) : Obj := ⟨.none, none, (.func (fdOf 63 0 .none .none 0)), #[]⟩
noncomputable def o133_0 (P : Params) : Obj := ⟨(.type "code"), none, (.fields #[(.str (S "ISEOF") 2477), (.str (S "ISEOF") 2478), (.str (S "/claim/cut.py") 2479), (.int 89 0), (.int 1 0), (.int 0 0), (.int 0 0), (.int 3 0), (.ref 128), (.bool true), (.int 181 0), (.ref 129), .none, (.ref 130), (.ref 131), (.ref 132), (.int 2481 0), (.int 89 0), (.str (S "/claim/cut.py") 2482)]), #[]⟩
noncomputable def o134_0 (P : Params) : Obj := ⟨(.type "function"), none, (.func (fdOf 63 3 (.str (S "cpy313.token") 2264) (.ref 133) 0)), #[]⟩
noncomputable def o135_0 (P : Params) : Obj := ⟨(.type "tuple"), none, (.seq #[] 0), #[]⟩
noncomputable def o136_0 (P : Params) : Obj := ⟨.none, none, (.fields #[]), #[]⟩
noncomputable def o137_0 (P : Params) : Obj := ⟨(.type "tuple"), none, (.seq #[(.str (S "script") 2489), (.str (S "row") 2490), (.str (S "k") 2491)] 0), #[]⟩
noncomputable def o138_0 (P : Params) : Obj := ⟨(.type "tuple"), none, (.seq #[] 0), #[]⟩
noncomputable def o139_0 (P : Params) : Obj := ⟨.none, none, (.func (fdOf 65 0 .none .none 0)), #[]⟩
noncomputable def o140_0 (P : Params) : Obj := ⟨(.type "code"), none, (.fields #[(.str (S "_law_numbers") 2486), (.str (S "_law_numbers") 2487), (.str (S "/claim/cut.py") 2488), (.int 92 0), (.int 1 0), (.int 0 0), (.int 0 0), (.int 3 0), (.ref 135), (.bool true), (.int 181 0), (.ref 136), .none, (.ref 137), (.ref 138), (.ref 139), (.int 2492 0), (.int 92 0), (.str (S "/claim/cut.py") 2493)]), #[]⟩
noncomputable def o141_0 (P : Params) : Obj := ⟨(.type "function"), none, (.func (fdOf 65 3 (.str (S "law_wf0082_01") 2484) (.ref 140) 0)), #[]⟩
noncomputable def o142_0 (P : Params) : Obj := ⟨(.type "tuple"), none, (.seq #[] 0), #[]⟩
noncomputable def o143_0 (P : Params) : Obj := ⟨.none, none, (.fields #[]), #[]⟩
noncomputable def o144_0 (P : Params) : Obj := ⟨(.type "tuple"), none, (.seq #[(.str (S "letter") 2498), (.str (S "place") 2499), (.str (S "figure") 2500)] 0), #[]⟩
noncomputable def o145_0 (P : Params) : Obj := ⟨(.type "tuple"), none, (.seq #[] 0), #[]⟩
noncomputable def o146_0 (P : Params) : Obj := ⟨.none, none, (.func (fdOf 66 0 .none .none 0)), #[]⟩
noncomputable def o147_0 (P : Params) : Obj := ⟨(.type "code"), none, (.fields #[(.str (S "_law_spelled") 2495), (.str (S "_law_spelled") 2496), (.str (S "/claim/cut.py") 2497), (.int 97 0), (.int 3 0), (.int 0 0), (.int 0 0), (.int 3 0), (.ref 142), (.bool true), (.int 181 0), (.ref 143), .none, (.ref 144), (.ref 145), (.ref 146), (.int 2501 0), (.int 97 0), (.str (S "/claim/cut.py") 2502)]), #[]⟩
noncomputable def o148_0 (P : Params) : Obj := ⟨(.type "function"), none, (.func (fdOf 66 3 (.str (S "law_wf0082_01") 2484) (.ref 147) 0)), #[]⟩
noncomputable def o149_0 (P : Params) : Obj := ⟨(.type "tuple"), none, (.seq #[] 0), #[]⟩
noncomputable def o150_0 (P : Params) : Obj := ⟨.none, none, (.fields #[]), #[]⟩
noncomputable def o151_0 (P : Params) : Obj := ⟨(.type "tuple"), none, (.seq #[(.str (S "word") 2507), (.str (S "seed") 2508), (.str (S "rounds") 2509), (.str (S "grown") 2510), (.str (S "k") 2511), (.str (S "sign") 2512)] 0), #[]⟩
noncomputable def o152_0 (P : Params) : Obj := ⟨(.type "tuple"), none, (.seq #[] 0), #[]⟩
noncomputable def o153_0 (P : Params) : Obj := ⟨.none, none, (.func (fdOf 67 0 .none .none 0)), #[]⟩
noncomputable def o154_0 (P : Params) : Obj := ⟨(.type "code"), none, (.fields #[(.str (S "_law_grown") 2504), (.str (S "_law_grown") 2505), (.str (S "/claim/cut.py") 2506), (.int 103 0), (.int 2 0), (.int 0 0), (.int 0 0), (.int 3 0), (.ref 149), (.bool true), (.int 181 0), (.ref 150), .none, (.ref 151), (.ref 152), (.ref 153), (.int 2513 0), (.int 103 0), (.str (S "/claim/cut.py") 2514)]), #[]⟩
noncomputable def o155_0 (P : Params) : Obj := ⟨(.type "function"), none, (.func (fdOf 67 3 (.str (S "law_wf0082_01") 2484) (.ref 154) 0)), #[]⟩
noncomputable def o156_0 (P : Params) : Obj := ⟨(.type "tuple"), none, (.seq #[] 0), #[]⟩
noncomputable def o157_0 (P : Params) : Obj := ⟨.none, none, (.fields #[]), #[]⟩
noncomputable def o158_0 (P : Params) : Obj := ⟨(.type "tuple"), none, (.seq #[(.str (S "word") 2519), (.str (S "place") 2520), (.str (S "turned") 2521)] 0), #[]⟩
noncomputable def o159_0 (P : Params) : Obj := ⟨(.type "tuple"), none, (.seq #[] 0), #[]⟩
noncomputable def o160_0 (P : Params) : Obj := ⟨.none, none, (.func (fdOf 68 0 .none .none 0)), #[]⟩
noncomputable def o161_0 (P : Params) : Obj := ⟨(.type "code"), none, (.fields #[(.str (S "_law_letter") 2516), (.str (S "_law_letter") 2517), (.str (S "/claim/cut.py") 2518), (.int 114 0), (.int 3 0), (.int 0 0), (.int 0 0), (.int 3 0), (.ref 156), (.bool true), (.int 181 0), (.ref 157), .none, (.ref 158), (.ref 159), (.ref 160), (.int 2522 0), (.int 114 0), (.str (S "/claim/cut.py") 2523)]), #[]⟩
noncomputable def o162_0 (P : Params) : Obj := ⟨(.type "function"), none, (.func (fdOf 68 3 (.str (S "law_wf0082_01") 2484) (.ref 161) 0)), #[]⟩
noncomputable def o163_0 (P : Params) : Obj := ⟨(.type "tuple"), none, (.seq #[] 0), #[]⟩
noncomputable def o164_0 (P : Params) : Obj := ⟨.none, none, (.fields #[]), #[]⟩
noncomputable def o165_0 (P : Params) : Obj := ⟨(.type "tuple"), none, (.seq #[(.str (S "word") 2528), (.str (S "rounds") 2529), (.str (S "place") 2530), (.str (S "turned") 2531), (.str (S "k") 2532), (.str (S "name") 2533)] 0), #[]⟩
noncomputable def o166_0 (P : Params) : Obj := ⟨(.type "tuple"), none, (.seq #[] 0), #[]⟩
noncomputable def o167_0 (P : Params) : Obj := ⟨.none, none, (.func (fdOf 69 0 .none .none 0)), #[]⟩
noncomputable def o168_0 (P : Params) : Obj := ⟨(.type "code"), none, (.fields #[(.str (S "_law_by_quotes") 2525), (.str (S "_law_by_quotes") 2526), (.str (S "/claim/cut.py") 2527), (.int 118 0), (.int 3 0), (.int 0 0), (.int 0 0), (.int 3 0), (.ref 163), (.bool true), (.int 181 0), (.ref 164), .none, (.ref 165), (.ref 166), (.ref 167), (.int 2534 0), (.int 118 0), (.str (S "/claim/cut.py") 2535)]), #[]⟩
noncomputable def o169_0 (P : Params) : Obj := ⟨(.type "function"), none, (.func (fdOf 69 3 (.str (S "law_wf0082_01") 2484) (.ref 168) 0)), #[]⟩
noncomputable def o170_0 (P : Params) : Obj := ⟨(.type "tuple"), none, (.seq #[] 0), #[]⟩
noncomputable def o171_0 (P : Params) : Obj := ⟨.none, none, (.fields #[]), #[]⟩
noncomputable def o172_0 (P : Params) : Obj := ⟨(.type "tuple"), none, (.seq #[(.str (S "text") 2540), (.str (S "pieces") 2541), (.str (S "size") 2542)] 0), #[]⟩
noncomputable def o173_0 (P : Params) : Obj := ⟨(.type "tuple"), none, (.seq #[] 0), #[]⟩
noncomputable def o174_0 (P : Params) : Obj := ⟨.none, none, (.func (fdOf 70 0 .none .none 0)), #[]⟩
noncomputable def o175_0 (P : Params) : Obj := ⟨(.type "code"), none, (.fields #[(.str (S "_law_cut") 2537), (.str (S "_law_cut") 2538), (.str (S "/claim/cut.py") 2539), (.int 130 0), (.int 1 0), (.int 0 0), (.int 0 0), (.int 3 0), (.ref 170), (.bool true), (.int 181 0), (.ref 171), .none, (.ref 172), (.ref 173), (.ref 174), (.int 2543 0), (.int 130 0), (.str (S "/claim/cut.py") 2544)]), #[]⟩
noncomputable def o176_0 (P : Params) : Obj := ⟨(.type "function"), none, (.func (fdOf 70 3 (.str (S "law_wf0082_01") 2484) (.ref 175) 0)), #[]⟩
noncomputable def o177_0 (P : Params) : Obj := ⟨(.type "tuple"), none, (.seq #[] 0), #[]⟩
noncomputable def o178_0 (P : Params) : Obj := ⟨.none, none, (.fields #[]), #[]⟩
noncomputable def o179_0 (P : Params) : Obj := ⟨(.type "tuple"), none, (.seq #[(.str (S "word") 2549), (.str (S "rounds") 2550), (.str (S "place") 2551), (.str (S "turned") 2552), (.str (S "k") 2553), (.str (S "pieces") 2554)] 0), #[]⟩
noncomputable def o180_0 (P : Params) : Obj := ⟨(.type "tuple"), none, (.seq #[] 0), #[]⟩
noncomputable def o181_0 (P : Params) : Obj := ⟨.none, none, (.func (fdOf 71 0 .none .none 0)), #[]⟩
noncomputable def o182_0 (P : Params) : Obj := ⟨(.type "code"), none, (.fields #[(.str (S "_law_by_stars") 2546), (.str (S "_law_by_stars") 2547), (.str (S "/claim/cut.py") 2548), (.int 139 0), (.int 3 0), (.int 0 0), (.int 0 0), (.int 3 0), (.ref 177), (.bool true), (.int 181 0), (.ref 178), .none, (.ref 179), (.ref 180), (.ref 181), (.int 2555 0), (.int 139 0), (.str (S "/claim/cut.py") 2556)]), #[]⟩
noncomputable def o183_0 (P : Params) : Obj := ⟨(.type "function"), none, (.func (fdOf 71 3 (.str (S "law_wf0082_01") 2484) (.ref 182) 0)), #[]⟩
noncomputable def o184_0 (P : Params) : Obj := ⟨(.type "tuple"), none, (.seq #[] 0), #[]⟩
noncomputable def o185_0 (P : Params) : Obj := ⟨.none, none, (.fields #[]), #[]⟩
noncomputable def o186_0 (P : Params) : Obj := ⟨(.type "tuple"), none, (.seq #[(.str (S "number") 2561), (.str (S "ones") 2562)] 0), #[]⟩
noncomputable def o187_0 (P : Params) : Obj := ⟨(.type "tuple"), none, (.seq #[] 0), #[]⟩
noncomputable def o188_0 (P : Params) : Obj := ⟨.none, none, (.func (fdOf 72 0 .none .none 0)), #[]⟩
noncomputable def o189_0 (P : Params) : Obj := ⟨(.type "code"), none, (.fields #[(.str (S "_law_ones") 2558), (.str (S "_law_ones") 2559), (.str (S "/claim/cut.py") 2560), (.int 151 0), (.int 1 0), (.int 0 0), (.int 0 0), (.int 3 0), (.ref 184), (.bool true), (.int 181 0), (.ref 185), .none, (.ref 186), (.ref 187), (.ref 188), (.int 2563 0), (.int 151 0), (.str (S "/claim/cut.py") 2564)]), #[]⟩
noncomputable def o190_0 (P : Params) : Obj := ⟨(.type "function"), none, (.func (fdOf 72 3 (.str (S "law_wf0082_01") 2484) (.ref 189) 0)), #[]⟩
noncomputable def o191_0 (P : Params) : Obj := ⟨(.type "tuple"), none, (.seq #[] 0), #[]⟩
noncomputable def o192_0 (P : Params) : Obj := ⟨.none, none, (.fields #[]), #[]⟩
noncomputable def o193_0 (P : Params) : Obj := ⟨.none, none, (.func (fdOf 73 0 .none .none 0)), #[]⟩
noncomputable def o194_0 (P : Params) : Obj := ⟨(.type "code"), none, (.fields #[(.str (S "_law_sums") 2566), (.str (S "_law_sums") 2567), (.str (S "/claim/cut.py") 2568), (.int 157 0), (.int 2 0), (.int 0 0), (.int 0 0), (.int 3 0), (.ref 191), (.bool true), (.int 181 0), (.ref 192), .none, .none, .none, (.ref 193), (.int 2569 0), (.int 157 0), (.str (S "/claim/cut.py") 2570)]), #[]⟩
noncomputable def o195_0 (P : Params) : Obj := ⟨(.type "function"), none, (.func (fdOf 73 3 (.str (S "law_wf0082_01") 2484) (.ref 194) 0)), #[]⟩
noncomputable def o196_0 (P : Params) : Obj := ⟨(.type "tuple"), none, (.seq #[] 0), #[]⟩
noncomputable def o197_0 (P : Params) : Obj := ⟨.none, none, (.fields #[]), #[]⟩
noncomputable def o198_0 (P : Params) : Obj := ⟨(.type "tuple"), none, (.seq #[(.str (S "grown") 2575), (.str (S "low") 2576), (.str (S "high") 2577), (.str (S "unlike") 2578), (.str (S "one") 2579), (.str (S "more") 2580)] 0), #[]⟩
noncomputable def o199_0 (P : Params) : Obj := ⟨(.type "tuple"), none, (.seq #[] 0), #[]⟩
noncomputable def o200_0 (P : Params) : Obj := ⟨.none, none, (.func (fdOf 74 0 .none .none 0)), #[]⟩
noncomputable def o201_0 (P : Params) : Obj := ⟨(.type "code"), none, (.fields #[(.str (S "_law_unlike") 2572), (.str (S "_law_unlike") 2573), (.str (S "/claim/cut.py") 2574), (.int 170 0), (.int 1 0), (.int 0 0), (.int 0 0), (.int 3 0), (.ref 196), (.bool true), (.int 181 0), (.ref 197), .none, (.ref 198), (.ref 199), (.ref 200), (.int 2581 0), (.int 170 0), (.str (S "/claim/cut.py") 2582)]), #[]⟩
noncomputable def o202_0 (P : Params) : Obj := ⟨(.type "function"), none, (.func (fdOf 74 3 (.str (S "law_wf0082_01") 2484) (.ref 201) 0)), #[]⟩
noncomputable def o203_0 (P : Params) : Obj := ⟨(.type "tuple"), none, (.seq #[] 0), #[]⟩
noncomputable def o204_0 (P : Params) : Obj := ⟨.none, none, (.fields #[]), #[]⟩
noncomputable def o205_0 (P : Params) : Obj := ⟨.none, none, (.func (fdOf 75 0 .none .none 0)), #[]⟩
noncomputable def o206_0 (P : Params) : Obj := ⟨(.type "code"), none, (.fields #[(.str (S "law") 2584), (.str (S "law") 2585), (.str (S "/claim/cut.py") 2586), (.int 179 0), (.int 1 0), (.int 0 0), (.int 0 0), (.int 3 0), (.ref 203), (.bool true), (.int 181 0), (.ref 204), .none, .none, .none, (.ref 205), (.int 2587 0), (.int 179 0), (.str (S "/claim/cut.py") 2588)]), #[]⟩
noncomputable def o207_0 (P : Params) : Obj := ⟨(.type "function"), none, (.func (fdOf 75 3 (.str (S "law_wf0082_01") 2484) (.ref 206) 0)), #[]⟩
noncomputable def tree_11 (P : Params) (u : Nat → Obj) : BT := (.node (boot_o_0 P) (.node (boot_o_1 P) (.node (o3_11 P) (.node (boot_o_7 P) (.node (o15_0 P) (.node (o31_0 P) (.node (u 63) (.node (o127_0 P) .nil .nil) (.node (o191_0 P) .nil .nil)) (.node (o95_0 P) (.node (o159_0 P) .nil .nil) .nil)) (.node (u 47) (.node (o79_0 P) (.node (o143_0 P) .nil .nil) (.node (o207_0 P) .nil .nil)) (.node (o111_0 P) (.node (o175_0 P) .nil .nil) .nil))) (.node (o23_0 P) (.node (u 39) (.node (u 71) (.node (o135_0 P) .nil .nil) (.node (o199_0 P) .nil .nil)) (.node (o103_0 P) (.node (o167_0 P) .nil .nil) .nil)) (.node (u 55) (.node (o87_0 P) (.node (o151_0 P) .nil .nil) .nil) (.node (o119_0 P) (.node (o183_0 P) .nil .nil) .nil)))) (.node (o11_0 P) (.node (o19_0 P) (.node (u 35) (.node (u 67) (.node (o131_0 P) .nil .nil) (.node (o195_0 P) .nil .nil)) (.node (o99_0 P) (.node (o163_0 P) .nil .nil) .nil)) (.node (u 51) (.node (o83_0 P) (.node (o147_0 P) .nil .nil) .nil) (.node (o115_0 P) (.node (o179_0 P) .nil .nil) .nil))) (.node (o27_0 P) (.node (u 43) (.node (o75_0 P) (.node (o139_0 P) .nil .nil) (.node (o203_0 P) .nil .nil)) (.node (o107_0 P) (.node (o171_0 P) .nil .nil) .nil)) (.node (u 59) (.node (o91_0 P) (.node (o155_0 P) .nil .nil) .nil) (.node (o123_0 P) (.node (o187_0 P) .nil .nil) .nil))))) (.node (boot_o_5 P) (.node (boot_o_9 P) (.node (o17_0 P) (.node (u 33) (.node (u 65) (.node (o129_0 P) .nil .nil) (.node (o193_0 P) .nil .nil)) (.node (o97_0 P) (.node (o161_0 P) .nil .nil) .nil)) (.node (u 49) (.node (o81_0 P) (.node (o145_0 P) .nil .nil) .nil) (.node (o113_0 P) (.node (o177_0 P) .nil .nil) .nil))) (.node (o25_0 P) (.node (u 41) (.node (o73_0 P) (.node (o137_0 P) .nil .nil) (.node (o201_0 P) .nil .nil)) (.node (o105_0 P) (.node (o169_0 P) .nil .nil) .nil)) (.node (u 57) (.node (o89_0 P) (.node (o153_0 P) .nil .nil) .nil) (.node (o121_0 P) (.node (o185_0 P) .nil .nil) .nil)))) (.node (o13_0 P) (.node (o21_0 P) (.node (u 37) (.node (u 69) (.node (o133_0 P) .nil .nil) (.node (o197_0 P) .nil .nil)) (.node (o101_0 P) (.node (o165_0 P) .nil .nil) .nil)) (.node (u 53) (.node (o85_0 P) (.node (o149_0 P) .nil .nil) .nil) (.node (o117_0 P) (.node (o181_0 P) .nil .nil) .nil))) (.node (o29_0 P) (.node (u 45) (.node (o77_0 P) (.node (o141_0 P) .nil .nil) (.node (o205_0 P) .nil .nil)) (.node (o109_0 P) (.node (o173_0 P) .nil .nil) .nil)) (.node (u 61) (.node (o93_0 P) (.node (o157_0 P) .nil .nil) .nil) (.node (o125_0 P) (.node (o189_0 P) .nil .nil) .nil)))))) (.node (o2_1 P) (.node (boot_o_4 P) (.node (boot_o_8 P) (.node (o16_0 P) (.node (o32_0 P) (.node (u 64) (.node (o128_0 P) .nil .nil) (.node (o192_0 P) .nil .nil)) (.node (o96_0 P) (.node (o160_0 P) .nil .nil) .nil)) (.node (u 48) (.node (o80_0 P) (.node (o144_0 P) .nil .nil) .nil) (.node (o112_0 P) (.node (o176_0 P) .nil .nil) .nil))) (.node (o24_0 P) (.node (u 40) (.node (o72_0 P) (.node (o136_0 P) .nil .nil) (.node (o200_0 P) .nil .nil)) (.node (o104_0 P) (.node (o168_0 P) .nil .nil) .nil)) (.node (u 56) (.node (o88_1 P) (.node (o152_0 P) .nil .nil) .nil) (.node (o120_0 P) (.node (o184_0 P) .nil .nil) .nil)))) (.node (o12_6 P) (.node (o20_0 P) (.node (u 36) (.node (u 68) (.node (o132_0 P) .nil .nil) (.node (o196_0 P) .nil .nil)) (.node (o100_0 P) (.node (o164_0 P) .nil .nil) .nil)) (.node (u 52) (.node (o84_0 P) (.node (o148_0 P) .nil .nil) .nil) (.node (o116_0 P) (.node (o180_0 P) .nil .nil) .nil))) (.node (o28_0 P) (.node (u 44) (.node (o76_0 P) (.node (o140_0 P) .nil .nil) (.node (o204_0 P) .nil .nil)) (.node (o108_0 P) (.node (o172_0 P) .nil .nil) .nil)) (.node (u 60) (.node (o92_0 P) (.node (o156_0 P) .nil .nil) .nil) (.node (o124_0 P) (.node (o188_0 P) .nil .nil) .nil))))) (.node (boot_o_6 P) (.node (boot_o_10 P) (.node (o18_0 P) (.node (u 34) (.node (u 66) (.node (o130_0 P) .nil .nil) (.node (o194_0 P) .nil .nil)) (.node (o98_0 P) (.node (o162_0 P) .nil .nil) .nil)) (.node (u 50) (.node (o82_0 P) (.node (o146_0 P) .nil .nil) .nil) (.node (o114_0 P) (.node (o178_0 P) .nil .nil) .nil))) (.node (o26_0 P) (.node (u 42) (.node (o74_0 P) (.node (o138_0 P) .nil .nil) (.node (o202_0 P) .nil .nil)) (.node (o106_0 P) (.node (o170_0 P) .nil .nil) .nil)) (.node (u 58) (.node (o90_0 P) (.node (o154_0 P) .nil .nil) .nil) (.node (o122_0 P) (.node (o186_0 P) .nil .nil) .nil)))) (.node (o14_0 P) (.node (o22_0 P) (.node (u 38) (.node (u 70) (.node (o134_0 P) .nil .nil) (.node (o198_0 P) .nil .nil)) (.node (o102_0 P) (.node (o166_0 P) .nil .nil) .nil)) (.node (u 54) (.node (o86_0 P) (.node (o150_0 P) .nil .nil) .nil) (.node (o118_0 P) (.node (o182_0 P) .nil .nil) .nil))) (.node (o30_0 P) (.node (u 46) (.node (o78_0 P) (.node (o142_0 P) .nil .nil) (.node (o206_0 P) .nil .nil)) (.node (o110_0 P) (.node (o174_0 P) .nil .nil) .nil)) (.node (u 62) (.node (o94_0 P) (.node (o158_0 P) .nil .nil) .nil) (.node (o126_0 P) (.node (o190_0 P) .nil .nil) .nil)))))))
noncomputable def S_11 (P : Params) (u : Nat → Obj) (os : OsState) : SharedT := ⟨tree_11 P u, 208, {}, #[], boot_drawn, 2590, os⟩
theorem pc_11 (w : World) (u : Nat → Obj) (os : OsState) (q : Pos) : wrM pw w Γ₁ (execs ((bdy.drop 61).take 15) env) q (S_10 w.params u os) = some (.ok .next, ⟨179, 0, 192, 89⟩, S_11 w.params u os) := by kernel_rfl
noncomputable def nG : Nat := 11
theorem bdy_parts : bdy = ((bdy.drop 0).take 1) ++ (((bdy.drop 1).take 1) ++ (((bdy.drop 2).take 1) ++ (((bdy.drop 3).take 1) ++ (((bdy.drop 4).take 2) ++ (((bdy.drop 6).take 1) ++ (((bdy.drop 7).take 1) ++ (((bdy.drop 8).take 47) ++ (((bdy.drop 55).take 5) ++ (((bdy.drop 60).take 1) ++ (((bdy.drop 61).take 15) ++ [])))))))))) := by kernel_rfl
end P1
end
end Mine
end

section
open PySem PySem.W PyProof.Rows PySem.Calls
set_option Elab.async false
set_option linter.unusedVariables false
set_option maxRecDepth 100000
namespace Mine
open Sem (wp)
noncomputable section
namespace P1
noncomputable def b3K : List (Option Expr) := match stAt b3at with | .Assign _ (.Dict ks _ _) _ => ks | _ => []
noncomputable def b3V : List Expr := match stAt b3at with | .Assign _ (.Dict _ vs _) _ => vs | _ => []
noncomputable def L3 : List (Int × Str) := (pairsOf b3K b3V).getD []
theorem L3_is : pairsOf b3K b3V = some L3 := by kernel_rfl
theorem L3_asc : ascB L3 = true := by kernel_rfl
theorem L3_len : L3.length = 650 := by kernel_rfl
theorem st3_is : (bdy.drop 3).take 1 = [.Assign [.Name (Str.ofString "b3_exceptions") ⟨5, 0, 5, 13⟩] (.Dict b3K b3V ⟨5, 16, 5, 8704⟩) ⟨5, 0, 5, 8704⟩] := by kernel_rfl
theorem m_list (P : Params) (u : Nat → Obj) : (tree_m P u).list 72 = (tree_3 P).list 33 ++ (List.range 39).map (fun j => u (33 + j)) := by kernel_rfl
theorem l_objs (w : World) (os : OsState) : (S_3 w.params os).abs.heap.objs = ((tree_3 w.params).list 33).toArray := by kernel_rfl
theorem st3_sw : swapsWith (.Dict b3K b3V ⟨5, 16, 5, 8704⟩) (some (.Name (Str.ofString "b3_exceptions") ⟨5, 0, 5, 13⟩)) (⟨5, 0, 5, 8704⟩ : Pos).line env = pure false := by kernel_rfl
theorem l_len (P : Params) : ((tree_3 P).list 33).length = 33 := by kernel_rfl
theorem m_state (w : World) (os : OsState) (ds : List Obj) (h : ds.length = 39) : mkS (S_3 w.params os).abs ((tree_3 w.params).list 33 ++ ds) (3 * 650) = (S_m w.params (fun i => ds.getD (i - 33) default) os).abs := by
  have e : (List.range 39).map (fun j => (fun i => ds.getD (i - 33) default) (33 + j)) = ds := by
    apply List.ext_getElem
    · simp [h]
    · intro i h1 h2
      simp [Nat.add_sub_cancel_left, h2]
  show (⟨⟨((tree_3 w.params).list 33 ++ ds).toArray, _⟩, _, _, _, _⟩ : Shared) = ⟨⟨((tree_m w.params (fun i => ds.getD (i - 33) default)).list 72).toArray, _⟩, _, _, _, _⟩
  rw [m_list, e]
  rfl
theorem run_all (w : World) (os : OsState) (q : Pos) : Wp pw w Γ₁ (execs bdy env) (fun f _ s' => f = .next ∧ ∃ u : Nat → Obj, DObj (u b3lo) L3 ∧ s' = (S_11 w.params u os).abs) q (S_0 w.params os).abs := by
  rw [bdy_parts]
  refine Wp.piece (pc_1 w os _) ?_
  refine Wp.piece (pc_2 w os _) ?_
  refine Wp.piece (pc_3 w os _) ?_
  refine Wp.b3 (objs := (tree_3 w.params).list 33) st3_is L3_is L3_asc (by rw [L3_len]; (first | lia | omega)) (by rw [L3_len]; (first | lia | omega)) (by rw [l_len]; (first | lia | omega)) (l_objs w os) st3_sw fun ds o h1 h2 h3 => ?_
  rw [L3_len] at h1
  refine ⟨S_m w.params (fun i => ds.getD (i - 33) default) os, S_4 w.params (fun i => ds.getD (i - 33) default) os, _, fun q => by rw [l_len]; exact pc_4b w _ os q, by rw [L3_len]; exact m_state w os ds h1, ?_⟩
  have hu : DObj ((fun i => ds.getD (i - 33) default) b3lo) L3 := by
    show DObj (ds.getD 0 default) L3
    rw [List.getD_eq_getElem?_getD, h2]; exact h3
  generalize (fun i => ds.getD (i - 33) default) = u at hu
  refine Wp.piece (pc_5 w u os _) ?_
  refine Wp.piece (pc_6 w u os _) ?_
  refine Wp.piece (pc_7 w u os _) ?_
  refine Wp.piece (pc_8 w u os _) ?_
  refine Wp.piece (pc_9 w u os _) ?_
  refine Wp.piece (pc_10 w u os _) ?_
  refine Wp.piece (pc_11 w u os _) ?_
  exact Wp.nil ⟨rfl, u, hu, rfl⟩
noncomputable def looseL : List Str := [Str.ofString "b1_set", Str.ofString "in_table_b1", Str.ofString "b3_exceptions", Str.ofString "map_table_b3", Str.ofString "Error", Str.ofString "error_reply", Str.ofString "parse257", Str.ofString "ENDMARKER", Str.ofString "LPAR", Str.ofString "RPAR", Str.ofString "LSQB", Str.ofString "RSQB", Str.ofString "COLON", Str.ofString "COMMA", Str.ofString "SEMI", Str.ofString "PLUS", Str.ofString "MINUS", Str.ofString "STAR", Str.ofString "SLASH", Str.ofString "VBAR", Str.ofString "AMPER", Str.ofString "LESS", Str.ofString "GREATER", Str.ofString "EQUAL", Str.ofString "DOT", Str.ofString "PERCENT", Str.ofString "LBRACE", Str.ofString "RBRACE", Str.ofString "EQEQUAL", Str.ofString "NOTEQUAL", Str.ofString "LESSEQUAL", Str.ofString "GREATEREQUAL", Str.ofString "TILDE", Str.ofString "CIRCUMFLEX", Str.ofString "LEFTSHIFT", Str.ofString "RIGHTSHIFT", Str.ofString "DOUBLESTAR", Str.ofString "PLUSEQUAL", Str.ofString "MINEQUAL", Str.ofString "STAREQUAL", Str.ofString "SLASHEQUAL", Str.ofString "PERCENTEQUAL", Str.ofString "AMPEREQUAL", Str.ofString "VBAREQUAL", Str.ofString "CIRCUMFLEXEQUAL", Str.ofString "LEFTSHIFTEQUAL", Str.ofString "RIGHTSHIFTEQUAL", Str.ofString "DOUBLESTAREQUAL", Str.ofString "DOUBLESLASH", Str.ofString "DOUBLESLASHEQUAL", Str.ofString "AT", Str.ofString "ATEQUAL", Str.ofString "RARROW", Str.ofString "ELLIPSIS", Str.ofString "COLONEQUAL", Str.ofString "EXCLAMATION", Str.ofString "NT_OFFSET", Str.ofString "EXACT_TOKEN_TYPES", Str.ofString "ISTERMINAL", Str.ofString "ISNONTERMINAL", Str.ofString "ISEOF", Str.ofString "_law_numbers", Str.ofString "_law_spelled", Str.ofString "_law_grown", Str.ofString "_law_letter", Str.ofString "_law_by_quotes", Str.ofString "_law_cut", Str.ofString "_law_by_stars", Str.ofString "_law_ones", Str.ofString "_law_sums", Str.ofString "_law_unlike"]
noncomputable def lawAt : Nat := 75
noncomputable abbrev Sf := S_11
end P1
end
end Mine
end

section
open PySem PySem.W PyProof.Rows PySem.Calls
set_option Elab.async false
set_option linter.unusedVariables false
set_option maxRecDepth 100000
namespace Mine
open Sem (wp)
noncomputable section
namespace P1
noncomputable def qv : Program := { pw with main := { pw.main with body := [stAt lawAt] } }
theorem look1 (w : World) (u : Nat → Obj) (os : OsState) : (staticsOk (importedModules pw.main.body) (boot_heap w.params) (Sf w.params u os).abs.heap && namesBound pw (Sf w.params u os).abs.heap && gensDone (Sf w.params u os).abs && laidKept (boot_heap w.params) (Sf w.params u os).abs.heap) = true := by kernel_rfl
theorem look2 (w : World) (u : Nat → Obj) (os : OsState) : openSeen qv looseL (importedModules pw.main.body) (fun _ => true) true (Sf w.params u os).abs = openGood qv looseL := by kernel_rfl
theorem chains : chainsOk qv = true := by kernel_rfl
theorem sb_abs (w : World) (os : OsState) : (S_b w.params os).abs = ⟨boot_heap w.params, Array.mk [], boot_drawn, boot_toks, os⟩ := by kernel_rfl
theorem open_pw : opening pw = plainProg pw.main.scope.names := by kernel_rfl
theorem fence_pw (s : Shared) : fenceModules? pw s = some s := by kernel_rfl
theorem hann : hasAnns (behindTheImports pw) = false := by kernel_rfl
theorem hdoc : docOf (behindTheImports pw) = none := by kernel_rfl
theorem boot_ns (w : World) : (boot_heap w.params).isNs mainGlobals = true := by kernel_rfl
theorem boot_size (P : Params) : (boot_heap P).objs.size = 11 := by kernel_rfl
theorem old0 (P : Params) (u : Nat → Obj) (os : OsState) : (Sf P u os).abs.heap.get? 0 = (boot_heap P).get? 0 := by kernel_rfl
theorem old1 (P : Params) (u : Nat → Obj) (os : OsState) : (Sf P u os).abs.heap.get? 1 = (boot_heap P).get? 1 := by kernel_rfl
theorem old4 (P : Params) (u : Nat → Obj) (os : OsState) : (Sf P u os).abs.heap.get? 4 = (boot_heap P).get? 4 := by kernel_rfl
theorem old5 (P : Params) (u : Nat → Obj) (os : OsState) : (Sf P u os).abs.heap.get? 5 = (boot_heap P).get? 5 := by kernel_rfl
theorem old6 (P : Params) (u : Nat → Obj) (os : OsState) : (Sf P u os).abs.heap.get? 6 = (boot_heap P).get? 6 := by kernel_rfl
theorem old7 (P : Params) (u : Nat → Obj) (os : OsState) : (Sf P u os).abs.heap.get? 7 = (boot_heap P).get? 7 := by kernel_rfl
theorem old8 (P : Params) (u : Nat → Obj) (os : OsState) : (Sf P u os).abs.heap.get? 8 = (boot_heap P).get? 8 := by kernel_rfl
theorem old9 (P : Params) (u : Nat → Obj) (os : OsState) : (Sf P u os).abs.heap.get? 9 = (boot_heap P).get? 9 := by kernel_rfl
theorem old10 (P : Params) (u : Nat → Obj) (os : OsState) : (Sf P u os).abs.heap.get? 10 = (boot_heap P).get? 10 := by kernel_rfl
theorem old (P : Params) (u : Nat → Obj) (os : OsState) (b : Addr) (o : Obj) (h : (boot_heap P).get? b = some o) (hn : ¬ theTopsOwn (boot_heap P) b) : (Sf P u os).abs.heap.get? b = some o := by
  have hl : b < 11 := by rw [← boot_size P]; exact Heap.lt_size h
  have h3 : b ≠ 3 := fun e => hn (.inl e)
  have h2 : b ≠ 2 := fun e => hn (.inr (.inl e))
  match b, hl, h3, h2, h with
  | 0, _, _, _, h => rw [old0]; exact h
  | 1, _, _, _, h => rw [old1]; exact h
  | 2, _, _, h2, _ => exact absurd rfl h2
  | 3, _, h3, _, _ => exact absurd rfl h3
  | 4, _, _, _, h => rw [old4]; exact h
  | 5, _, _, _, h => rw [old5]; exact h
  | 6, _, _, _, h => rw [old6]; exact h
  | 7, _, _, _, h => rw [old7]; exact h
  | 8, _, _, _, h => rw [old8]; exact h
  | 9, _, _, _, h => rw [old9]; exact h
  | 10, _, _, _, h => rw [old10]; exact h
  | n + 11, hl, _, _, _ => exact absurd hl (Nat.not_lt.mpr (Nat.le_add_left 11 n))

/-- the heap behind the top -/
noncomputable def HF (P : Params) (u : Nat → Obj) : Heap := (Sf P u {}).abs.heap
noncomputable def YP (w : World) (h : Heap) : Prop := ∃ u : Nat → Obj, DObj (u b3lo) L3 ∧ ∀ b o, (HF w.params u).get? b = some o → h.get? b = some o
theorem behind (w : World) : Behind pw qv looseL YP w := by
  refine behind_of (N := 600) (Good := fun os s' => ∃ u : Nat → Obj, DObj (u b3lo) L3 ∧ s' = (Sf w.params u os).abs) w chains
    (boot_open open_pw rfl fence_pw w) (boot_ns w) (fun os => ?_) fun os s₁ hg => ?_
  · rw [← sb_abs]
    exact topWp (pre w os) hann hdoc (run_all w os _).out
  · obtain ⟨u, hu, rfl⟩ := hg
    exact ⟨rfl, rfl, ⟨u, hu, fun b o h => h⟩, look1 w u os, look2 w u os, old w.params u os⟩
end P1
end
end Mine
end

section
namespace Mine

/-- values: a list that may change is a number into the store -/
inductive V where
  | none | bool (b : Bool) | int (i : Int) | str (l : List Nat) | tup (l : List V) | lst (n : Nat) | ro (l : List Int) | rng (a c : Int) (n : Nat)
  deriving Inhabited
noncomputable abbrev Store := List (List V)

inductive Uop where
  | neg | range | len | ord | chr | sum | sorted | list | isTup | inB1 | getB3 | inTok | tok | lower | dbl | pop | dict (l : List (Int × List Nat))
inductive Bop where
  | add | sub | mul | fdiv | mod | pow | min | down | eq | ne | lt | le | gt | ge | is | isnot | inn | notin | append | count | index | join | item | sliceF | sliceT
mutual
inductive Ex where
  | none | bool (b : Bool) | int (i : Int) | str (l : List Nat) | var (i : Nat)
  | un (o : Uop) (a : Ex) | bin (o : Bop) (a b : Ex) | slice (a lo hi : Ex)
  | not (a : Ex) | and (a b : Ex) | or (a b : Ex) | ite (c a b : Ex)
  | list (es : Exs) | tup (es : Exs) | call (f : Nat) (es : Exs)
  | comp (src : Ex) (elt : Ex) | compIf (src : Ex) (cond elt : Ex)
inductive Exs where
  | nil | cons (e : Ex) (r : Exs)
end
mutual
inductive St where
  | expr (e : Ex) | set (i : Nat) (e : Ex) | unpack (is : List Nat) (e : Ex) | setItem (i : Nat) (k e : Ex) | augItem (i : Nat) (k : Ex) (o : Bop) (e : Ex) | aug (i : Nat) (o : Bop) (e : Ex)
  | ite (c : Ex) (a b : Sts) | while (c : Ex) (b : Sts) | forIn (i : Nat) (e : Ex) (b : Sts)
  | ret (e : Ex) | brk | fail
inductive Sts where
  | nil | cons (s : St) (r : Sts)
end
inductive Fl where
  | next | brk | ret (v : V)

noncomputable def LIM : Nat := 16777216

/-- the world's tables, as far as the programs use them -/
structure Tabs where
  b1 : List Int
  b3 : List (Int × List Nat)
  tok : List (List Nat × Int)

/-- equality of plain values; none: not told -/
noncomputable def base1 : V → V → Option Bool
  | .none, y => match y with
    | .none => some true
    | _ => none
  | .bool a, y => match y with
    | .bool b => some (a == b)
    | _ => none
  | .int a, y => match y with
    | .int b => some (a == b)
    | _ => none
  | .str a, y => match y with
    | .str b => some (a == b)
    | _ => none
  | _, _ => none
@[simp] theorem base1_none : base1 .none .none = some true := rfl
@[simp] theorem base1_bool (a b : Bool) : base1 (.bool a) (.bool b) = some (a == b) := rfl
@[simp] theorem base1_int (a b : Int) : base1 (.int a) (.int b) = some (a == b) := rfl
@[simp] theorem base1_str (a b : List Nat) : base1 (.str a) (.str b) = some (a == b) := rfl
noncomputable def eqqs (f : V → V → Option Bool) : List V → List V → Option Bool
  | [], ys => match ys with
    | [] => some true
    | _ => none
  | x :: xs, ys => match ys with
    | [] => none
    | y :: ys => match f x y with
      | some true => eqqs f xs ys
      | _ => none
@[simp] theorem eqqs_nil (f : V → V → Option Bool) : eqqs f [] [] = some true := rfl
@[simp] theorem eqqs_cons (f : V → V → Option Bool) (x y : V) (xs ys : List V) : eqqs f (x :: xs) (y :: ys) = (match f x y with | some true => eqqs f xs ys | _ => none) := rfl
/-- equality of values that carry no list; none: not told (of tuples only «equal» is told) -/
noncomputable def V.eqq : Nat → V → V → Option Bool
  | 0, x, y => base1 x y
  | n + 1, x, y => match x with
    | .tup a => match y with
      | .tup b => eqqs (V.eqq n) a b
      | _ => Option.none
    | x => base1 x y
@[simp] theorem eqq_int (n : Nat) (a b : Int) : V.eqq n (.int a) (.int b) = some (a == b) := by cases n <;> rfl
@[simp] theorem eqq_str (n : Nat) (a b : List Nat) : V.eqq n (.str a) (.str b) = some (a == b) := by cases n <;> rfl
@[simp] theorem eqq_bool (n : Nat) (a b : Bool) : V.eqq n (.bool a) (.bool b) = some (a == b) := by cases n <;> rfl
@[simp] theorem eqq_none (n : Nat) : V.eqq n .none .none = some true := by cases n <;> rfl
@[simp] theorem eqq_tup (n : Nat) (a b : List V) : V.eqq (n + 1) (.tup a) (.tup b) = eqqs (V.eqq n) a b := rfl
/-- ints and strs -/
noncomputable def flat1 : V → V → Option Bool
  | .int a, y => match y with
    | .int b => some (a == b)
    | _ => none
  | .str a, y => match y with
    | .str b => some (a == b)
    | _ => none
  | _, _ => none
@[simp] theorem flat1_int (a b : Int) : flat1 (.int a) (.int b) = some (a == b) := rfl
@[simp] theorem flat1_str (a b : List Nat) : flat1 (.str a) (.str b) = some (a == b) := rfl
theorem flat1_inv {x y : V} {r : Bool} (h : flat1 x y = some r) : (∃ a b, x = .int a ∧ y = .int b ∧ r = (a == b)) ∨ (∃ a b, x = .str a ∧ y = .str b ∧ r = (a == b)) := by
  unfold flat1 at h
  split at h
  · split at h
    · exact .inl ⟨_, _, rfl, rfl, (Option.some.inj h).symm⟩
    · cases h
  · split at h
    · exact .inr ⟨_, _, rfl, rfl, (Option.some.inj h).symm⟩
    · cases h
  · cases h
/-- ints and strs, one by one -/
noncomputable def eqFlat : List V → List V → Option Bool
  | [], ys => match ys with
    | [] => some true
    | _ => none
  | x :: xs, ys => match ys with
    | [] => none
    | y :: ys => match flat1 x y with
      | some a => (eqFlat xs ys).map fun r => a && r
      | none => none
@[simp] theorem eqFlat_nil : eqFlat [] [] = some true := rfl
@[simp] theorem eqFlat_cons (x y : V) (xs ys : List V) : eqFlat (x :: xs) (y :: ys) = (match flat1 x y with | some a => (eqFlat xs ys).map fun r => a && r | none => none) := rfl
theorem eqFlat_inv {x y : V} {xs ys : List V} {b : Bool} (h : eqFlat (x :: xs) (y :: ys) = some b) : ∃ a c, flat1 x y = some a ∧ eqFlat xs ys = some c ∧ b = (a && c) := by
  rw [eqFlat_cons] at h
  split at h
  · rename_i a e
    cases hc : eqFlat xs ys with
    | none => rw [hc] at h; cases h
    | some c => rw [hc] at h; exact ⟨a, c, e, rfl, (Option.some.inj h).symm⟩
  · cases h
noncomputable def eqList (xs ys : List V) : Option Bool := if xs.length = ys.length then eqFlat xs ys else some false
noncomputable def eqV (σ : Store) (x y : V) : Option Bool := match x with
  | .lst m => match y with
    | .lst n => match σ[m]? with
      | some xs => match σ[n]? with
        | some ys => eqList xs ys
        | none => none
      | none => none
    | _ => none
  | x => V.eqq 60 x y
@[simp] theorem eqV_int (σ : Store) (a b : Int) : eqV σ (.int a) (.int b) = some (a == b) := rfl
@[simp] theorem eqV_str (σ : Store) (a b : List Nat) : eqV σ (.str a) (.str b) = some (a == b) := rfl
@[simp] theorem eqV_bool (σ : Store) (a b : Bool) : eqV σ (.bool a) (.bool b) = some (a == b) := rfl
@[simp] theorem eqV_lst (σ : Store) (m n : Nat) : eqV σ (.lst m) (.lst n) = (match σ[m]? with | some xs => (match σ[n]? with | some ys => eqList xs ys | none => none) | none => none) := rfl
theorem eqV_tup (σ : Store) (a b : List V) : eqV σ (.tup a) (.tup b) = V.eqq 60 (.tup a) (.tup b) := rfl

/-- is the value one of the items (ints or strs)? -/
noncomputable def inFlat (x : V) : List V → Option Bool
  | [] => some false
  | y :: ys => match flat1 y x with
    | some a => (inFlat x ys).map fun r => a || r
    | none => none
theorem inFlat_inv {x y : V} {ys : List V} {b : Bool} (h : inFlat x (y :: ys) = some b) : ∃ a c, flat1 y x = some a ∧ inFlat x ys = some c ∧ b = (a || c) := by
  unfold inFlat at h
  split at h
  · rename_i a e
    cases hc : inFlat x ys with
    | none => rw [hc] at h; cases h
    | some c => rw [hc] at h; exact ⟨a, c, e, rfl, (Option.some.inj h).symm⟩
  · cases h
/-- a list among lists -/
noncomputable def inLists (σ : Store) (xs : List V) : List V → Option Bool
  | [] => some false
  | y :: ys => match y with
    | .lst n => match σ[n]? with
      | some zs => match eqList zs xs with
        | some b => (inLists σ xs ys).map fun r => b || r
        | none => none
      | none => none
    | _ => none
theorem inLists_inv {σ : Store} {xs : List V} {y : V} {ys : List V} {b : Bool} (h : inLists σ xs (y :: ys) = some b) : ∃ n zs a c, y = .lst n ∧ σ[n]? = some zs ∧ eqList zs xs = some a ∧ inLists σ xs ys = some c ∧ b = (a || c) := by
  unfold inLists at h
  split at h
  · split at h
    · rename_i zs e
      split at h
      · rename_i a e2
        cases hc : inLists σ xs ys with
        | none => rw [hc] at h; cases h
        | some c => rw [hc] at h; exact ⟨_, zs, a, c, rfl, e, e2, rfl, (Option.some.inj h).symm⟩
      · cases h
    · cases h
  · cases h
noncomputable def inV (σ : Store) (x y : V) : Option Bool := match y with
  | .lst n => match σ[n]? with
    | some xs => inFlat x xs
    | none => none
  | .tup ys => match x with
    | .lst m => match σ[m]? with
      | some xs => inLists σ xs ys
      | none => none
    | x => inFlat x ys
  | _ => none
@[simp] theorem inV_lst (σ : Store) (x : V) (n : Nat) : inV σ x (.lst n) = (match σ[n]? with | some xs => inFlat x xs | none => none) := rfl
@[simp] theorem inV_lst_tup (σ : Store) (m : Nat) (ys : List V) : inV σ (.lst m) (.tup ys) = (match σ[m]? with | some xs => inLists σ xs ys | none => none) := rfl
@[simp] theorem inV_int_tup (σ : Store) (a : Int) (ys : List V) : inV σ (.int a) (.tup ys) = inFlat (.int a) ys := rfl
@[simp] theorem inV_str_tup (σ : Store) (a : List Nat) (ys : List V) : inV σ (.str a) (.tup ys) = inFlat (.str a) ys := rfl

/-- a place, from the end where it is below nought -/
noncomputable def place (i : Int) (n : Nat) : Option Nat := if 0 ≤ i then (if i.toNat < n then some i.toNat else none) else if (-i).toNat ≤ n then some (n - (-i).toNat) else none
noncomputable def clip (i : Int) (n : Nat) : Nat := if 0 ≤ i then Nat.min i.toNat n else n - (-i).toNat
noncomputable def cut {α : Type} (l : List α) (a b : Nat) : List α := (l.drop a).take (b - a)

noncomputable def isIntB (m : Int) : V → Bool
  | .int a => decide (a.natAbs < m)
  | _ => false
noncomputable def intOf : V → Int
  | .int a => a
  | _ => 0
noncomputable def strOf : V → List Nat
  | .str l => l
  | _ => []
noncomputable def isStr : V → Bool
  | .str _ => true
  | _ => false
theorem isIntB_inv {m : Int} {x : V} (h : isIntB m x = true) : ∃ a, x = .int a := by
  unfold isIntB at h
  split at h
  · exact ⟨_, rfl⟩
  · cases h
theorem isStr_inv {x : V} (h : isStr x = true) : ∃ l, x = .str l := by
  unfold isStr at h
  split at h
  · exact ⟨_, rfl⟩
  · cases h
theorem all_cons {α : Type} {p : α → Bool} {x : α} {xs : List α} (h : (x :: xs).all p = true) : p x = true ∧ xs.all p = true := by
  rw [List.all_cons, Bool.and_eq_true] at h; exact h
noncomputable def lexLt : List Nat → List Nat → Bool
  | [], [] => false
  | [], _ :: _ => true
  | _ :: _, [] => false
  | a :: x, b :: y => if a < b then true else if a = b then lexLt x y else false
noncomputable def insLex (x : List Nat) : List (List Nat) → List (List Nat)
  | [] => [x]
  | y :: ys => if lexLt x y then x :: y :: ys else y :: insLex x ys
/-- an own sort of texts, none twice -/
noncomputable def sortLex : List (List Nat) → List (List Nat)
  | [] => []
  | x :: xs => insLex x (sortLex xs)
noncomputable def joinL (sep : List Nat) : List (List Nat) → List Nat
  | [] => []
  | [x] => x
  | x :: y :: r => x ++ sep ++ joinL sep (y :: r)
noncomputable def lowA (c : Nat) : Nat := if 65 ≤ c ∧ c ≤ 90 then c + 32 else c
noncomputable def dblQ : List Nat → List Nat
  | [] => []
  | c :: r => if c = 34 then 34 :: 34 :: dblQ r else c :: dblQ r

variable (T : Tabs)
/-- what is done to an int, a text, a list of the store -/
noncomputable def uInt (f : Int → Option (V × Store)) : V → Option (V × Store)
  | .int a => f a
  | _ => none
noncomputable def uStr (f : List Nat → Option (V × Store)) : V → Option (V × Store)
  | .str l => f l
  | _ => none
noncomputable def uLst (σ : Store) (f : Nat → List V → Option (V × Store)) : V → Option (V × Store)
  | .lst n => match σ[n]? with
    | some xs => f n xs
    | none => none
  | _ => none
noncomputable def bInt (f : Int → Int → Option (V × Store)) (x y : V) : Option (V × Store) := uInt (fun a => uInt (f a) y) x
noncomputable def bStr (f : List Nat → List Nat → Option (V × Store)) (x y : V) : Option (V × Store) := uStr (fun a => uStr (f a) y) x
noncomputable def bLst (σ : Store) (f : List V → List V → Option (V × Store)) (x y : V) : Option (V × Store) := uLst σ (fun _ xs => uLst σ (fun _ ys => f xs ys) y) x
theorem noSome {α : Type} {a : α} {p : Prop} (h : (none : Option α) = some a) : p := nomatch h
/-- one, or else the other -/
noncomputable def orE {α : Type} : Option α → Option α → Option α
  | some a, _ => some a
  | none, b => b
@[simp] theorem orE_some {α : Type} (a : α) (b : Option α) : orE (some a) b = some a := rfl
@[simp] theorem orE_none {α : Type} (b : Option α) : orE none b = b := rfl
theorem orE_inv {α : Type} {a b : Option α} {r : α} (h : orE a b = some r) : a = some r ∨ b = some r := by
  cases a with
  | none => exact .inr h
  | some x => exact .inl h
section
variable (σ : Store) (f : Int → Option (V × Store)) (g : List Nat → Option (V × Store)) (k : Nat → List V → Option (V × Store))
@[simp] theorem uInt_int (a : Int) : uInt f (.int a) = f a := rfl
@[simp] theorem uInt_str (l : List Nat) : uInt f (.str l) = none := rfl
@[simp] theorem uInt_lst (n : Nat) : uInt f (.lst n) = none := rfl
@[simp] theorem uInt_tup (l : List V) : uInt f (.tup l) = none := rfl
@[simp] theorem uStr_str (l : List Nat) : uStr g (.str l) = g l := rfl
@[simp] theorem uStr_int (a : Int) : uStr g (.int a) = none := rfl
@[simp] theorem uStr_lst (n : Nat) : uStr g (.lst n) = none := rfl
@[simp] theorem uLst_lst (n : Nat) : uLst σ k (.lst n) = (match σ[n]? with | some xs => k n xs | none => none) := rfl
@[simp] theorem uLst_int (a : Int) : uLst σ k (.int a) = none := rfl
@[simp] theorem uLst_str (l : List Nat) : uLst σ k (.str l) = none := rfl
@[simp] theorem bInt_int (f : Int → Int → Option (V × Store)) (a b : Int) : bInt f (.int a) (.int b) = f a b := rfl
@[simp] theorem bInt_str (f : Int → Int → Option (V × Store)) (l : List Nat) (y : V) : bInt f (.str l) y = none := rfl
@[simp] theorem bInt_lst (f : Int → Int → Option (V × Store)) (n : Nat) (y : V) : bInt f (.lst n) y = none := rfl
@[simp] theorem bStr_str (f : List Nat → List Nat → Option (V × Store)) (a b : List Nat) : bStr f (.str a) (.str b) = f a b := rfl
@[simp] theorem bStr_int (f : List Nat → List Nat → Option (V × Store)) (a : Int) (y : V) : bStr f (.int a) y = none := rfl
@[simp] theorem bStr_lst (f : List Nat → List Nat → Option (V × Store)) (n : Nat) (y : V) : bStr f (.lst n) y = none := rfl
@[simp] theorem bLst_lst (f : List V → List V → Option (V × Store)) (m n : Nat) : bLst σ f (.lst m) (.lst n) = (match σ[m]? with | some xs => (match σ[n]? with | some ys => f xs ys | none => none) | none => none) := rfl
@[simp] theorem bLst_int (f : List V → List V → Option (V × Store)) (a : Int) (y : V) : bLst σ f (.int a) y = none := rfl
@[simp] theorem bLst_str (f : List V → List V → Option (V × Store)) (a : List Nat) (y : V) : bLst σ f (.str a) y = none := rfl
variable {σ f g k}
inductive IsI (f : Int → Option (V × Store)) (v : V) (r : V × Store) : Prop where
  | mk (a : Int) : v = .int a → f a = some r → IsI f v r
inductive IsS (f : List Nat → Option (V × Store)) (v : V) (r : V × Store) : Prop where
  | mk (a : List Nat) : v = .str a → f a = some r → IsS f v r
inductive IsL (σ : Store) (f : Nat → List V → Option (V × Store)) (v : V) (r : V × Store) : Prop where
  | mk (n : Nat) (xs : List V) : v = .lst n → σ[n]? = some xs → f n xs = some r → IsL σ f v r
inductive IsII (f : Int → Int → Option (V × Store)) (x y : V) (r : V × Store) : Prop where
  | mk (a b : Int) : x = .int a → y = .int b → f a b = some r → IsII f x y r
inductive IsSS (f : List Nat → List Nat → Option (V × Store)) (x y : V) (r : V × Store) : Prop where
  | mk (a b : List Nat) : x = .str a → y = .str b → f a b = some r → IsSS f x y r
inductive IsLL (σ : Store) (f : List V → List V → Option (V × Store)) (x y : V) (r : V × Store) : Prop where
  | mk (m : Nat) (xs : List V) (n : Nat) (ys : List V) : x = .lst m → σ[m]? = some xs → y = .lst n → σ[n]? = some ys → f xs ys = some r → IsLL σ f x y r
inductive IsIt {α : Type} (l : List α) (i : Int) (f : α → V) (σ : Store) (v : V) (σ' : Store) : Prop where
  | mk (k : Nat) (c : α) : place i l.length = some k → l[k]? = some c → v = f c → σ' = σ → IsIt l i f σ v σ'
theorem uInt_inv {v : V} {r : V × Store} (h : uInt f v = some r) : IsI f v r := by
  unfold uInt at h
  split at h
  · exact ⟨_, rfl, h⟩
  · first | exact noSome h | cases h
theorem uStr_inv {v : V} {r : V × Store} (h : uStr g v = some r) : IsS g v r := by
  unfold uStr at h
  split at h
  · exact ⟨_, rfl, h⟩
  · first | exact noSome h | cases h
theorem uLst_inv {v : V} {r : V × Store} (h : uLst σ k v = some r) : IsL σ k v r := by
  unfold uLst at h
  split at h
  · split at h
    · rename_i xs e; exact ⟨_, xs, rfl, e, h⟩
    · first | exact noSome h | cases h
  · first | exact noSome h | cases h
theorem bInt_inv {f : Int → Int → Option (V × Store)} {x y : V} {r : V × Store} (h : bInt f x y = some r) : IsII f x y r :=
  let ⟨a, e, h⟩ := uInt_inv h
  let ⟨b, e', h⟩ := uInt_inv h
  ⟨a, b, e, e', h⟩
theorem bStr_inv {f : List Nat → List Nat → Option (V × Store)} {x y : V} {r : V × Store} (h : bStr f x y = some r) : IsSS f x y r :=
  let ⟨a, e, h⟩ := uStr_inv h
  let ⟨b, e', h⟩ := uStr_inv h
  ⟨a, b, e, e', h⟩
theorem bLst_inv {f : List V → List V → Option (V × Store)} {x y : V} {r : V × Store} (h : bLst σ f x y = some r) : IsLL σ f x y r :=
  let ⟨m, xs, e, e2, h⟩ := uLst_inv h
  let ⟨n, ys, e', e2', h⟩ := uLst_inv h
  ⟨m, xs, n, ys, e, e2, e', e2', h⟩
end
/-- an item, if there is one -/
noncomputable def itemOf {α : Type} (l : List α) (i : Int) (f : α → V) (σ : Store) : Option (V × Store) := match place i l.length with
  | some k => match l[k]? with
    | some c => some (f c, σ)
    | none => none
  | none => none
theorem itemOf_inv {α : Type} {l : List α} {i : Int} {f : α → V} {σ : Store} {v : V} {σ' : Store} (h : itemOf l i f σ = some (v, σ')) : IsIt l i f σ v σ' := by
  unfold itemOf at h
  split at h
  · rename_i k hk
    split at h
    · rename_i c hc; cases h; exact ⟨k, c, hk, hc, rfl, rfl⟩
    · first | exact noSome h | cases h
  · first | exact noSome h | cases h

noncomputable def uLen (σ : Store) : V → Option (V × Store)
  | .str l => some (.int l.length, σ)
  | .tup l => some (.int l.length, σ)
  | .ro l => some (.int l.length, σ)
  | v => uLst σ (fun _ xs => some (.int xs.length, σ)) v
@[simp] theorem uLen_str (σ : Store) (l : List Nat) : uLen σ (.str l) = some (.int l.length, σ) := rfl
@[simp] theorem uLen_tup (σ : Store) (l : List V) : uLen σ (.tup l) = some (.int l.length, σ) := rfl
@[simp] theorem uLen_ro (σ : Store) (l : List Int) : uLen σ (.ro l) = some (.int l.length, σ) := rfl
@[simp] theorem uLen_lst (σ : Store) (n : Nat) : uLen σ (.lst n) = (match σ[n]? with | some xs => some (.int xs.length, σ) | none => none) := rfl
noncomputable def isTupV : V → Option Bool
  | .tup _ => some true
  | .int _ => some false
  | _ => none
@[simp] theorem isTupV_tup (l : List V) : isTupV (.tup l) = some true := rfl
@[simp] theorem isTupV_int (i : Int) : isTupV (.int i) = some false := rfl
noncomputable def one : List Nat → Option Nat
  | [c] => some c
  | _ => none
@[simp] theorem one_one (c : Nat) : one [c] = some c := rfl
noncomputable def optV : Option (List Nat) → V
  | some l => .str l
  | none => .none
@[simp] theorem optV_some (l : List Nat) : optV (some l) = .str l := rfl
@[simp] theorem optV_none : optV Option.none = .none := rfl
noncomputable def evU (o : Uop) (v : V) (σ : Store) : Option (V × Store) := match o with
  | .neg => uInt (fun a => some (.int (-a), σ)) v
  | .range => uInt (fun n => if -1000000 ≤ n ∧ n ≤ 1000000 then some (.rng 0 1 n.toNat, σ) else none) v
  | .len => uLen σ v
  | .ord => uStr (fun l => (one l).map fun (c : Nat) => (V.int (c : Int), σ)) v
  | .chr => uInt (fun i => if 0 ≤ i ∧ i < 1114112 then some (.str [i.toNat], σ) else none) v
  | .sum => uLst σ (fun _ xs => if xs.all (isIntB 1000000000) ∧ xs.length ≤ 1000 then some (.int (xs.map intOf).sum, σ) else none) v
  | .sorted => uLst σ (fun _ xs => if xs.all isStr ∧ xs.length ≤ 10 then some (.lst σ.length, σ ++ [(sortLex (xs.map strOf)).map .str]) else none) v
  | .list => uLst σ (fun _ xs => some (.lst σ.length, σ ++ [xs])) v
  | .isTup => (isTupV v).map fun b => (.bool b, σ)
  | .inB1 => uInt (fun c => some (.bool (T.b1.contains c), σ)) v
  | .getB3 => uInt (fun c => some (optV (T.b3.lookup c), σ)) v
  | .inTok => uStr (fun l => some (.bool ((T.tok.lookup l).isSome), σ)) v
  | .tok => uStr (fun l => (T.tok.lookup l).map fun i => (.int i, σ)) v
  | .lower => uStr (fun l => if l.all (· < 128) then some (.str (l.map lowA), σ) else none) v
  | .dbl => uStr (fun l => if 3 * l.length + 2 ≤ LIM then some (.str (dblQ l), σ) else none) v
  | .pop => uLst σ (fun n xs => (xs.getLast?).map fun x => (x, σ.set n xs.dropLast)) v
  | .dict l => uInt (fun k => (l.lookup k).map fun x => (.str x, σ)) v

noncomputable def isV : V → V → Option Bool
  | .bool a, .bool b => some (a == b)
  | .none, .none => some true
  | .int _, .none => some false
  | .str _, .none => some false
  | .tup _, .none => some false
  | _, _ => none
noncomputable def isN (x : V) : V → Option Bool
  | .none => isV x .none
  | _ => none
@[simp] theorem isN_none (x : V) : isN x .none = isV x .none := rfl
theorem isN_inv {x y : V} {r : Bool} (h : isN x y = some r) : y = .none ∧ isV x .none = some r := by
  unfold isN at h
  split at h
  · exact ⟨rfl, h⟩
  · first | exact noSome h | cases h
noncomputable def bItem (σ : Store) (i : Int) : V → Option (V × Store)
  | .str l => itemOf l i (fun c => .str [c]) σ
  | .tup l => itemOf l i id σ
  | .ro l => itemOf l i .int σ
  | x => uLst σ (fun _ xs => itemOf xs i id σ) x
noncomputable def bCut (σ : Store) (lo hi : Nat → Nat) : V → Option (V × Store)
  | .str l => some (.str (cut l (lo l.length) (hi l.length)), σ)
  | x => uLst σ (fun _ xs => some (.lst σ.length, σ ++ [cut xs (lo xs.length) (hi xs.length)])) x
section
variable (σ : Store)
@[simp] theorem isV_bool (a b : Bool) : isV (.bool a) (.bool b) = some (a == b) := rfl
@[simp] theorem isV_none : isV .none .none = some true := rfl
@[simp] theorem isV_int (a : Int) : isV (.int a) .none = some false := rfl
@[simp] theorem isV_str (a : List Nat) : isV (.str a) .none = some false := rfl
@[simp] theorem isV_tup (a : List V) : isV (.tup a) .none = some false := rfl
@[simp] theorem bItem_str (i : Int) (l : List Nat) : bItem σ i (.str l) = itemOf l i (fun c => .str [c]) σ := rfl
@[simp] theorem bItem_tup (i : Int) (l : List V) : bItem σ i (.tup l) = itemOf l i id σ := rfl
@[simp] theorem bItem_ro (i : Int) (l : List Int) : bItem σ i (.ro l) = itemOf l i .int σ := rfl
@[simp] theorem bItem_lst (i : Int) (n : Nat) : bItem σ i (.lst n) = (match σ[n]? with | some xs => itemOf xs i id σ | none => none) := rfl
@[simp] theorem bCut_str (lo hi : Nat → Nat) (l : List Nat) : bCut σ lo hi (.str l) = some (.str (cut l (lo l.length) (hi l.length)), σ) := rfl
@[simp] theorem bCut_lst (lo hi : Nat → Nat) (n : Nat) : bCut σ lo hi (.lst n) = (match σ[n]? with | some xs => some (.lst σ.length, σ ++ [cut xs (lo xs.length) (hi xs.length)]) | none => none) := rfl
end
noncomputable def evB (o : Bop) (x y : V) (σ : Store) : Option (V × Store) := match o with
  | .add => orE (bInt (fun a b => some (.int (a + b), σ)) x y) (orE (bStr (fun a b => if a.length + b.length ≤ LIM then some (.str (a ++ b), σ) else none) x y)
      (bLst σ (fun xs ys => if xs.length + ys.length ≤ LIM then some (.lst σ.length, σ ++ [xs ++ ys]) else none) x y))
  | .sub => bInt (fun a b => some (.int (a - b), σ)) x y
  | .mul => uInt (fun n => orE (uInt (fun a => if a.natAbs < 1000000000 ∧ n.natAbs < 1000000000 then some (.int (a * n), σ) else none) x)
      (orE (uStr (fun l => if 0 ≤ n ∧ n < 1000000 ∧ l.length * n.toNat ≤ LIM then some (.str (List.replicate n.toNat l).flatten, σ) else none) x)
      (uLst σ (fun _ xs => if n < 1000000 ∧ -1000000 < n ∧ xs.length * n.toNat ≤ LIM then some (.lst σ.length, σ ++ [(List.replicate n.toNat xs).flatten]) else none) x))) y
  | .fdiv => bInt (fun a b => if b ≠ 0 ∧ b.natAbs < 1000000000 then some (.int (a.fdiv b), σ) else none) x y
  | .mod => bInt (fun a b => if b ≠ 0 then some (.int (a.fmod b), σ) else none) x y
  | .pow => bInt (fun a n => if 0 ≤ n ∧ n ≤ 1000 ∧ a.natAbs < 1000000000 then some (.int (a ^ n.toNat), σ) else none) x y
  | .down => bInt (fun a b => if a ≤ 1000000 ∧ b = -1 ∧ -1 ≤ a then some (.rng a (-1) (a + 1).toNat, σ) else none) x y
  | .min => bInt (fun a b => some (.int (if b < a then b else a), σ)) x y
  | .eq => (eqV σ x y).map fun r => (.bool r, σ)
  | .ne => orE (bInt (fun a b => some (.bool (a != b), σ)) x y) (orE (bStr (fun a b => some (.bool (a != b), σ)) x y) (bLst σ (fun xs ys => (eqList xs ys).map fun r => (.bool (!r), σ)) x y))
  | .lt => bInt (fun a b => some (.bool (decide (a < b)), σ)) x y
  | .le => bInt (fun a b => some (.bool (decide (a ≤ b)), σ)) x y
  | .gt => bInt (fun a b => some (.bool (decide (b < a)), σ)) x y
  | .ge => bInt (fun a b => some (.bool (decide (b ≤ a)), σ)) x y
  | .is => (isV x y).map fun r => (.bool r, σ)
  | .isnot => (isN x y).map fun r => (.bool (!r), σ)
  | .inn => (inV σ x y).map fun r => (.bool r, σ)
  | .notin => (inV σ x y).map fun r => (.bool (!r), σ)
  | .append => uLst σ (fun n xs => if xs.length < LIM then some (.none, σ.set n (xs ++ [y])) else none) x
  | .count => uLst σ (fun _ xs => uInt (fun a => if xs.all (isIntB 1000000000) then some (.int ((xs.map intOf).count a), σ) else none) y) x
  | .index => uLst σ (fun _ xs => uStr (fun l => if xs.all isStr ∧ (xs.map strOf).idxOf l < xs.length then some (.int ((xs.map strOf).idxOf l), σ) else none) y) x
  | .join => uStr (fun sep => orE (uStr (fun l => if l.length + l.length * sep.length ≤ LIM then some (.str (joinL sep (l.map fun c => [c])), σ) else none) y)
      (uLst σ (fun _ xs => if xs.all isStr ∧ ((xs.map strOf).map List.length).sum + xs.length * sep.length ≤ LIM then some (.str (joinL sep (xs.map strOf)), σ) else none) y)) x
  | .item => uInt (fun i => bItem σ i x) y
  | .sliceF => uInt (fun a => bCut σ (fun n => clip a n) (fun n => n) x) y
  | .sliceT => uInt (fun b => bCut σ (fun _ => 0) (fun n => clip b n) x) y

/-- a, a + c, a + 2c .. -/
noncomputable def rangeL (a c : Int) (n : Nat) : List V := (List.range n).map fun (i : Nat) => V.int (a + (i : Int) * c)
/-- what a loop goes over: known items, or a list of the store as it stands at each turn -/
inductive Src where
  | fix (l : List V)
  | live (n : Nat)
/-- none: stuck; some none: at its end -/
noncomputable def Src.get : Src → Nat → Store → Option (Option V)
  | .fix l, j, _ => some l[j]?
  | .live n, j, σ => match σ[n]? with
    | some xs => some xs[j]?
    | none => none
/-- how many turns a loop without a known length may take -/
noncomputable def TURNS : Nat := 100000
noncomputable def Src.fuel : Src → Nat
  | .fix l => l.length + 1
  | .live _ => TURNS
noncomputable def srcOf : V → Option Src
  | .str l => some (.fix (l.map fun c => .str [c]))
  | .tup l => some (.fix l)
  | .lst n => some (.live n)
  | .rng a c n => some (.fix (rangeL a c n))
  | _ => none

noncomputable abbrev REnv := List (Option V)
noncomputable abbrev Calls := Nat → List V → Store → Option (V × Store)

/-- a comprehension's turns: the list built -/
noncomputable def evLoop (S : Src) (f : V → Store → Option (Option V × Store)) : Nat → Nat → List V → Store → Option (List V × Store)
  | 0, _, _, _ => none
  | k + 1, j, acc, σ => match S.get j σ with
    | some (some x) => match f x σ with
      | some (some v, σ') => evLoop S f k (j + 1) (acc ++ [v]) σ'
      | some (none, σ') => evLoop S f k (j + 1) acc σ'
      | none => none
    | some none => some (acc, σ)
    | none => none
mutual
noncomputable def ev (C : Calls) (ρ : REnv) (σ : Store) : Ex → Option (V × Store)
  | .none => some (.none, σ)
  | .bool b => some (.bool b, σ)
  | .int i => some (.int i, σ)
  | .str l => some (.str l, σ)
  | .var i => match ρ[i]? with
    | some (some v) => some (v, σ)
    | _ => none
  | .un o a => match ev C ρ σ a with
    | some (v, σ') => evU T o v σ'
    | none => none
  | .bin o a b => match ev C ρ σ a with
    | some (x, σ') => match ev C ρ σ' b with
      | some (y, σ'') => evB o x y σ''
      | none => none
    | none => none
  | .slice a lo hi => match ev C ρ σ a with
    | some (x, σ₁) => match ev C ρ σ₁ lo with
      | some (.int l, σ₂) => match ev C ρ σ₂ hi with
        | some (.int h, σ₃) => match x with
          | .str s => some (.str (cut s (clip l s.length) (clip h s.length)), σ₃)
          | _ => none
        | _ => none
      | _ => none
    | none => none
  | .not a => match ev C ρ σ a with
    | some (.bool b, σ') => some (.bool (!b), σ')
    | _ => none
  | .and a b => match ev C ρ σ a with
    | some (.bool true, σ') => match ev C ρ σ' b with
      | some (.bool c, σ'') => some (.bool c, σ'')
      | _ => none
    | some (.bool false, σ') => some (.bool false, σ')
    | _ => none
  | .or a b => match ev C ρ σ a with
    | some (.bool false, σ') => match ev C ρ σ' b with
      | some (.bool c, σ'') => some (.bool c, σ'')
      | _ => none
    | some (.bool true, σ') => some (.bool true, σ')
    | _ => none
  | .ite c a b => match ev C ρ σ c with
    | some (.bool true, σ') => ev C ρ σ' a
    | some (.bool false, σ') => ev C ρ σ' b
    | _ => none
  | .list es => match evs C ρ σ es with
    | some (vs, σ') => if vs.length ≤ LIM then some (.lst σ'.length, σ' ++ [vs]) else none
    | none => none
  | .tup es => match evs C ρ σ es with
    | some (vs, σ') => if vs.length ≤ LIM then some (.tup vs, σ') else none
    | none => none
  | .call f es => match evs C ρ σ es with
    | some (vs, σ') => C f vs σ'
    | none => none
  | .comp src elt => match ev C ρ σ src with
    | some (x, σ') => match srcOf x with
      | some S => match evLoop S (fun v τ => match ev C (ρ ++ [some v]) τ elt with | some (y, τ') => some (some y, τ') | none => none) S.fuel 0 [] σ' with
        | some (vs, σ'') => if vs.length ≤ LIM then some (.lst σ''.length, σ'' ++ [vs]) else none
        | none => none
      | none => none
    | none => none
  | .compIf src cond elt => match ev C ρ σ src with
    | some (x, σ') => match srcOf x with
      | some S => match evLoop S (fun v τ => match ev C (ρ ++ [some v]) τ cond with
        | some (.bool true, τ₁) => match ev C (ρ ++ [some v]) τ₁ elt with | some (y, τ') => some (some y, τ') | none => none
        | some (.bool false, τ₁) => some (none, τ₁)
        | _ => none) S.fuel 0 [] σ' with
        | some (vs, σ'') => if vs.length ≤ LIM then some (.lst σ''.length, σ'' ++ [vs]) else none
        | none => none
      | none => none
    | none => none
noncomputable def evs (C : Calls) (ρ : REnv) (σ : Store) : Exs → Option (List V × Store)
  | .nil => some ([], σ)
  | .cons e r => match ev C ρ σ e with
    | some (v, σ') => match evs C ρ σ' r with
      | some (vs, σ'') => some (v :: vs, σ'')
      | none => none
    | none => none
end

/-- a turn of a comprehension -/
noncomputable def cF (C : Calls) (ρ : REnv) (elt : Ex) (v : V) (τ : Store) : Option (Option V × Store) := match ev T C (ρ ++ [some v]) τ elt with | some (y, τ') => some (some y, τ') | none => none
noncomputable def cIf (C : Calls) (ρ : REnv) (cond elt : Ex) (v : V) (τ : Store) : Option (Option V × Store) := match ev T C (ρ ++ [some v]) τ cond with
  | some (.bool true, τ₁) => match ev T C (ρ ++ [some v]) τ₁ elt with | some (y, τ') => some (some y, τ') | none => none
  | some (.bool false, τ₁) => some (none, τ₁)
  | _ => none

section
variable (C : Calls)
noncomputable def evAug (o : Bop) (x y : V) (σ : Store) : Option (V × Store) := match o with
  | .add => orE (bInt (fun a b => some (.int (a + b), σ)) x y) (bStr (fun a b => if a.length + b.length ≤ LIM then some (.str (a ++ b), σ) else none) x y)
  | _ => none

/-- a loop's turns -/
noncomputable def exLoop (S : Src) (f : V → REnv → Store → Option (Fl × REnv × Store)) : Nat → Nat → REnv → Store → Option (Fl × REnv × Store)
  | 0, _, _, _ => none
  | k + 1, j, ρ, σ => match S.get j σ with
    | some (some x) => match f x ρ σ with
      | some (.next, ρ', σ') => exLoop S f k (j + 1) ρ' σ'
      | some (.brk, ρ', σ') => some (.next, ρ', σ')
      | some (.ret v, ρ', σ') => some (.ret v, ρ', σ')
      | none => none
    | some none => some (.next, ρ, σ)
    | none => none
noncomputable def exWhile (c : REnv → Store → Option (Bool × Store)) (f : REnv → Store → Option (Fl × REnv × Store)) : Nat → REnv → Store → Option (Fl × REnv × Store)
  | 0, _, _ => none
  | k + 1, ρ, σ => match c ρ σ with
    | some (true, σ') => match f ρ σ' with
      | some (.next, ρ', σ'') => exWhile c f k ρ' σ''
      | some (.brk, ρ', σ'') => some (.next, ρ', σ'')
      | some (.ret v, ρ', σ'') => some (.ret v, ρ', σ'')
      | none => none
    | some (false, σ') => some (.next, ρ, σ')
    | none => none
end
noncomputable def setAll : REnv → List Nat → List V → REnv
  | ρ, i :: is, v :: vs => setAll (ρ.set i (some v)) is vs
  | ρ, _, _ => ρ

mutual
noncomputable def ex (C : Calls) (ρ : REnv) (σ : Store) : St → Option (Fl × REnv × Store)
  | .expr e => match ev T C ρ σ e with
    | some (_, σ') => some (.next, ρ, σ')
    | none => none
  | .set i e => match ev T C ρ σ e with
    | some (v, σ') => some (.next, ρ.set i (some v), σ')
    | none => none
  | .unpack is e => match ev T C ρ σ e with
    | some (.tup vs, σ') => if vs.length = is.length then some (.next, setAll ρ is vs, σ') else none
    | some (.lst n, σ') => match σ'[n]? with
      | some vs => if vs.length = is.length then some (.next, setAll ρ is vs, σ') else none
      | none => none
    | _ => none
  | .setItem i k e => match ev T C ρ σ e with
    | some (v, σ₁) => match ρ[i]? with
      | some (some (.lst n)) => match ev T C ρ σ₁ k with
        | some (.int j, σ₂) => match σ₂[n]? with
          | some xs => if 0 ≤ j ∧ j.toNat < xs.length then some (.next, ρ, σ₂.set n (xs.set j.toNat v)) else none
          | none => none
        | _ => none
      | _ => none
    | none => none
  | .augItem i k o e => match ρ[i]? with
    | some (some (.lst n)) => match ev T C ρ σ k with
      | some (.int j, σ₁) => match σ₁[n]? with
        | some xs => match xs[j.toNat]? with
          | some old => match ev T C ρ σ₁ e with
            | some (v, σ₂) => match evAug o old v σ₂ with
              | some (r, σ₃) => match σ₃[n]? with
                | some ys => if 0 ≤ j ∧ j.toNat < xs.length ∧ j.toNat < ys.length then some (.next, ρ, σ₃.set n (ys.set j.toNat r)) else none
                | none => none
              | none => none
            | none => none
          | none => none
        | none => none
      | _ => none
    | _ => none
  | .aug i o e => match ρ[i]? with
    | some (some old) => match ev T C ρ σ e with
      | some (v, σ') => match evAug o old v σ' with
        | some (r, σ'') => some (.next, ρ.set i (some r), σ'')
        | none => none
      | none => none
    | _ => none
  | .ite c a b => match ev T C ρ σ c with
    | some (.bool true, σ') => exs C ρ σ' a
    | some (.bool false, σ') => exs C ρ σ' b
    | _ => none
  | .while c b => exWhile (fun ρ σ => match ev T C ρ σ c with | some (.bool x, σ') => some (x, σ') | _ => none) (fun ρ σ => exs C ρ σ b) TURNS ρ σ
  | .forIn i e b => match ev T C ρ σ e with
    | some (x, σ') => match srcOf x with
      | some S => exLoop S (fun v ρ σ => exs C (ρ.set i (some v)) σ b) S.fuel 0 ρ σ'
      | none => none
    | none => none
  | .ret e => match ev T C ρ σ e with
    | some (v, σ') => some (.ret v, ρ, σ')
    | none => none
  | .brk => some (.brk, ρ, σ)
  | .fail => none
noncomputable def exs (C : Calls) (ρ : REnv) (σ : Store) : Sts → Option (Fl × REnv × Store)
  | .nil => some (.next, ρ, σ)
  | .cons s r => match ex C ρ σ s with
    | some (.next, ρ', σ') => exs C ρ' σ' r
    | some (.brk, ρ', σ') => some (.brk, ρ', σ')
    | some (.ret v, ρ', σ') => some (.ret v, ρ', σ')
    | none => none
end

/-- a def: how many parameters, how many names, the body -/
structure Fn where
  np : Nat
  nl : Nat
  body : Sts
mutual
/-- no list of the store in it -/
noncomputable def noLst : V → Bool
  | .lst _ => false
  | .tup l => noLsts l
  | _ => true
noncomputable def noLsts : List V → Bool
  | [] => true
  | v :: vs => noLst v && noLsts vs
end
/-- what a call without lists brings back: a value, or a list of its own -/
noncomputable def giveBack (v : V) (σ' σ : Store) : Option (V × Store) := match v with
  | .lst n => match σ'[n]? with
    | some xs => if noLsts xs then some (.lst σ.length, σ ++ [xs]) else none
    | none => none
  | v => if noLst v then some (v, σ) else none
/-- calls, at most d deep; a call that is handed no list works in a store of its own -/
noncomputable def callD (fns : List Fn) : Nat → Calls
  | 0 => fun _ _ _ => none
  | d + 1 => fun f args σ => match fns[f]? with
    | some fn => if args.length = fn.np then
        if noLsts args then match exs T (callD fns d) (args.map some ++ List.replicate (fn.nl - fn.np) none) [] fn.body with
          | some (.ret v, _, σ') => giveBack v σ' σ
          | some (.next, _, _) => some (.none, σ)
          | _ => none
        else match exs T (callD fns d) (args.map some ++ List.replicate (fn.nl - fn.np) none) σ fn.body with
          | some (.ret v, _, σ') => some (v, σ')
          | some (.next, _, σ') => some (.none, σ')
          | _ => none
      else none
    | none => none
end Mine
end

section
open PySem PySem.W PyProof.Rows PySem.Calls
set_option Elab.async false
set_option linter.unusedVariables false
namespace Mine

noncomputable abbrev tupO (items : Array Value) : Obj := { cls := .type "tuple", data := .seq items }
mutual
inductive Rep (h₀ : Heap) (μ : List Addr) (h : Heap) : Value → V → Prop where
  | none : Rep h₀ μ h .none .none
  | bool (b : Bool) : Rep h₀ μ h (.bool b) (.bool b)
  | int (i : Int) (t : Tok) : Rep h₀ μ h (.int i t) (.int i)
  | str (l : List Nat) (t : Tok) : l.length ≤ LIM → Rep h₀ μ h (.str ⟨l.toArray⟩ t) (.str l)
  | tup {a : Addr} {items : List Value} {n : Nat} {l : List V} : h.get? a = some { cls := .type "tuple", dict := .none, data := .seq items.toArray n, slots := #[] } → items.length ≤ LIM → Reps h₀ μ h items l → Rep h₀ μ h (.ref a) (.tup l)
  | lst {a : Addr} {n : Nat} : μ[n]? = some a → Rep h₀ μ h (.ref a) (.lst n)
  | rng {r : Addr} {a b c : Int} {t u v : Tok} {n : Nat} : IsRange h r a b c t u v → Builtin.Range.small a b c = true → Builtin.Range.rangeSize a b c = n → Rep h₀ μ h (.ref r) (.rng a c n)
  | ro {a : Addr} {items : List Value} {l : List Int} : h₀.IsList a items.toArray → items.length ≤ LIM → IntsAre items l → Rep h₀ μ h (.ref a) (.ro l)
inductive Reps (h₀ : Heap) (μ : List Addr) (h : Heap) : List Value → List V → Prop where
  | nil : Reps h₀ μ h [] []
  | cons {v : Value} {x : V} {vs : List Value} {xs : List V} : Rep h₀ μ h v x → Reps h₀ μ h vs xs → Reps h₀ μ h (v :: vs) (x :: xs)
end

inductive IsStrR (v : Value) (l : List Nat) : Prop where
  | mk (t : Tok) : v = .str ⟨l.toArray⟩ t → l.length ≤ LIM → IsStrR v l
inductive IsTupR (h₀ : Heap) (μ : List Addr) (h : Heap) (v : Value) (l : List V) : Prop where
  | mk (a : Addr) (items : List Value) (n : Nat) : v = .ref a → h.get? a = some { cls := .type "tuple", dict := .none, data := .seq (List.toArray items) n, slots := #[] } → items.length ≤ LIM → Reps h₀ μ h items l → IsTupR h₀ μ h v l
inductive IsLstR (μ : List Addr) (v : Value) (n : Nat) : Prop where
  | mk (a : Addr) : v = .ref a → μ[n]? = some a → IsLstR μ v n
inductive IsRoR (h₀ : Heap) (v : Value) (l : List Int) : Prop where
  | mk (a : Addr) (items : List Value) : v = .ref a → h₀.IsList a (List.toArray items) → items.length ≤ LIM → IntsAre items l → IsRoR h₀ v l
inductive AtList (h₀ : Heap) (μ : List Addr) (h : Heap) (v : Value) (n : Nat) (xs : List V) : Prop where
  | mk (a : Addr) (items : List Value) (ep : Nat) : v = .ref a → μ[n]? = some a → h.get? a = some { cls := .type "list", dict := none, data := .seq (List.toArray items) ep, slots := #[] } → items.length ≤ LIM → Reps h₀ μ h items xs → AtList h₀ μ h v n xs
inductive InCons (h₀ : Heap) (μ : List Addr) (h : Heap) (vs : List Value) (x : V) (xs : List V) : Prop where
  | mk (w : Value) (ws : List Value) : vs = w :: ws → Rep h₀ μ h w x → Reps h₀ μ h ws xs → InCons h₀ μ h vs x xs
/-- what stands for a value -/
noncomputable def RepI (h₀ : Heap) (μ : List Addr) (h : Heap) (v : Value) : V → Prop
  | .none => v = .none
  | .bool b => v = .bool b
  | .int i => ∃ t, v = .int i t
  | .str l => IsStrR v l
  | .tup l => IsTupR h₀ μ h v l
  | .lst n => IsLstR μ v n
  | .rng a c n => ∃ r b t u w, v = .ref r ∧ IsRange h r a b c t u w ∧ Builtin.Range.small a b c = true ∧ Builtin.Range.rangeSize a b c = n
  | .ro l => IsRoR h₀ v l
theorem Rep.inv {h₀ : Heap} {μ : List Addr} {h : Heap} : ∀ {v : Value} {x : V}, Rep h₀ μ h v x → RepI h₀ μ h v x
  | _, _, .none => rfl
  | _, _, .bool b => rfl
  | _, _, .int i t => ⟨t, rfl⟩
  | _, _, .str l t hl => ⟨t, rfl, hl⟩
  | _, _, .tup hg hl hr => ⟨_, _, _, rfl, hg, hl, hr⟩
  | _, _, .rng a b c => ⟨_, _, _, _, _, rfl, a, b, c⟩
  | _, _, .lst e => ⟨_, rfl, e⟩
  | _, _, .ro a b c => ⟨_, _, rfl, a, b, c⟩
section
variable {h₀ h : Heap} {μ : List Addr} {v : Value}
theorem Rep.inv_none (r : Rep h₀ μ h v .none) : v = .none := r.inv
theorem Rep.inv_bool {b : Bool} (r : Rep h₀ μ h v (.bool b)) : v = .bool b := r.inv
theorem Rep.inv_int {i : Int} (r : Rep h₀ μ h v (.int i)) : ∃ t, v = .int i t := r.inv
theorem Rep.inv_str {l : List Nat} (r : Rep h₀ μ h v (.str l)) : IsStrR v l := r.inv
theorem Rep.inv_tup {l : List V} (r : Rep h₀ μ h v (.tup l)) : IsTupR h₀ μ h v l := r.inv
theorem Rep.inv_lst {n : Nat} (r : Rep h₀ μ h v (.lst n)) : IsLstR μ v n := r.inv
theorem Rep.inv_ro {l : List Int} (r : Rep h₀ μ h v (.ro l)) : IsRoR h₀ v l := r.inv
theorem Reps.inv_nil {vs : List Value} (r : Reps h₀ μ h vs []) : vs = [] := by cases r; rfl
theorem Reps.inv_cons {vs : List Value} {x : V} {xs : List V} (r : Reps h₀ μ h vs (x :: xs)) : InCons h₀ μ h vs x xs := by
  cases r with
  | cons a b => exact ⟨_, _, rfl, a, b⟩
end

section
variable {h₀ h : Heap} {μ : List Addr}
theorem Reps.length : ∀ {vs : List Value} {xs : List V}, Reps h₀ μ h vs xs → vs.length = xs.length
  | _, _, .nil => rfl
  | _, _, .cons _ r => by simp [Reps.length r]
theorem Reps.get : ∀ {vs : List Value} {xs : List V}, Reps h₀ μ h vs xs → ∀ {i : Nat} {x : V}, xs[i]? = some x → ∃ v, vs[i]? = some v ∧ Rep h₀ μ h v x
  | _, _, .nil, i, x, e => by simp at e
  | _, _, .cons a r, i, x, e => by
    cases i with
    | zero => simp at e; subst e; exact ⟨_, rfl, a⟩
    | succ i => simp at e; simpa using Reps.get r e
theorem Reps.append : ∀ {vs ws : List Value} {xs ys : List V}, Reps h₀ μ h vs xs → Reps h₀ μ h ws ys → Reps h₀ μ h (vs ++ ws) (xs ++ ys)
  | _, _, _, _, .nil, r => r
  | _, _, _, _, .cons a r, r' => .cons a (Reps.append r r')
theorem Reps.take : ∀ {vs : List Value} {xs : List V} (n : Nat), Reps h₀ μ h vs xs → Reps h₀ μ h (vs.take n) (xs.take n)
  | _, _, 0, _ => by simp; exact .nil
  | _, _, n + 1, .nil => by simp; exact .nil
  | _, _, n + 1, .cons a r => by simp; exact .cons a (Reps.take n r)
theorem Reps.drop : ∀ {vs : List Value} {xs : List V} (n : Nat), Reps h₀ μ h vs xs → Reps h₀ μ h (vs.drop n) (xs.drop n)
  | _, _, 0, r => by simpa using r
  | _, _, n + 1, .nil => by simp; exact .nil
  | _, _, n + 1, .cons a r => by simpa using Reps.drop n r
theorem Reps.set : ∀ {vs : List Value} {xs : List V} {v : Value} {x : V} (n : Nat), Reps h₀ μ h vs xs → Rep h₀ μ h v x → Reps h₀ μ h (vs.set n v) (xs.set n x)
  | _, _, _, _, _, .nil, _ => by simp; exact .nil
  | _, _, _, _, 0, .cons a r, b => .cons b r
  | _, _, _, _, n + 1, .cons a r, b => .cons a (Reps.set n r b)
theorem Reps.flatRep {vs : List Value} {xs : List V} (r : Reps h₀ μ h vs xs) : ∀ n : Nat, Reps h₀ μ h (List.replicate n vs).flatten (List.replicate n xs).flatten
  | 0 => .nil
  | n + 1 => by rw [List.replicate_succ, List.flatten_cons, List.replicate_succ, List.flatten_cons]; exact r.append (r.flatRep n)
end

/-- the store stands in the heap -/
structure SOk (h₀ : Heap) (μ : List Addr) (σ : Store) (h : Heap) : Prop where
  len : μ.length = σ.length
  nd : μ.Nodup
  fresh : ∀ a ∈ μ, h₀.get? a = none
  cell : ∀ {n : Nat} {xs : List V}, σ[n]? = some xs → ∃ a items ep, μ[n]? = some a ∧ h.get? a = some { cls := .type "list", dict := none, data := .seq (List.toArray items) ep, slots := #[] } ∧ items.length ≤ LIM ∧ Reps h₀ μ h items xs
  base : ∀ b o, h₀.get? b = some o → h.get? b = some o

theorem SOk.list {h₀ h : Heap} {μ : List Addr} {σ : Store} (S : SOk h₀ μ σ h) {n : Nat} {a : Addr} (ha : μ[n]? = some a) :
    ∃ xs items ep, σ[n]? = some xs ∧ h.get? a = some { cls := .type "list", dict := none, data := .seq (List.toArray items) ep, slots := #[] } ∧ items.length ≤ LIM ∧ Reps h₀ μ h items xs := by
  have hn : n < σ.length := by rw [← S.len]; exact (List.getElem?_eq_some_iff.mp ha).1
  obtain ⟨a', items, ep, e, hg, hl, hr⟩ := S.cell (List.getElem?_eq_getElem hn)
  rw [ha] at e; cases e
  exact ⟨_, items, ep, List.getElem?_eq_getElem hn, hg, hl, hr⟩
theorem Rep.at_list {h₀ h : Heap} {μ : List Addr} {σ : Store} {v : Value} {n : Nat} {xs : List V} (r : Rep h₀ μ h v (.lst n)) (S : SOk h₀ μ σ h) (e : σ[n]? = some xs) :
    AtList h₀ μ h v n xs := by
  obtain ⟨a, rfl, ha⟩ := r.inv_lst
  obtain ⟨a', items, ep, e', hg, hl, hr⟩ := S.cell e
  rw [ha] at e'
  obtain rfl := Option.some.inj e'
  exact ⟨a, items, ep, rfl, ha, hg, hl, hr⟩
theorem SOk.isList {h₀ h : Heap} {μ : List Addr} {σ : Store} (S : SOk h₀ μ σ h) {a : Addr} (ha : a ∈ μ) : ∃ o, h.get? a = some o ∧ o.cls = .type "list" := by
  obtain ⟨n, hn, e⟩ := List.getElem_of_mem ha
  obtain ⟨_, _, _, _, hg, _⟩ := S.list (n := n) (by rw [List.getElem?_eq_getElem hn, e])
  exact ⟨_, hg, rfl⟩

/-- what a step may do: old objects stay, but for the lists -/
structure Stp (μ μ' : List Addr) (s s' : Shared) : Prop where
  pre : ∃ ν, μ' = μ ++ ν ∧ ∀ a ∈ ν, s.heap.get? a = none
  keep : ∀ b o, s.heap.get? b = some o → b ∉ μ → s'.heap.get? b = some o
  live : ∀ b o, s.heap.get? b = some o → ∃ o', s'.heap.get? b = some o'
  gens : s'.gens = s.gens
  os : s'.os = s.os

theorem Stp.refl (μ : List Addr) (s : Shared) : Stp μ μ s s := ⟨⟨[], by simp, by simp⟩, fun _ _ h _ => h, fun _ _ h => ⟨_, h⟩, rfl, rfl⟩
theorem Stp.old {μ μ' : List Addr} {s s' : Shared} (a : Stp μ μ' s s') {c : Addr} (h : s'.heap.get? c = none) : s.heap.get? c = none := by
  cases e : s.heap.get? c with
  | none => rfl
  | some o => obtain ⟨o', e'⟩ := a.live _ _ e; rw [h] at e'; cases e'
theorem Stp.trans {μ μ' μ'' : List Addr} {s s' s'' : Shared} (a : Stp μ μ' s s') (b : Stp μ' μ'' s' s'') : Stp μ μ'' s s'' := by
  obtain ⟨ν, rfl, h1⟩ := a.pre
  obtain ⟨ν', rfl, h2⟩ := b.pre
  refine ⟨⟨ν ++ ν', by simp, fun x hx => ?_⟩, fun c o h hn => b.keep c o (a.keep c o h hn) fun hm => ?_, fun c o h => let ⟨o', h'⟩ := a.live c o h; b.live c o' h', b.gens.trans a.gens, b.os.trans a.os⟩
  · rcases List.mem_append.mp hx with hx | hx
    · exact h1 x hx
    · exact a.old (h2 x hx)
  · rcases List.mem_append.mp hm with hm | hm
    · exact hn hm
    · rw [h1 c hm] at h; cases h

/-- an object that never changes -/
noncomputable def Firm (o : Obj) : Prop := (o.cls = .type "tuple" ∧ ∃ xs n, o.data = .seq xs n) ∨ (o.cls = .type "range" ∧ ∃ xs, o.data = .fields xs)
theorem Firm.not_list {o : Obj} (f : Firm o) : ¬ o.cls = .type "list" := fun e => by
  rcases f with ⟨h, _⟩ | ⟨h, _⟩ <;> rw [e] at h <;> exact absurd (Value.type.inj h) (by decide)
/-! a value stands in a later heap, where the store has grown or the value has no list -/
mutual
theorem Rep.turn {h₀ h h' : Heap} {μ μ' : List Addr} (hk : ∀ b o, h.get? b = some o → Firm o → h'.get? b = some o) : ∀ {v : Value} {x : V}, Rep h₀ μ h v x → (noLst x = true ∨ ∀ (n : Nat) a, μ[n]? = some a → μ'[n]? = some a) → Rep h₀ μ' h' v x
  | _, _, .none, _ => .none
  | _, _, .bool b, _ => .bool b
  | _, _, .int i t, _ => .int i t
  | _, _, .str l t hl, _ => .str l t hl
  | _, _, .tup hg hl hr, c => .tup (hk _ _ hg (.inl ⟨rfl, _, _, rfl⟩)) hl (Reps.turn hk hr c)
  | _, _, .rng hg hs hn, _ => .rng (hk _ _ hg (.inr ⟨rfl, _, rfl⟩)) hs hn
  | _, _, .lst e, c => .lst (c.elim (fun e => Bool.noConfusion e) fun k => k _ _ e)
  | _, _, .ro hg hl hi, _ => .ro hg hl hi
theorem Reps.turn {h₀ h h' : Heap} {μ μ' : List Addr} (hk : ∀ b o, h.get? b = some o → Firm o → h'.get? b = some o) : ∀ {vs : List Value} {xs : List V}, Reps h₀ μ h vs xs → (noLsts xs = true ∨ ∀ (n : Nat) a, μ[n]? = some a → μ'[n]? = some a) → Reps h₀ μ' h' vs xs
  | _, _, .nil, _ => .nil
  | _, _, .cons a r, c => .cons (Rep.turn hk a (c.imp_left fun e => (Bool.and_eq_true_iff.mp e).1)) (Reps.turn hk r (c.imp_left fun e => (Bool.and_eq_true_iff.mp e).2))
end
theorem Rep.mono {h₀ h h' : Heap} {μ ν : List Addr} (hk : ∀ b o, h.get? b = some o → Firm o → h'.get? b = some o) {v : Value} {x : V} (r : Rep h₀ μ h v x) : Rep h₀ (μ ++ ν) h' v x :=
  r.turn hk (.inr fun n a e => by rw [List.getElem?_append_left (List.getElem?_eq_some_iff.mp e).1]; exact e)
theorem Reps.mono {h₀ h h' : Heap} {μ ν : List Addr} (hk : ∀ b o, h.get? b = some o → Firm o → h'.get? b = some o) {vs : List Value} {xs : List V} (r : Reps h₀ μ h vs xs) : Reps h₀ (μ ++ ν) h' vs xs :=
  r.turn hk (.inr fun n a e => by rw [List.getElem?_append_left (List.getElem?_eq_some_iff.mp e).1]; exact e)
theorem Rep.noLst' {h₀ h : Heap} {μ μ' : List Addr} {v : Value} {x : V} (r : Rep h₀ μ h v x) (e : noLst x = true) : Rep h₀ μ' h v x := r.turn (fun _ _ g _ => g) (.inl e)
theorem Reps.noLst' {h₀ h : Heap} {μ μ' : List Addr} {vs : List Value} {xs : List V} (r : Reps h₀ μ h vs xs) (e : noLsts xs = true) : Reps h₀ μ' h vs xs := r.turn (fun _ _ g _ => g) (.inl e)

theorem SOk.tupKeep {h₀ : Heap} {μ μ' : List Addr} {σ : Store} {s s' : Shared} (S : SOk h₀ μ σ s.heap) (p : Stp μ μ' s s') : ∀ b o, s.heap.get? b = some o → Firm o → s'.heap.get? b = some o := fun b o h hc =>
  p.keep b o h fun hm => by
    obtain ⟨o', h', hc'⟩ := S.isList hm
    rw [h] at h'; cases h'
    exact hc.not_list hc'
theorem Rep.step {h₀ : Heap} {μ μ' : List Addr} {σ : Store} {s s' : Shared} {v : Value} {x : V} (r : Rep h₀ μ s.heap v x) (S : SOk h₀ μ σ s.heap) (p : Stp μ μ' s s') : Rep h₀ μ' s'.heap v x := by
  have hk := S.tupKeep p
  obtain ⟨ν, rfl, _⟩ := p.pre
  exact r.mono hk
theorem Reps.step {h₀ : Heap} {μ μ' : List Addr} {σ : Store} {s s' : Shared} {vs : List Value} {xs : List V} (r : Reps h₀ μ s.heap vs xs) (S : SOk h₀ μ σ s.heap) (p : Stp μ μ' s s') : Reps h₀ μ' s'.heap vs xs := by
  have hk := S.tupKeep p
  obtain ⟨ν, rfl, _⟩ := p.pre
  exact r.mono hk

/-- a heap that only grew -/
theorem Stp.grown {μ : List Addr} {s : Shared} {h' : Heap} {t : Nat} (hk : ∀ b o, s.heap.get? b = some o → h'.get? b = some o) : Stp μ μ s { s with heap := h', toks := t } :=
  ⟨⟨[], by simp, by simp⟩, fun b o h _ => hk b o h, fun b o h => ⟨o, hk b o h⟩, rfl, rfl⟩
theorem Stp.tok {μ : List Addr} {s : Shared} {t : Nat} : Stp μ μ s { s with toks := t } := Stp.grown fun _ _ h => h
theorem Stp.push {μ : List Addr} {s : Shared} {o : Obj} {t : Nat} : Stp μ μ s { s with heap := s.heap.push o, toks := t } :=
  Stp.grown (fun b o' h => Heap.get?_push_of_some o h)

theorem SOk.grown {h₀ h h' : Heap} {μ : List Addr} {σ : Store} (S : SOk h₀ μ σ h) (hk : ∀ b o, h.get? b = some o → h'.get? b = some o) : SOk h₀ μ σ h' :=
  ⟨S.len, S.nd, S.fresh, fun e => by
    obtain ⟨a, items, ep, h1, h2, h3, h4⟩ := S.cell e
    have := h4.mono (ν := []) (fun b o h _ => hk b o h)
    rw [List.append_nil] at this
    exact ⟨a, items, ep, h1, hk _ _ h2, h3, this⟩, fun b o h => hk b o (S.base b o h)⟩
theorem Rep.grown {h₀ h h' : Heap} {μ : List Addr} {v : Value} {x : V} (r : Rep h₀ μ h v x) (hk : ∀ b o, h.get? b = some o → h'.get? b = some o) : Rep h₀ μ h' v x := by
  have := r.mono (ν := []) (h' := h') fun b o h _ => hk b o h
  rwa [List.append_nil] at this
theorem Reps.grown {h₀ h h' : Heap} {μ : List Addr} {v : List Value} {x : List V} (r : Reps h₀ μ h v x) (hk : ∀ b o, h.get? b = some o → h'.get? b = some o) : Reps h₀ μ h' v x := by
  have := r.mono (ν := []) (h' := h') fun b o h _ => hk b o h
  rwa [List.append_nil] at this
theorem free_size (h : Heap) : h.get? h.objs.size = none := by
  cases e : h.get? h.objs.size with
  | none => rfl
  | some o => exact absurd (Heap.lt_size e) (Nat.lt_irrefl _)
theorem SOk.free {h₀ h : Heap} {μ : List Addr} {σ : Store} (S : SOk h₀ μ σ h) {a : Addr} (e : h.get? a = none) : h₀.get? a = none := by
  cases e' : h₀.get? a with
  | none => rfl
  | some o => rw [S.base _ _ e'] at e; cases e

/-- a new list -/
theorem SOk.new {h₀ : Heap} {μ : List Addr} {σ : Store} {s : Shared} {items : List Value} {xs : List V} {t : Nat} (S : SOk h₀ μ σ s.heap) (r : Reps h₀ μ s.heap items xs) (hl : items.length ≤ LIM) :
    SOk h₀ (μ ++ [s.heap.objs.size]) (σ ++ [xs]) (s.heap.push { cls := .type "list", data := .seq items.toArray }) ∧
      Stp μ (μ ++ [s.heap.objs.size]) s { s with heap := s.heap.push { cls := .type "list", data := .seq items.toArray }, toks := t } ∧
      Rep h₀ (μ ++ [s.heap.objs.size]) (s.heap.push { cls := .type "list", data := .seq items.toArray }) (.ref s.heap.objs.size) (.lst σ.length) := by
  have hk : ∀ b o, s.heap.get? b = some o → (s.heap.push { cls := .type "list", data := .seq items.toArray }).get? b = some o := fun b o h => Heap.get?_push_of_some _ h
  have hn : s.heap.objs.size ∉ μ := fun hm => by
    obtain ⟨o, h, _⟩ := S.isList hm
    exact absurd (Heap.lt_size h) (Nat.lt_irrefl _)
  refine ⟨⟨by simp [S.len], ?_, fun a ha => ?_, fun {n ys} e => ?_, fun b o h => hk b o (S.base b o h)⟩, ⟨⟨_, rfl, fun a ha => ?_⟩, fun b o h _ => hk b o h, fun b o h => ⟨o, hk b o h⟩, rfl, rfl⟩, .lst ?_⟩
  · rw [List.nodup_append]
    exact ⟨S.nd, by simp, fun a ha b hb => by simp at hb; subst hb; exact fun e => hn (e ▸ ha)⟩
  · rcases List.mem_append.mp ha with ha | ha
    · exact S.fresh a ha
    · simp at ha; subst ha; exact S.free (free_size _)
  · rcases Nat.lt_trichotomy n σ.length with h | h | h
    · rw [List.getElem?_append_left h] at e
      obtain ⟨a, its, ep, h1, h2, h3, h4⟩ := S.cell e
      exact ⟨a, its, ep, by rw [List.getElem?_append_left (by rw [S.len]; exact h)]; exact h1, hk _ _ h2, h3, h4.mono fun b o h _ => hk b o h⟩
    · subst h
      simp at e; subst e
      exact ⟨s.heap.objs.size, items, 0, by rw [← S.len]; simp, Heap.get?_push_size _ rfl, hl, r.mono fun b o h _ => hk b o h⟩
    · rw [List.getElem?_eq_none (by simp; (first | lia | omega))] at e; cases e
  · simp at ha; subst ha; exact free_size _
  · rw [← S.len]; simp

/-- a list changed -/
theorem SOk.put {h₀ : Heap} {μ : List Addr} {σ : Store} {s : Shared} {n : Nat} {a : Addr} {f : Array Value → Array Value} {items items' : List Value} {xs' : List V} {ep : Nat} {t : Nat} (S : SOk h₀ μ σ s.heap) (ha : μ[n]? = some a)
    (hg : s.heap.get? a = some { cls := .type "list", dict := none, data := .seq items.toArray ep, slots := #[] }) (hf : f items.toArray = items'.toArray) (r : Reps h₀ μ s.heap items' xs') (hl : items'.length ≤ LIM) :
    SOk h₀ μ (σ.set n xs') (s.heap.update a (Obj.mapSeq f)) ∧ Stp μ μ s { s with heap := s.heap.update a (Obj.mapSeq f), toks := t } := by
  have hm : a ∈ μ := List.mem_of_getElem? ha
  have hsb : Heap.SameBut a s.heap (s.heap.update a (Obj.mapSeq f)) := Heap.SameBut.update ..
  have hk : ∀ b o, s.heap.get? b = some o → b ≠ a → (s.heap.update a (Obj.mapSeq f)).get? b = some o := fun b o h hne => (hsb.2 b hne).trans h
  have hself : (s.heap.update a (Obj.mapSeq f)).get? a = some { cls := .type "list", dict := none, data := .seq items'.toArray (if items'.toArray.size == items.toArray.size then ep else ep + 1), slots := #[] } := by
    rw [← hf]; exact Heap.get?_update_self (Obj.mapSeq f) hg rfl
  have htup : ∀ b o, s.heap.get? b = some o → Firm o → (s.heap.update a (Obj.mapSeq f)).get? b = some o := fun b o h hc => hk b o h fun e => by
    subst e; rw [hg] at h; cases h; exact hc.not_list rfl
  have mono : ∀ {its : List Value} {ys : List V}, Reps h₀ μ s.heap its ys → Reps h₀ μ (s.heap.update a (Obj.mapSeq f)) its ys := fun r => by
    have := r.mono (ν := []) htup
    rwa [List.append_nil] at this
  refine ⟨⟨by simp [S.len], S.nd, S.fresh, fun {k ys} e => ?_, fun b o h => hk b o (S.base b o h) fun e => ?_⟩, ⟨⟨[], by simp, by simp⟩, fun b o h hn => hk b o h fun e => hn (e ▸ hm), fun b o h => ?_, rfl, rfl⟩⟩
  · by_cases hkn : n = k
    · subst hkn
      have hlt : n < σ.length := by rw [← S.len]; exact (List.getElem?_eq_some_iff.mp ha).1
      rw [List.getElem?_set_self hlt] at e
      cases e
      exact ⟨a, items', _, ha, hself, hl, mono r⟩
    · rw [List.getElem?_set_ne hkn] at e
      obtain ⟨b, its, ep', h1, h2, h3, h4⟩ := S.cell e
      refine ⟨b, its, ep', h1, hk b _ h2 fun e => ?_, h3, mono h4⟩
      subst e
      exact hkn ((List.getElem?_inj (List.getElem?_eq_some_iff.mp ha).1 S.nd).mp (ha.trans h1.symm))
  · have h1 := S.fresh a hm
    rw [e] at h; rw [h] at h1; cases h1
  · by_cases e : b = a
    · subst e; exact ⟨_, hself⟩
    · exact ⟨o, hk b o h e⟩
end Mine
end

section
open PySem PySem.W PyProof.Rows PySem.Calls
set_option Elab.async false
set_option linter.unusedVariables false
namespace Mine

/-- what stands ahead of the law's call -/
structure Base where
  prog : Program
  w : World
  T : Tabs
  h₀ : Heap
  mg : Str → Option Value
  mb : Str → Option Value
  /-- where the functions stand -/
  at' : Nat → Option Addr

/-- what may be asked of a value's making -/
noncomputable def Out (B : Base) (μ : List Addr) (s : Shared) (σ' : Store) (v : V) (Q : Value → Shared → Prop) : Prop := ∀ v' s' μ', SOk B.h₀ μ' σ' s'.heap → Stp μ μ' s s' → Rep B.h₀ μ' s'.heap v' v → Q v' s'
/-- the names of a block: what the scope says, and which slot a name has -/
structure Cx where
  scope : Scope
  slot : List (Str × Nat)
  n : Nat

/-- a name's value -/
inductive Held (h₀ : Heap) (cx : Cx) (env : Env) (μ : List Addr) (h : Heap) (m : Str → Option Value) (n : Str) (v : V) : Prop where
  | loc {v' : Value} : cx.scope.names.lookup n = some .local → m n = some v' → Rep h₀ μ h v' v → Held h₀ cx env μ h m n v
  | cel {c : Addr} {v' : Value} : cx.scope.names.lookup n = some .cell → env.cells.lookup n = some c → h.IsCell c (some v') → Rep h₀ μ h v' v → Held h₀ cx env μ h m n v

structure FrOk (h₀ : Heap) (cx : Cx) (env : Env) (ρ : REnv) (μ : List Addr) (h : Heap) : Prop where
  sc : env.scope = cx.scope
  fk : cx.scope.kind = .function
  gl : env.globals = mainGlobals
  bl : env.builtins = builtinsNs
  len : ρ.length = cx.n
  nsm : ∃ m, h.Ns env.locals m ∧ ∀ n i v, cx.slot.lookup n = some i → ρ[i]? = some (some v) → Held h₀ cx env μ h m n v
  own : env.locals ∉ μ ∧ h₀.get? env.locals = none
  cel : ∀ n c, (n, c) ∈ env.cells → c ∉ μ ∧ h₀.get? c = none ∧ c ≠ env.locals ∧ ∃ v, h.IsCell c v
  apart : ∀ n n' c, (n, c) ∈ env.cells → (n', c) ∈ env.cells → n = n'
  hasc : ∀ n, cx.scope.names.lookup n = some .cell → ∃ c, env.cells.lookup n = some c

structure Rm (A : Around) (d : Nat) : Prop where
  hd : A.handled = none
  dep : A.depth + d < recursionLimit
  un : A.units + 3 * d + 100 < cLine

noncomputable def CallsOk (B : Base) (C : Calls) (d : Nat) : Prop :=
  ∀ (f : Nat) (a : Addr) (vs : List V) (σ : Store) (v : V) (σ' : Store), B.at' f = some a → C f vs σ = some (v, σ') →
    ∀ (A : Around) (μ : List Addr) (s : Shared) (vs' : List Value), Rm A d → SOk B.h₀ μ σ s.heap → s.gens = #[] → Reps B.h₀ μ s.heap vs' vs →
    ∀ (Q : Value → Shared → Prop) (E : Value → Shared → Prop), Out B μ s σ' v Q →
    wpAny (model B.prog B.w) A (call (.ref a) vs') Q E s

/-- where an expression stands -/
structure Sit (B : Base) (C : Calls) (A : Around) (cx : Cx) (env : Env) (ρ : REnv) (μ : List Addr) (σ : Store) (s : Shared) : Prop where
  S : SOk B.h₀ μ σ s.heap
  F : FrOk B.h₀ cx env ρ μ s.heap
  gens : s.gens = #[]
  R : Rm A 0
  calls : ∀ (f : Nat) (a : Addr) (vs : List V) (σ : Store) (v : V) (σ' : Store), B.at' f = some a → C f vs σ = some (v, σ') →
    ∀ (μ : List Addr) (s : Shared) (vs' : List Value), SOk B.h₀ μ σ s.heap → s.gens = #[] → Reps B.h₀ μ s.heap vs' vs →
    ∀ (Q : Value → Shared → Prop) (E : Value → Shared → Prop), Out B μ s σ' v Q →
    wpAny (model B.prog B.w) A (call (.ref a) vs') Q E s

noncomputable def OutE (B : Base) (C : Calls) (A : Around) (cx : Cx) (env : Env) (ρ : REnv) (μ : List Addr) (s : Shared) (σ' : Store) (v : V) (Q : Value → Shared → Prop) : Prop := ∀ v' s' μ', Sit B C A cx env ρ μ' σ' s' → Stp μ μ' s s' → Rep B.h₀ μ' s'.heap v' v → Q v' s'
noncomputable def OutT (B : Base) (C : Calls) (A : Around) (cx : Cx) (env : Env) (ρ : REnv) (μ : List Addr) (s : Shared) (σ' : Store) (b : Bool) (Q : Bool → Shared → Prop) : Prop := ∀ s' μ', Sit B C A cx env ρ μ' σ' s' → Stp μ μ' s s' → Q b s'
noncomputable def OutL (B : Base) (C : Calls) (A : Around) (cx : Cx) (env : Env) (ρ : REnv) (μ : List Addr) (s : Shared) (σ' : Store) (vs : List V) (Q : List Value → Shared → Prop) : Prop := ∀ vs' s' μ', Sit B C A cx env ρ μ' σ' s' → Stp μ μ' s s' → Reps B.h₀ μ' s'.heap vs' vs → Q vs' s'
theorem Stp.mem {μ μ' : List Addr} {s s' : Shared} (p : Stp μ μ' s s') {a : Addr} {o : Obj} (hl : s.heap.get? a = some o) (ha : a ∉ μ) : a ∉ μ' := by
  obtain ⟨ν, rfl, h⟩ := p.pre
  intro hm
  rcases List.mem_append.mp hm with hm | hm
  · exact ha hm
  · rw [h a hm] at hl; cases hl

theorem FrOk.step {h₀ : Heap} {cx : Cx} {env : Env} {ρ : REnv} {μ μ' : List Addr} {σ : Store} {s s' : Shared} (F : FrOk h₀ cx env ρ μ s.heap) (S : SOk h₀ μ σ s.heap) (p : Stp μ μ' s s') : FrOk h₀ cx env ρ μ' s'.heap := by
  obtain ⟨m, hn, hv⟩ := F.nsm
  have hn' : s'.heap.Ns env.locals m := hn.at' fun o e => p.keep _ o e F.own.1
  have hc : ∀ n c v, (n, c) ∈ env.cells → s.heap.IsCell c v → s'.heap.IsCell c v := fun n c v hm ⟨o, ho, hd⟩ => ⟨o, p.keep _ o ho (F.cel n c hm).1, hd⟩
  refine ⟨F.sc, F.fk, F.gl, F.bl, F.len, ⟨m, hn', fun n i v hs hr => ?_⟩, ⟨?_, F.own.2⟩, fun n c hm => ?_, F.apart, F.hasc⟩
  · cases hv n i v hs hr with
    | loc h1 h2 h3 => exact .loc h1 h2 (h3.step S p)
    | cel h1 h2 h3 h4 => exact .cel h1 h2 (hc n _ _ (mem_of_lookup h2) h3) (h4.step S p)
  · obtain ⟨o, _, _, ho, _⟩ := hn
    exact p.mem ho F.own.1
  · obtain ⟨h1, h2, h3, v, hv⟩ := F.cel n c hm
    exact ⟨p.mem hv.choose_spec.1 h1, h2, h3, v, hc n c v hm hv⟩

section
variable {B : Base} {C : Calls} {A : Around} {cx : Cx} {env : Env} {ρ : REnv} {μ μ' : List Addr} {σ σ' : Store} {s s' : Shared}
theorem Sit.go (X : Sit B C A cx env ρ μ σ s) (S' : SOk B.h₀ μ' σ' s'.heap) (p : Stp μ μ' s s') : Sit B C A cx env ρ μ' σ' s' :=
  ⟨S', X.F.step X.S p, p.gens.trans X.gens, X.R, X.calls⟩
/-- the heap only grew, and so did the tokens -/
theorem Sit.grown (X : Sit B C A cx env ρ μ σ s) {h' : Heap} {t : Nat} (hk : ∀ b o, s.heap.get? b = some o → h'.get? b = some o) : Sit B C A cx env ρ μ σ { s with heap := h', toks := t } :=
  X.go (X.S.grown hk) (Stp.grown hk)
end

noncomputable abbrev SndE (B : Base) (cx : Cx) (e : Expr) (c : Ex) : Prop :=
  ∀ {C : Calls} {A : Around} {env : Env} {ρ : REnv} {μ : List Addr} {σ : Store} {s : Shared}, Sit B C A cx env ρ μ σ s → ∀ {v : V} {σ' : Store}, ev B.T C ρ σ c = some (v, σ') →
  ∀ {Q : Value → Shared → Prop} {E : Value → Shared → Prop}, OutE B C A cx env ρ μ s σ' v Q →
  wpAny (model B.prog B.w) A (eval e env) Q E s
/-- the same, as a condition -/
noncomputable abbrev SndT (B : Base) (cx : Cx) (e : Expr) (c : Ex) : Prop :=
  ∀ {C : Calls} {A : Around} {env : Env} {ρ : REnv} {μ : List Addr} {σ : Store} {s : Shared}, Sit B C A cx env ρ μ σ s → ∀ {b : Bool} {σ' : Store}, ev B.T C ρ σ c = some (.bool b, σ') →
  ∀ {Q : Bool → Shared → Prop} {E : Value → Shared → Prop}, OutT B C A cx env ρ μ s σ' b Q →
  wpAny (model B.prog B.w) A (isTrue e env (eval e env)) Q E s
/-- both -/
noncomputable abbrev Snd (B : Base) (cx : Cx) (e : Expr) (c : Ex) : Prop := SndE B cx e c ∧ SndT B cx e c

section
variable {B : Base} {cx : Cx}

theorem snd_of {e : Expr} {c : Ex} (h : SndE B cx e c) (he : ∀ env, isTrue e env (eval e env) = (do let v ← eval e env; standAt e.pos; holding [v] (truthy v))) : Snd B cx e c :=
  ⟨h, fun X => fun hev => fun hQ => by
    refine isTrue_plain (h X hev fun v' s' μ' X' p r => ?_) (he _)
    cases r
    exact wpAny_truthy_bool (hQ _ _ X' p)⟩

theorem snd_int (i : Int) (k : Nat) (p : Pos) : Snd B cx (.Constant (.int i) k p) (.int i) :=
  snd_of (fun X => fun hev => fun hQ => by
    cases hev
    exact wpAny_Constant_int (hQ _ _ _ (X.grown fun _ _ h => h) .tok (.int _ _))) fun _ => rfl
theorem snd_str (l : List Nat) (hl : l.length ≤ LIM) (k : Nat) (p : Pos) : Snd B cx (.Constant (.str ⟨l.toArray⟩) k p) (.str l) :=
  snd_of (fun X => fun hev => fun hQ => by
    cases hev
    exact Constant_str (hQ _ _ _ (X.grown fun _ _ h => h) .tok (.str _ _ hl))) fun _ => rfl
theorem snd_bool (b : Bool) (k : Nat) (p : Pos) : Snd B cx (.Constant (.bool b) k p) (.bool b) :=
  snd_of (fun X => fun hev => fun hQ => by
    cases hev
    exact Constant_bool (hQ _ _ _ X (.refl _ _) (.bool _))) fun _ => rfl
theorem snd_none (k : Nat) (p : Pos) : Snd B cx (.Constant .none k p) .none :=
  snd_of (fun X => fun hev => fun hQ => by
    cases hev
    exact Constant_none (hQ _ _ _ X (.refl _ _) .none)) fun _ => rfl

theorem FrOk.kindOf {h₀ : Heap} {env : Env} {ρ : REnv} {μ : List Addr} {h : Heap} (F : FrOk h₀ cx env ρ μ h) (n : Str) : env.kindOf n = cx.scope.names.lookup n := by
  show env.scope.names.lookup n = _
  rw [F.sc]

/-- a name of the block's own -/
theorem load_name {n : Str} {i : Nat} (hs : cx.slot.lookup n = some i) {C : Calls} {A : Around} {env : Env} {ρ : REnv} {μ : List Addr} {σ : Store} {s : Shared} (X : Sit B C A cx env ρ μ σ s) {v : V}
    (hv : ρ[i]? = some (some v)) {Q : Value → Shared → Prop} {E : Value → Shared → Prop} (hQ : ∀ v', Rep B.h₀ μ s.heap v' v → Q v' s) : wpAny (model B.prog B.w) A (loadName env n) Q E s := by
  obtain ⟨m, hn, hm⟩ := X.F.nsm
  have hfk : env.scope.kind = .function := by rw [X.F.sc]; exact X.F.fk
  cases hm n i v hs hv with
  | loc h1 h2 h3 => exact wpAny_loadName_local hfk ((X.F.kindOf n).trans h1) hn h2 (hQ _ h3)
  | cel h1 h2 h3 h4 => exact wpAny_loadName_cell hfk ((X.F.kindOf n).trans h1) h2 h3 (hQ _ h4)
theorem snd_var {n : Str} {i : Nat} (hs : cx.slot.lookup n = some i) (hd : (n == ("__debug__" : Str)) = false) (p : Pos) : Snd B cx (.Name n p) (.var i) :=
  snd_of (fun {C A env ρ μ σ s} X {v σ'} hev {Q E} hQ => by
    simp only [ev] at hev
    split at hev
    · rename_i x hx
      cases hev
      exact wpAny_Name (load_name hs X hx fun v' r => hQ _ _ _ X (.refl _ _) r) hd
    · cases hev) fun _ => rfl

noncomputable abbrev OpB (B : Base) (o : Bop) (t : Value → Value → Sem Value) : Prop :=
  ∀ {A : Around} {μ : List Addr} {σ : Store} {s : Shared} {x' y' : Value} {x y v : V} {σ' : Store}, Rm A 0 → SOk B.h₀ μ σ s.heap → Rep B.h₀ μ s.heap x' x → Rep B.h₀ μ s.heap y' y → evB o x y σ = some (v, σ') →
  ∀ {Q : Value → Shared → Prop} {E : Value → Shared → Prop}, Out B μ s σ' v Q → wpAny (model B.prog B.w) A (t x' y') Q E s
noncomputable abbrev OpU (B : Base) (o : Uop) (t : Value → Sem Value) : Prop :=
  ∀ {A : Around} {μ : List Addr} {σ : Store} {s : Shared} {x' : Value} {x v : V} {σ' : Store}, Rm A 0 → SOk B.h₀ μ σ s.heap → Rep B.h₀ μ s.heap x' x → evU B.T o x σ = some (v, σ') →
  ∀ {Q : Value → Shared → Prop} {E : Value → Shared → Prop}, Out B μ s σ' v Q → wpAny (model B.prog B.w) A (t x') Q E s

inductive EvBin (T : Tabs) (C : Calls) (ρ : REnv) (σ σ' : Store) (o : Bop) (a b : Ex) (v : V) : Prop where
  | mk (x : V) (σ₁ : Store) (y : V) (σ₂ : Store) : ev T C ρ σ a = some (x, σ₁) → ev T C ρ σ₁ b = some (y, σ₂) → evB o x y σ₂ = some (v, σ') → EvBin T C ρ σ σ' o a b v
inductive EvUn (T : Tabs) (C : Calls) (ρ : REnv) (σ σ' : Store) (o : Uop) (a : Ex) (v : V) : Prop where
  | mk (x : V) (σ₁ : Store) : ev T C ρ σ a = some (x, σ₁) → evU T o x σ₁ = some (v, σ') → EvUn T C ρ σ σ' o a v
theorem ev_bin {T : Tabs} {C : Calls} {ρ : REnv} {σ σ' : Store} {o : Bop} {a b : Ex} {v : V} (h : ev T C ρ σ (.bin o a b) = some (v, σ')) :
    EvBin T C ρ σ σ' o a b v := by
  simp only [ev] at h
  split at h
  · rename_i x σ₁ h1
    split at h
    · rename_i y σ₂ h2
      exact ⟨x, σ₁, y, σ₂, h1, h2, h⟩
    · first | exact noSome h | cases h
  · first | exact noSome h | cases h
theorem ev_un {T : Tabs} {C : Calls} {ρ : REnv} {σ σ' : Store} {o : Uop} {a : Ex} {v : V} (h : ev T C ρ σ (.un o a) = some (v, σ')) :
    EvUn T C ρ σ σ' o a v := by
  simp only [ev] at h
  split at h
  · rename_i x σ₁ h1
    exact ⟨x, σ₁, h1, h⟩
  · first | exact noSome h | cases h

/-- two values, one after the other -/
theorem two {a b : Expr} {a' b' : Ex} (ha : SndE B cx a a') (hb : SndE B cx b b') {C : Calls} {A : Around} {env : Env} {ρ : REnv} {μ : List Addr} {σ σ₁ σ₂ : Store} {s : Shared} (X : Sit B C A cx env ρ μ σ s) {x y : V}
    (h1 : ev B.T C ρ σ a' = some (x, σ₁)) (h2 : ev B.T C ρ σ₁ b' = some (y, σ₂)) {Q : Value → Value → Shared → Prop} {E : Value → Shared → Prop}
    (hQ : ∀ x' y' s' μ', Sit B C A cx env ρ μ' σ₂ s' → Stp μ μ' s s' → Rep B.h₀ μ' s'.heap x' x → Rep B.h₀ μ' s'.heap y' y → Q x' y' s') :
    wpAny (model B.prog B.w) A (eval a env) (fun v s₁ => wpAny (model B.prog B.w) A (eval b env) (fun u s₂ => Q v u s₂) E s₁) E s :=
  ha X h1 fun x' s₁ μ₁ X₁ p₁ r₁ => hb X₁ h2 fun y' s₂ μ₂ X₂ p₂ r₂ => hQ _ _ _ _ X₂ (p₁.trans p₂) (r₁.step X₁.S p₂) r₂

theorem snd_binop {a b : Expr} {a' b' : Ex} {o : Bop} {op : Operator} (ha : Snd B cx a a') (hb : Snd B cx b b') (ho : OpB B o (binaryOp op)) (p : Pos) : Snd B cx (.BinOp a op b p) (.bin o a' b') :=
  snd_of (fun X => fun hev => fun hQ => by
    obtain ⟨x, σ₁, y, σ₂, h1, h2, h3⟩ := ev_bin hev
    exact wpAny_BinOp (two ha.1 hb.1 X h1 h2 fun x' y' s' μ' X' p' r r' => ho X'.R X'.S r r' h3 fun v' s'' μ'' S'' p'' r'' => hQ _ _ _ (X'.go S'' p'') (p'.trans p'') r'')) fun _ => rfl
theorem snd_cmp {a b : Expr} {a' b' : Ex} {o : Bop} {op : CmpOp} (ha : Snd B cx a a') (hb : Snd B cx b b') (ho : OpB B o (compareOp op)) (hm : behindInMarks op b = false) (p : Pos) :
    Snd B cx (.Compare a [op] [b] p) (.bin o a' b') :=
  ⟨fun X => fun hev => fun hQ => by
    obtain ⟨x, σ₁, y, σ₂, h1, h2, h3⟩ := ev_bin hev
    exact wpAny_Compare1 (two ha.1 hb.1 X h1 h2 fun x' y' s' μ' X' p' r r' => ho X'.R X'.S r r' h3 fun v' s'' μ'' S'' p'' r'' => hQ _ _ _ (X'.go S'' p'') (p'.trans p'') r'') hm,
   fun X => fun hev => fun hQ => by
    obtain ⟨x, σ₁, y, σ₂, h1, h2, h3⟩ := ev_bin hev
    refine wpAny_isTrue_Compare1 (two ha.1 hb.1 X h1 h2 fun x' y' s' μ' X' p' r r' => ho X'.R X'.S r r' h3 fun v' s'' μ'' S'' p'' r'' => ?_) hm
    cases r''
    exact wpAny_truthy_bool (hQ _ _ (X'.go S'' p'') (p'.trans p''))⟩
/-- a comparison that looks into a table -/
theorem snd_cmpU {a b : Expr} {a' : Ex} {o : Uop} {op : CmpOp} (ha : Snd B cx a a') (hb : ∀ {C : Calls} {A : Around} {env : Env} {ρ : REnv} {μ : List Addr} {σ : Store} {s : Shared}, Sit B C A cx env ρ μ σ s → ∀ {Q : Value → Shared → Prop} {E : Value → Shared → Prop} {x' : Value} {x v : V} {σ' : Store},
      Rep B.h₀ μ s.heap x' x → evU B.T o x σ = some (v, σ') → Out B μ s σ' v Q →
      wpAny (model B.prog B.w) A (eval b env) (fun y' s' => wpAny (model B.prog B.w) A (compareOp op x' y') Q E s') E s) (hm : behindInMarks op b = false) (p : Pos) :
    Snd B cx (.Compare a [op] [b] p) (.un o a') :=
  ⟨fun X => fun hev => fun hQ => by
    obtain ⟨x, σ₁, h1, h3⟩ := ev_un hev
    exact wpAny_Compare1 (ha.1 X h1 fun x' s' μ' X' p' r => hb X' r h3 fun v' s'' μ'' S'' p'' r'' => hQ _ _ _ (X'.go S'' p'') (p'.trans p'') r'') hm,
   fun X => fun hev => fun hQ => by
    obtain ⟨x, σ₁, h1, h3⟩ := ev_un hev
    refine wpAny_isTrue_Compare1 (ha.1 X h1 fun x' s' μ' X' p' r => hb X' r h3 fun v' s'' μ'' S'' p'' r'' => ?_) hm
    cases r''
    exact wpAny_truthy_bool (hQ _ _ (X'.go S'' p'') (p'.trans p''))⟩
theorem snd_unop {a : Expr} {a' : Ex} {o : Uop} {op : UnaryOp} (ha : Snd B cx a a') (ho : OpU B o (unaryOp op)) (p : Pos) (hop : op ≠ .Not) : Snd B cx (.UnaryOp op a p) (.un o a') :=
  snd_of (fun X => fun hev => fun hQ => by
    obtain ⟨x, σ₁, h1, h3⟩ := ev_un hev
    exact UnaryOp_ (ha.1 X h1 fun x' s' μ' X' p' r => ho X'.R X'.S r h3 fun v' s'' μ'' S'' p'' r'' => hQ _ _ _ (X'.go S'' p'') (p'.trans p'') r'')) fun _ => by cases op <;> first | rfl | exact absurd rfl hop

theorem ev_not {T : Tabs} {C : Calls} {ρ : REnv} {σ σ' : Store} {a : Ex} {v : V} (h : ev T C ρ σ (.not a) = some (v, σ')) : ∃ b, ev T C ρ σ a = some (.bool b, σ') ∧ v = .bool (!b) := by
  simp only [ev] at h
  split at h
  · rename_i b σ₁ h1
    cases h; exact ⟨b, h1, rfl⟩
  · first | exact noSome h | cases h
theorem snd_not {a : Expr} {a' : Ex} (ha : Snd B cx a a') (p : Pos) : Snd B cx (.UnaryOp .Not a p) (.not a') :=
  ⟨fun X => fun hev => fun hQ => by
    obtain ⟨b, h1, rfl⟩ := ev_not hev
    refine UnaryOp_ (ha.1 X h1 fun x' s' μ' X' p' r => ?_)
    cases r
    exact not_of (wpAny_truthy_bool (hQ _ _ _ X' p' (.bool _))),
   fun X => fun hev => fun hQ => by
    obtain ⟨b, h1, e⟩ := ev_not hev
    cases e
    exact isTrue_not (ha.2 X h1 fun s' μ' X' p' => hQ _ _ X' p')⟩

theorem ev_and {T : Tabs} {C : Calls} {ρ : REnv} {σ σ' : Store} {a b : Ex} {v : V} (h : ev T C ρ σ (.and a b) = some (v, σ')) :
    (∃ σ₁ c, ev T C ρ σ a = some (.bool true, σ₁) ∧ ev T C ρ σ₁ b = some (.bool c, σ') ∧ v = .bool c) ∨ (ev T C ρ σ a = some (.bool false, σ') ∧ v = .bool false) := by
  simp only [ev] at h
  split at h
  · rename_i σ₁ h1
    split at h
    · rename_i c σ₂ h2; cases h; exact .inl ⟨_, _, h1, h2, rfl⟩
    · first | exact noSome h | cases h
  · rename_i σ₁ h1; cases h; exact .inr ⟨h1, rfl⟩
  · first | exact noSome h | cases h
theorem ev_or {T : Tabs} {C : Calls} {ρ : REnv} {σ σ' : Store} {a b : Ex} {v : V} (h : ev T C ρ σ (.or a b) = some (v, σ')) :
    (∃ σ₁ c, ev T C ρ σ a = some (.bool false, σ₁) ∧ ev T C ρ σ₁ b = some (.bool c, σ') ∧ v = .bool c) ∨ (ev T C ρ σ a = some (.bool true, σ') ∧ v = .bool true) := by
  simp only [ev] at h
  split at h
  · rename_i σ₁ h1
    split at h
    · rename_i c σ₂ h2; cases h; exact .inl ⟨_, _, h1, h2, rfl⟩
    · first | exact noSome h | cases h
  · rename_i σ₁ h1; cases h; exact .inr ⟨h1, rfl⟩
  · first | exact noSome h | cases h
theorem snd_and {a b : Expr} {rest : List Expr} {a' b' : Ex} {p : Pos} (ha : Snd B cx a a') (hb : Snd B cx (.BoolOp .And (b :: rest) p) b') : Snd B cx (.BoolOp .And (a :: b :: rest) p) (.and a' b') :=
  ⟨fun X => fun hev => fun hQ => by
    refine BoolOp_and ?_
    rcases ev_and hev with ⟨σ₁, c, h1, h2, rfl⟩ | ⟨h1, rfl⟩
    · refine ha.1 X h1 fun x' s' μ' X' p' r => ?_
      cases r
      exact wpAny_truthy_bool (hb.1 X' h2 fun v' s'' μ'' X'' p'' r'' => hQ _ _ _ X'' (p'.trans p'') r'')
    · refine ha.1 X h1 fun x' s' μ' X' p' r => ?_
      cases r
      exact wpAny_truthy_bool (hQ _ _ _ X' p' (.bool _)),
   fun X => fun hev => fun hQ => by
    refine isTrue_and ?_
    rcases ev_and hev with ⟨σ₁, c, h1, h2, e⟩ | ⟨h1, e⟩ <;> cases e
    · exact ha.2 X h1 fun s' μ' X' p' => hb.2 X' h2 fun s'' μ'' X'' p'' => hQ _ _ X'' (p'.trans p'')
    · exact ha.2 X h1 fun s' μ' X' p' => hQ _ _ X' p'⟩
theorem snd_or {a b : Expr} {rest : List Expr} {a' b' : Ex} {p : Pos} (ha : Snd B cx a a') (hb : Snd B cx (.BoolOp .Or (b :: rest) p) b') : Snd B cx (.BoolOp .Or (a :: b :: rest) p) (.or a' b') :=
  ⟨fun X => fun hev => fun hQ => by
    refine BoolOp_or ?_
    rcases ev_or hev with ⟨σ₁, c, h1, h2, rfl⟩ | ⟨h1, rfl⟩
    · refine ha.1 X h1 fun x' s' μ' X' p' r => ?_
      cases r
      exact wpAny_truthy_bool (hb.1 X' h2 fun v' s'' μ'' X'' p'' r'' => hQ _ _ _ X'' (p'.trans p'') r'')
    · refine ha.1 X h1 fun x' s' μ' X' p' r => ?_
      cases r
      exact wpAny_truthy_bool (hQ _ _ _ X' p' (.bool _)),
   fun X => fun hev => fun hQ => by
    refine isTrue_or ?_
    rcases ev_or hev with ⟨σ₁, c, h1, h2, e⟩ | ⟨h1, e⟩ <;> cases e
    · exact ha.2 X h1 fun s' μ' X' p' => hb.2 X' h2 fun s'' μ'' X'' p'' => hQ _ _ X'' (p'.trans p'')
    · exact ha.2 X h1 fun s' μ' X' p' => hQ _ _ X' p'⟩
theorem snd_boolOne {a : Expr} {a' : Ex} {o : BoolOp} (ha : Snd B cx a a') (p : Pos) : Snd B cx (.BoolOp o [a] p) a' :=
  ⟨fun X => fun hev => fun hQ => BoolOp_one (ha.1 X hev hQ),
   fun {C A env ρ μ σ s} X {v σ'} hev {Q E} hQ => by
    cases o with
    | And =>
      refine isTrue_and (ha.2 X hev fun s' μ' X' p' => ?_)
      cases v
      · exact hQ _ _ X' p'
      · exact isTrue_and_nil (hQ _ _ X' p')
    | Or =>
      refine isTrue_or (ha.2 X hev fun s' μ' X' p' => ?_)
      cases v
      · exact isTrue_or_nil (hQ _ _ X' p')
      · exact hQ _ _ X' p'⟩

theorem ev_ite {T : Tabs} {C : Calls} {ρ : REnv} {σ σ' : Store} {c a b : Ex} {v : V} (h : ev T C ρ σ (.ite c a b) = some (v, σ')) :
    ∃ t σ₁, ev T C ρ σ c = some (.bool t, σ₁) ∧ ev T C ρ σ₁ (if t then a else b) = some (v, σ') := by
  simp only [ev] at h
  split at h
  · rename_i σ₁ h1; exact ⟨true, _, h1, h⟩
  · rename_i σ₁ h1; exact ⟨false, _, h1, h⟩
  · first | exact noSome h | cases h
theorem snd_ite {c a b : Expr} {c' a' b' : Ex} (hc : Snd B cx c c') (ha : Snd B cx a a') (hb : Snd B cx b b') (p : Pos) : Snd B cx (.IfExp c a b p) (.ite c' a' b') :=
  ⟨fun X => fun hev => fun hQ => by
    obtain ⟨t, σ₁, h1, h2⟩ := ev_ite hev
    refine IfExp_ (hc.2 X h1 fun s' μ' X' p' => ?_)
    cases t
    · exact hb.1 X' h2 fun v' s'' μ'' X'' p'' r'' => hQ _ _ _ X'' (p'.trans p'') r''
    · exact ha.1 X' h2 fun v' s'' μ'' X'' p'' r'' => hQ _ _ _ X'' (p'.trans p'') r'',
   fun X => fun hev => fun hQ => by
    obtain ⟨t, σ₁, h1, h2⟩ := ev_ite hev
    refine isTrue_IfExp (hc.2 X h1 fun s' μ' X' p' => ?_)
    cases t
    · exact hb.2 X' h2 fun s'' μ'' X'' p'' => hQ _ _ X'' (p'.trans p'')
    · exact ha.2 X' h2 fun s'' μ'' X'' p'' => hQ _ _ X'' (p'.trans p'')⟩

/-- displays' and calls' items -/
noncomputable abbrev SndL (B : Base) (cx : Cx) (es : List Expr) (cs : Exs) : Prop :=
  ∀ {C : Calls} {A : Around} {env : Env} {ρ : REnv} {μ : List Addr} {σ : Store} {s : Shared} {pos : Pos}, Sit B C A cx env ρ μ σ s → ∀ {vs : List V} {σ' : Store}, evs B.T C ρ σ cs = some (vs, σ') →
  ∀ {Q : List Value → Shared → Prop} {E : Value → Shared → Prop}, OutL B C A cx env ρ μ s σ' vs Q →
  wpAny (model B.prog B.w) A (spliced (backTo pos (starEach es env))) Q E s
theorem sndL_nil : SndL B cx [] .nil := fun X => fun hev => fun hQ => by
  cases hev
  exact args_nil (hQ _ _ _ X (.refl _ _) .nil)
theorem sndL_cons {e : Expr} {es : List Expr} {c : Ex} {cs : Exs} (he : Snd B cx e c) (hes : SndL B cx es cs) (hst : ∀ env, starEach (e :: es) env = (false, eval e env) :: starEach es env) : SndL B cx (e :: es) (.cons c cs) :=
  fun X => fun hev => fun hQ => by
    simp only [evs] at hev
    split at hev
    · rename_i v σ₁ h1
      split at hev
      · rename_i vs₂ σ₂ h2
        cases hev
        exact args_cons (he.1 X h1 fun v' s₁ μ₁ X₁ p₁ r₁ => hes X₁ h2 fun vs' s₂ μ₂ X₂ p₂ r₂ => hQ _ _ _ X₂ (p₁.trans p₂) (.cons (r₁.step X₁.S p₂) r₂)) (hst _)
      · first | exact noSome hev | cases hev
    · first | exact noSome hev | cases hev

theorem snd_list {es : List Expr} {cs : Exs} (hes : SndL B cx es cs) (p : Pos) : Snd B cx (.List es p) (.list cs) :=
  snd_of (fun X => fun hev => fun hQ => by
    simp only [ev] at hev
    split at hev
    · rename_i vs σ₁ h1
      split at hev
      · rename_i hl
        cases hev
        refine wpAny_List (hes X h1 fun vs' s' μ' X' p' r => ⟨by rw [r.length]; exact hl, ?_⟩)
        obtain ⟨S', q, r'⟩ := SOk.new (t := s'.toks) X'.S r (by rw [r.length]; exact hl)
        exact hQ _ _ _ (X'.go S' q) (p'.trans q) r'
      · first | exact noSome hev | cases hev
    · cases hev) fun _ => rfl
theorem snd_tup {es : List Expr} {cs : Exs} (hes : SndL B cx es cs) (k : Nat) (p : Pos) : Snd B cx (.Tuple es k p) (.tup cs) :=
  snd_of (fun X => fun hev => fun hQ => by
    simp only [ev] at hev
    split at hev
    · rename_i vs σ₁ h1
      split at hev
      · rename_i hl
        cases hev
        refine wpAny_Tuple (hes X h1 fun vs' s' μ' X' p' r => ⟨by rw [r.length]; exact hl, ?_⟩)
        have hk : ∀ b o, s'.heap.get? b = some o → (s'.heap.push { cls := .type "tuple", data := .seq vs'.toArray }).get? b = some o := fun b o h => Heap.get?_push_of_some _ h
        exact hQ _ _ _ (X'.grown hk) (p'.trans (Stp.grown hk)) (.tup (Heap.get?_push_size _ rfl) (by rw [r.length]; exact hl) (r.grown hk))
      · first | exact noSome hev | cases hev
    · cases hev) fun _ => rfl
end
end Mine
end

section
open PySem PySem.W PyProof.Rows PySem.Calls
set_option Elab.async false
set_option linter.unusedVariables false
namespace Mine
theorem sizeLine_LIM : sizeLine = LIM := by rw [sizeLine_eq]; rfl
section
variable {B : Base}

theorem strAppend (a b : List Nat) : (⟨a.toArray⟩ : Str) ++ (⟨b.toArray⟩ : Str) = ⟨(a ++ b).toArray⟩ := by
  show Str.mk (a.toArray ++ b.toArray) = _
  simp
theorem strLen (a : List Nat) : (⟨a.toArray⟩ : Str).length = a.length := by
  show a.toArray.size = _
  simp
theorem strBeq (a b : List Nat) : ((⟨a.toArray⟩ : Str) == (⟨b.toArray⟩ : Str)) = (a == b) := by
  rw [Bool.eq_iff_iff]
  simp
theorem some_pair {α β : Type} {a c : α} {b d : β} (h : some (a, b) = some (c, d)) : c = a ∧ d = b := by cases h; exact ⟨rfl, rfl⟩
inductive IfS {α β : Type} (c : Prop) (a v : α) (b w : β) : Prop where
  | mk : c → v = a → w = b → IfS c a v b w
inductive MapP {α β γ : Type} (o : Option α) (f : α → β) (τ w : γ) (v : β) : Prop where
  | mk (x : α) : o = some x → v = f x → w = τ → MapP o f τ w v
theorem if_some {α β : Type} {c : Prop} [Decidable c] {a v : α} {b w : β} (h : (if c then some (a, b) else none) = some (v, w)) : IfS c a v b w := by
  split at h
  · rename_i hc; exact ⟨hc, (some_pair h).1, (some_pair h).2⟩
  · first | exact noSome h | cases h
theorem map_pair {α β γ : Type} {o : Option α} {f : α → β} {τ w : γ} {v : β} (h : (o.map fun x => (f x, τ)) = some (v, w)) : MapP o f τ w v := by
  cases o with
  | none => cases h
  | some x => exact ⟨x, rfl, (some_pair h).1, (some_pair h).2⟩
/-- an operation of two ints -/
theorem opB_ints {f : Int → Int → Option (V × Store)} {t : Value → Value → Sem Value} {A : Around} {μ : List Addr} {s : Shared} {x' y' : Value} {x y v : V} {σ' : Store} (rx : Rep B.h₀ μ s.heap x' x) (ry : Rep B.h₀ μ s.heap y' y) (h : bInt f x y = some (v, σ'))
    {Q : Value → Shared → Prop} {E : Value → Shared → Prop} (k : ∀ a b t₁ t₂, f a b = some (v, σ') → wpAny (model B.prog B.w) A (t (.int a t₁) (.int b t₂)) Q E s) : wpAny (model B.prog B.w) A (t x' y') Q E s := by
  replace h := bInt_inv h
  obtain ⟨a, b, rfl, rfl, h⟩ := h
  obtain ⟨t₁, rfl⟩ := rx.inv_int
  obtain ⟨t₂, rfl⟩ := ry.inv_int
  exact k a b t₁ t₂ h

theorem opB_add : OpB B .add (binaryOp .Add) := by
  intro A μ σ s x' y' x y v σ' R S rx ry h Q E hQ
  replace h := orE_inv h
  rcases h with h | h
  · exact opB_ints rx ry h fun a b t u h => by
      obtain ⟨rfl, rfl⟩ := some_pair h
      exact PySem.P.add_int (hQ _ _ _ S .tok (.int _ _))
  replace h := orE_inv h
  rcases h with h | h
  · replace h := bStr_inv h
    obtain ⟨a, b, rfl, rfl, h⟩ := h
    obtain ⟨hl, rfl, rfl⟩ := if_some h
    obtain ⟨t, rfl, _⟩ := rx.inv_str
    obtain ⟨u, rfl, _⟩ := ry.inv_str
    refine add_str (fun t' tk => hQ _ _ _ S .tok ?_) (by rw [strLen, strLen, sizeLine_LIM]; exact hl)
    rw [strAppend]; exact .str _ _ (by rw [List.length_append]; exact hl)
  · replace h := bLst_inv h
    obtain ⟨m, xs, n, ys, rfl, e1, rfl, e2, h⟩ := h
    obtain ⟨hl, rfl, rfl⟩ := if_some h
    obtain ⟨a, its, ep, rfl, ha, g1, l1, r1⟩ := rx.at_list S e1
    obtain ⟨b, its', ep', rfl, hb, g2, l2, r2⟩ := ry.at_list S e2
    have hl' : its.length + its'.length ≤ LIM := by rw [r1.length, r2.length]; exact hl
    refine PySem.P.add_list g1 g2 ?_ (by rw [List.size_toArray, List.size_toArray, sizeLine_LIM]; exact hl')
    obtain ⟨S', p, r⟩ := SOk.new (t := s.toks) S (r1.append r2) (by rw [List.length_append]; exact hl')
    rw [List.append_toArray]
    exact hQ _ _ _ S' p r
theorem opB_sub : OpB B .sub (binaryOp .Sub) := fun R S rx ry h _ _ hQ => opB_ints rx ry h fun a b t u h => by
  obtain ⟨rfl, rfl⟩ := some_pair h
  exact PySem.P.sub_int (hQ _ _ _ S .tok (.int _ _))
theorem opB_fdiv : OpB B .fdiv (binaryOp .FloorDiv) := fun R S rx ry h _ _ hQ => opB_ints rx ry h fun a b t u h => by
  obtain ⟨⟨h0, hb⟩, rfl, rfl⟩ := if_some h
  exact floordiv_int h0 (hQ _ _ _ S .tok (.int _ _)) (Or.inl (PyProof.noPylong_small (by (first | lia | omega))))
theorem opB_mod : OpB B .mod (binaryOp .Mod) := fun R S rx ry h _ _ hQ => opB_ints rx ry h fun a b t u h => by
  obtain ⟨h0, rfl, rfl⟩ := if_some h
  exact PyProof.Rows.mod_int' h0 (hQ _ _ _ S .tok (.int _ _))
theorem opB_pow : OpB B .pow (binaryOp .Pow) := fun R S rx ry h _ _ hQ => opB_ints rx ry h fun a b t u h => by
  obtain ⟨⟨h0, h1, h2⟩, rfl, rfl⟩ := if_some h
  exact pow_int_small h0 (by (first | lia | omega)) (by (first | lia | omega)) (hQ _ _ _ S .tok (.int _ _))
theorem opB_lt : OpB B .lt (compareOp .Lt) := fun R S rx ry h _ _ hQ => opB_ints rx ry h fun a b t u h => by
  obtain ⟨rfl, rfl⟩ := some_pair h
  exact PySem.P.lt_int (hQ _ _ _ S (.refl _ _) (.bool _))
theorem opB_le : OpB B .le (compareOp .LtE) := fun R S rx ry h _ _ hQ => opB_ints rx ry h fun a b t u h => by
  obtain ⟨rfl, rfl⟩ := some_pair h
  exact PySem.P.le_int (hQ _ _ _ S (.refl _ _) (.bool _))
theorem opB_gt : OpB B .gt (compareOp .Gt) := fun R S rx ry h _ _ hQ => opB_ints rx ry h fun a b t u h => by
  obtain ⟨rfl, rfl⟩ := some_pair h
  exact PySem.P.gt_int (hQ _ _ _ S (.refl _ _) (.bool _))
theorem opB_ge : OpB B .ge (compareOp .GtE) := fun R S rx ry h _ _ hQ => opB_ints rx ry h fun a b t u h => by
  obtain ⟨rfl, rfl⟩ := some_pair h
  exact PySem.P.ge_int (hQ _ _ _ S (.refl _ _) (.bool _))
theorem opU_neg : OpU B .neg (unaryOp .USub) := by
  intro A μ σ s x' x v σ' R S rx h Q E hQ
  replace h := uInt_inv h
  obtain ⟨a, rfl, h⟩ := h
  obtain ⟨rfl, rfl⟩ := some_pair h
  obtain ⟨t, rfl⟩ := rx.inv_int
  exact PySem.P.neg_int (hQ _ _ _ S .tok (.int _ _))
/-- the answers of «is» -/
theorem isV_inv {x y : V} {r : Bool} (h : isV x y = some r) : (∃ a b, x = .bool a ∧ y = .bool b ∧ r = (a == b)) ∨ (y = .none ∧ ((x = .none ∧ r = true) ∨ (r = false ∧ ((∃ a, x = .int a) ∨ (∃ a, x = .str a) ∨ ∃ a, x = .tup a)))) := by
  unfold isV at h
  split at h
  · exact .inl ⟨_, _, rfl, rfl, (Option.some.inj h).symm⟩
  · exact .inr ⟨rfl, .inl ⟨rfl, (Option.some.inj h).symm⟩⟩
  · exact .inr ⟨rfl, .inr ⟨(Option.some.inj h).symm, .inl ⟨_, rfl⟩⟩⟩
  · exact .inr ⟨rfl, .inr ⟨(Option.some.inj h).symm, .inr (.inl ⟨_, rfl⟩)⟩⟩
  · exact .inr ⟨rfl, .inr ⟨(Option.some.inj h).symm, .inr (.inr ⟨_, rfl⟩)⟩⟩
  · first | exact noSome h | cases h
theorem isV_none_ok {h₀ : Heap} {μ : List Addr} {h : Heap} {x' : Value} {x : V} {r : Bool} (rx : Rep h₀ μ h x' x) (hx : (x = .none ∧ r = true) ∨ (r = false ∧ ((∃ a, x = .int a) ∨ (∃ a, x = .str a) ∨ ∃ a, x = .tup a))) : (x' == Value.none) = r := by
  rcases hx with ⟨rfl, rfl⟩ | ⟨rfl, ⟨a, rfl⟩ | ⟨a, rfl⟩ | ⟨a, rfl⟩⟩
  · obtain rfl := rx.inv_none; rfl
  · obtain ⟨t, rfl⟩ := rx.inv_int; rfl
  · obtain ⟨t, rfl, _⟩ := rx.inv_str; rfl
  · obtain ⟨b, _, _, rfl, _⟩ := rx.inv_tup; rfl
theorem opB_is : OpB B .is (compareOp .Is) := by
  intro A μ σ s x' y' x y v σ' R S rx ry h Q E hQ
  obtain ⟨r, h2, rfl, rfl⟩ := map_pair h
  rcases isV_inv h2 with ⟨a, b, rfl, rfl, rfl⟩ | ⟨rfl, hx⟩
  · obtain rfl := rx.inv_bool
    obtain rfl := ry.inv_bool
    exact is_bool (hQ _ _ _ S (.refl _ _) (.bool _))
  · obtain rfl := ry.inv_none
    refine is_none ?_
    rw [isV_none_ok rx hx]
    exact hQ _ _ _ S (.refl _ _) (.bool _)
theorem opB_isnot : OpB B .isnot (compareOp .IsNot) := by
  intro A μ σ s x' y' x y v σ' R S rx ry h Q E hQ
  obtain ⟨r, h2, rfl, rfl⟩ := map_pair (f := fun r => V.bool (!r)) h
  obtain ⟨rfl, h3⟩ := isN_inv h2
  rcases isV_inv h3 with ⟨a, b, _, e, _⟩ | ⟨_, hx⟩
  · cases e
  · obtain rfl := ry.inv_none
    refine isNot_none ?_
    rw [isV_none_ok rx hx]
    exact hQ _ _ _ S (.refl _ _) (.bool _)
theorem listMulNat (items : List Nat) : ∀ (k : Nat) (acc : Array Nat), List.foldl (fun x1 x2 => x1 ++ x2) acc (List.replicate k items.toArray) = (acc.toList ++ (List.replicate k items).flatten).toArray
  | 0, acc => by simp
  | k + 1, acc => by simp [List.replicate_succ, listMulNat items k, List.append_assoc]
theorem flat_len {α : Type} (l : List α) (k : Nat) : (List.replicate k l).flatten.length = l.length * k := by
  rw [List.length_flatten, List.map_replicate, List.sum_replicate_nat, Nat.mul_comm]
theorem mul_int_ok {A : Around} {s : Shared} {a n : Int} {t u : Tok} (h : a.natAbs < 1000000000 ∧ n.natAbs < 1000000000) {Q : Value → Shared → Prop} {E : Value → Shared → Prop} (hQ : ∀ t' tk, Q (.int (a * n) t') { s with toks := tk }) : wpAny (model B.prog B.w) A (binaryOp .Mult (.int a t) (.int n u)) Q E s :=
  PySem.P.mul_int (hQ _ _) (IntMulOk.of_left (intBits_le_64 (by (first | lia | omega)) (by (first | lia | omega))))
theorem mul_str_ok {A : Around} {s : Shared} {l : List Nat} {n : Int} {t u : Tok} (hl : l.length ≤ LIM) (h : 0 ≤ n ∧ n < 1000000 ∧ l.length * n.toNat ≤ LIM) {Q : Value → Shared → Prop} {E : Value → Shared → Prop} (hQ : ∀ t' tk, Q (.str ⟨(List.replicate n.toNat l).flatten.toArray⟩ t') { s with toks := tk }) :
    wpAny (model B.prog B.w) A (binaryOp .Mult (.str ⟨l.toArray⟩ t) (.int n u)) Q E s := by
  obtain ⟨h0, h1, h2⟩ := h
  refine PySem.P.mul_str (by
      have e1 : ¬ n < -(2 ^ 63 : Int) := by (first | lia | omega)
      have e2 : ¬ n ≥ 2 ^ 63 := by (first | lia | omega)
      rw [decide_eq_false e1, decide_eq_false e2]; rfl) (fun h3 _ hgt => ?_) (fun h3 _ => ?_) ?_
  · rw [strLen] at hgt
    have h4 : (l.length : Int) ≤ 16777216 := by have := hl; unfold LIM at this; (first | lia | omega)
    have h5 : (9223372036854 : Int) ≤ (2 ^ 63 - 1) / n := by rw [Int.le_ediv_iff_mul_le (by (first | lia | omega))]; (first | lia | omega)
    (first | lia | omega)
  · unfold Builtin.Str.tooLong
    rw [strLen, decide_eq_false_iff_not, sizeLine_LIM]; (first | lia | omega)
  · by_cases hn : n < 1
    · rw [if_pos hn]
      have e0 : n.toNat = 0 := by (first | lia | omega)
      rw [e0] at hQ
      exact ⟨by decide, hQ _ _⟩
    · rw [if_neg hn]
      by_cases hc : (n == 1 || (⟨l.toArray⟩ : Str).length == 0) = true
      · rw [if_pos hc]
        have e : (List.replicate n.toNat l).flatten = l := by
          rw [strLen] at hc
          rcases Bool.or_eq_true_iff.mp hc with e | e
          · have : n = 1 := by simpa using e
            subst this; simp
          · have : l = [] := by simpa using e
            subst this; simp
        rw [e] at hQ
        exact hQ _ _
      · rw [if_neg hc]
        have e : (⟨(List.replicate n.toNat (⟨l.toArray⟩ : Str).cps).foldl (· ++ ·) #[]⟩ : Str) = ⟨(List.replicate n.toNat l).flatten.toArray⟩ := by
          have := listMulNat l n.toNat #[]
          simp at this
          simp [this]
        rw [e]
        exact ⟨by rw [strLen, sizeLine_LIM, flat_len]; exact h2, hQ _ _⟩
theorem opB_mul : OpB B .mul (binaryOp .Mult) := by
  intro A μ σ s x' y' x y v σ' R S rx ry h Q E hQ
  replace h := uInt_inv h
  obtain ⟨n, rfl, h⟩ := h
  obtain ⟨u, rfl⟩ := ry.inv_int
  replace h := orE_inv h
  rcases h with h | h
  · replace h := uInt_inv h
    obtain ⟨a, rfl, h⟩ := h
    obtain ⟨h0, rfl, rfl⟩ := if_some h
    obtain ⟨t, rfl⟩ := rx.inv_int
    exact mul_int_ok h0 fun t' tk => hQ _ _ _ S .tok (.int _ _)
  replace h := orE_inv h
  rcases h with h | h
  · replace h := uStr_inv h
    obtain ⟨l, rfl, h⟩ := h
    obtain ⟨h0, rfl, rfl⟩ := if_some h
    obtain ⟨t, rfl, hl⟩ := rx.inv_str
    exact mul_str_ok hl h0 fun t' tk => hQ _ _ _ S .tok (.str _ _ (by rw [flat_len]; exact h0.2.2))
  · replace h := uLst_inv h
    obtain ⟨m, xs, rfl, e1, h⟩ := h
    obtain ⟨⟨h0, h1, h2⟩, rfl, rfl⟩ := if_some h
    obtain ⟨a, its, ep, rfl, ha, g1, l1, r1⟩ := rx.at_list S e1
    have hl' : its.length * n.toNat ≤ LIM := by rw [r1.length]; exact h2
    have hL : LIM = 16777216 := rfl
    refine wpAny_binaryOp_repeat_ref (T := "list") (U := "int") (by decide) ⟨_, g1, rfl⟩ (fun s' => typeIs_int s' n u) noFill_list_mul F.fills_int_mul F.slot_int_rmul repeat_list F.slot_int_index.lookup
      (call_meets F.slot_int_rmul (typeIs_int s n u) F.entry_int_rmul (F.args_int_rmul_2 _ _) (lm_int_rmul_list_any n u a its.toArray ep none #[])
        ⟨g1, rfl, ⟨_, g1, rfl⟩, call_meets F.slot_list_mul ⟨_, g1, rfl⟩ F.entry_list_mul (F.args_list_mul_2 _ _)
          (lm_list_mul_any a its.toArray ep none #[] n u (by simp [Builtin.List.listFitsIndex]; (first | lia | omega)) (by rw [List.size_toArray]; (first | lia | omega)) (by rw [List.size_toArray]; unfold Builtin.List.listTooLong; rw [sizeLine_LIM]; simp; (first | lia | omega)))
          ⟨g1, ?_⟩⟩)
    rw [listMul_foldl_if]
    obtain ⟨S', p, r⟩ := SOk.new (t := s.toks) S (r1.flatRep n.toNat) (by rw [flat_len]; exact hl')
    exact hQ _ _ _ S' p r
end
end Mine
end

section
open PySem PySem.W PyProof.Rows PySem.Calls PySem.SeqAt
set_option Elab.async false
set_option linter.unusedVariables false
namespace Mine
section
variable {h₀ : Heap} {μ : List Addr} {A : Around} {s : Shared}

/-- the answer at a place -/
noncomputable def flatAt (xs ys : List V) (j : Nat) : Bool := match xs[j]? with
  | some x => match ys[j]? with
    | some y => (flat1 x y).getD false
    | none => false
  | none => false
theorem flat1_ok {A : Around} {v v' : Value} {x x' : V} {b : Bool} (r : Rep h₀ μ s.heap v x) (r' : Rep h₀ μ s.heap v' x') (h : flat1 x x' = some b) : EqAt A s v v' b := by
  rcases flat1_inv h with ⟨a, c, rfl, rfl, rfl⟩ | ⟨a, c, rfl, rfl, rfl⟩
  · obtain ⟨t, rfl⟩ := r.inv_int
    obtain ⟨u, rfl⟩ := r'.inv_int
    exact .int_int _ _ _ _
  · obtain ⟨t, rfl, _⟩ := r.inv_str
    obtain ⟨u, rfl, _⟩ := r'.inv_str
    have := EqAt.str_str (A := A) (s := s) ⟨a.toArray⟩ t ⟨c.toArray⟩ u
    rw [strBeq] at this
    exact this
theorem eqFlat_len : ∀ {xs ys : List V} {b : Bool}, eqFlat xs ys = some b → xs.length = ys.length
  | [], [], _, _ => rfl
  | [], _ :: _, _, h => by first | exact noSome h | exact nomatch h
  | _ :: _, [], _, h => by first | exact noSome h | exact nomatch h
  | x :: xs, y :: ys, c, h => by
    obtain ⟨a, c, _, hr, _⟩ := eqFlat_inv h
    rw [List.length_cons, List.length_cons, eqFlat_len hr]
theorem eqFlat_ok : ∀ {its its' : List Value} {xs ys : List V} {b : Bool}, Reps h₀ μ s.heap its xs → Reps h₀ μ s.heap its' ys → eqFlat xs ys = some b →
    (∀ j (h1 : j < its.length) (h2 : j < its'.length), EqAt A s its[j] its'[j] (flatAt xs ys j)) ∧ (List.range its.length).all (flatAt xs ys) = b
  | its, its', [], [], b, r, r', h => by
    obtain rfl := r.inv_nil
    obtain rfl := Option.some.inj h
    exact ⟨fun j h1 => absurd h1 (Nat.not_lt_zero _), rfl⟩
  | _, _, [], _ :: _, _, _, _, h => by first | exact noSome h | exact nomatch h
  | _, _, _ :: _, [], _, _, _, h => by first | exact noSome h | exact nomatch h
  | its, its', x :: xs, y :: ys, b, r, r', h => by
    obtain ⟨v, vs, rfl, rv, rr⟩ := r.inv_cons
    obtain ⟨v', vs', rfl, rv', rr'⟩ := r'.inv_cons
    obtain ⟨a, c, h1, h2, rfl⟩ := eqFlat_inv h
    obtain ⟨i1, i2⟩ := eqFlat_ok rr rr' h2
    have e : flatAt (x :: xs) (y :: ys) 0 = a := by simp [flatAt, h1]
    refine ⟨fun j h1' h2' => ?_, ?_⟩
    · cases j with
      | zero => rw [e]; exact flat1_ok rv rv' h1
      | succ j => exact i1 j (Nat.lt_of_succ_lt_succ h1') (Nat.lt_of_succ_lt_succ h2')
    · rw [List.length_cons, List.range_succ_eq_map, List.all_cons, List.all_map, e, ← i2]
      rfl

theorem lists_rc {l m : Addr} {ep ep' : Nat} {its its' : List Value} {xs ys : List V} {b : Bool}
    (g1 : s.heap.get? l = some { cls := .type "list", dict := none, data := .seq (List.toArray its) ep, slots := #[] }) (r1 : Reps h₀ μ s.heap its xs)
    (g2 : s.heap.get? m = some { cls := .type "list", dict := none, data := .seq (List.toArray its') ep', slots := #[] }) (r2 : Reps h₀ μ s.heap its' ys) (hu : A.units < cLine)
    (h : eqList xs ys = some b) : RcAt A s (.ref l) (.ref m) b ∧ RcNeAt A s (.ref l) (.ref m) (!b) := by
  have L1 : s.heap.IsList l its.toArray := ⟨_, g1, rfl, _, rfl⟩
  have L2 : s.heap.IsList m its'.toArray := ⟨_, g2, rfl, _, rfl⟩
  unfold eqList at h
  split at h
  · rename_i hl
    have hsz : its.toArray.size = its'.toArray.size := by rw [List.size_toArray, List.size_toArray, r1.length, r2.length, hl]
    obtain ⟨h1, h2⟩ := eqFlat_ok (A := A.in1) r1 r2 h
    have hs : its.toArray.size = its.length := by simp
    have he : ∀ j (h1' : j < its.toArray.size) (h2' : j < its'.toArray.size), EqAt A.in1 s its.toArray[j] its'.toArray[j] (flatAt xs ys j) := fun j h3 h4 => by
      simpa using h1 j (by simpa using h3) (by simpa using h4)
    have a1 := RcAt.lists L1 L2 hsz hu he
    have a2 := RcNeAt.lists L1 L2 hsz hu he
    rw [hs, h2] at a1 a2
    exact ⟨a1, a2⟩
  · rename_i hl
    cases h
    have hsz : (its.toArray.size != its'.toArray.size) = true := by rw [List.size_toArray, List.size_toArray, r1.length, r2.length]; simpa using hl
    exact ⟨RcAt.lists_lengths L1 L2 hsz hu, RcNeAt.lists_lengths L1 L2 hsz hu⟩

theorem EqAt.lists' {l m : Addr} {ep ep' : Nat} {its its' : List Value} {xs ys : List V} {b : Bool}
    (g1 : s.heap.get? l = some { cls := .type "list", dict := none, data := .seq (List.toArray its) ep, slots := #[] }) (r1 : Reps h₀ μ s.heap its xs)
    (g2 : s.heap.get? m = some { cls := .type "list", dict := none, data := .seq (List.toArray its') ep', slots := #[] }) (r2 : Reps h₀ μ s.heap its' ys) (hu : A.units < cLine)
    (h : eqList xs ys = some b) (hne : l ≠ m) : EqAt A s (.ref l) (.ref m) b := .of_refs hne (lists_rc g1 r1 g2 r2 hu h).1

theorem all_true (n : Nat) : (List.range n).all (fun _ => true) = true := by simp

theorem base1_ok {A : Around} {v v' : Value} {x x' : V} {b : Bool} (r : Rep h₀ μ s.heap v x) (r' : Rep h₀ μ s.heap v' x') (h : base1 x x' = some b) : EqAt A s v v' b ∧ RcAt A s v v' b := by
  unfold base1 at h
  split at h
  · split at h
    · obtain rfl := r.inv_none
      obtain rfl := r'.inv_none
      obtain rfl := Option.some.inj h
      exact ⟨.same _, .none_none⟩
    · first | exact noSome h | cases h
  · split at h
    · obtain rfl := r.inv_bool
      obtain rfl := r'.inv_bool
      obtain rfl := Option.some.inj h
      exact ⟨.bool_bool _ _, .bool_bool _ _⟩
    · first | exact noSome h | cases h
  · split at h
    · obtain ⟨t, rfl⟩ := r.inv_int
      obtain ⟨u, rfl⟩ := r'.inv_int
      obtain rfl := Option.some.inj h
      exact ⟨.int_int _ _ _ _, .int_int _ _ _ _⟩
    · first | exact noSome h | cases h
  · split at h
    · rename_i a _ c
      obtain ⟨t, rfl, _⟩ := r.inv_str
      obtain ⟨u, rfl, _⟩ := r'.inv_str
      obtain rfl := Option.some.inj h
      have h1 := EqAt.str_str (A := A) (s := s) ⟨a.toArray⟩ t ⟨c.toArray⟩ u
      have h2 := RcAt.str_str (A := A) (s := s) ⟨a.toArray⟩ t ⟨c.toArray⟩ u
      rw [strBeq] at h1 h2
      exact ⟨h1, h2⟩
    · first | exact noSome h | cases h
  · first | exact noSome h | cases h
theorem eqqs_ok {f : V → V → Option Bool} (hf : ∀ {v v' : Value} {x x' : V}, Rep h₀ μ s.heap v x → Rep h₀ μ s.heap v' x' → f x x' = some true → EqAt A s v v' true) : ∀ {its its' : List Value} {l l' : List V} {b : Bool}, Reps h₀ μ s.heap its l → Reps h₀ μ s.heap its' l' → eqqs f l l' = some b →
    b = true ∧ its.length = its'.length ∧ ∀ j (h1 : j < its.length) (h2 : j < its'.length), EqAt A s its[j] its'[j] true
  | its, its', [], [], b, r, r', h => by
    obtain rfl := r.inv_nil
    obtain rfl := r'.inv_nil
    exact ⟨(Option.some.inj h).symm, rfl, fun j h1 => absurd h1 (Nat.not_lt_zero _)⟩
  | _, _, [], _ :: _, _, _, _, h => by first | exact noSome h | exact nomatch h
  | _, _, _ :: _, [], _, _, _, h => by first | exact noSome h | exact nomatch h
  | its, its', x :: xs, y :: ys, b, r, r', h => by
    obtain ⟨v, vs, rfl, rv, rr⟩ := r.inv_cons
    obtain ⟨v', vs', rfl, rv', rr'⟩ := r'.inv_cons
    rw [eqqs_cons] at h
    split at h
    · rename_i h1
      obtain ⟨e1, e2, e3⟩ := eqqs_ok hf rr rr' h
      refine ⟨e1, by rw [List.length_cons, List.length_cons, e2], fun j h3 h4 => ?_⟩
      cases j with
      | zero => exact hf rv rv' h1
      | succ j => exact e3 j (Nat.lt_of_succ_lt_succ h3) (Nat.lt_of_succ_lt_succ h4)
    · first | exact noSome h | cases h
/-- values without lists -/
theorem eqq_ok : ∀ (n : Nat) (A : Around) {v v' : Value} {x x' : V} {b : Bool}, Rep h₀ μ s.heap v x → Rep h₀ μ s.heap v' x' → A.units + n < cLine → V.eqq n x x' = some b → EqAt A s v v' b ∧ RcAt A s v v' b
  | 0, A, v, v', x, x', b, r, r', hu, h => base1_ok r r' h
  | n + 1, A, v, v', x, x', b, r, r', hu, h => by
    unfold V.eqq at h
    split at h
    · split at h
      · obtain ⟨a, its, k, rfl, g, hl, rr⟩ := r.inv_tup
        obtain ⟨a', its', k', rfl, g', hl', rr'⟩ := r'.inv_tup
        obtain ⟨rfl, e2, e3⟩ := eqqs_ok (A := A.in1) (fun q q' e => (eqq_ok n A.in1 q q' (by rw [Around.in1_units]; (first | lia | omega)) e).1) rr rr' h
        have T1 : s.heap.IsTuple a its.toArray := ⟨_, g, rfl, _, rfl⟩
        have T2 : s.heap.IsTuple a' its'.toArray := ⟨_, g', rfl, _, rfl⟩
        have hrc : RcAt A s (.ref a) (.ref a') true := by
          have := RcAt.tuples (e := fun _ => true) T1 T2 (A := A) (by (first | lia | omega)) fun j h1 h2 => by simpa using e3 j (by simpa using h1) (by simpa using h2)
          rw [all_true] at this
          simpa [e2] using this
        refine ⟨?_, hrc⟩
        by_cases e : a = a'
        · subst e; exact .same _
        · exact .of_refs e hrc
      · first | exact noSome h | cases h
    · exact base1_ok r r' h
end

section
variable {B : Base}
theorem eqV_ok {h₀ : Heap} {μ : List Addr} {σ : Store} {A : Around} {s : Shared} (S : SOk h₀ μ σ s.heap) {v v' : Value} {x x' : V} {b : Bool} (r : Rep h₀ μ s.heap v x) (r' : Rep h₀ μ s.heap v' x') (hu : A.units + 100 < cLine) (h : eqV σ x x' = some b) : RcAt A s v v' b := by
  unfold eqV at h
  split at h
  · split at h
    · split at h
      · rename_i xs e1
        split at h
        · rename_i ys e2
          obtain ⟨a, its, ep, rfl, ha, g1, l1, r1⟩ := r.at_list S e1
          obtain ⟨a', its', ep', rfl, ha', g2, l2, r2⟩ := r'.at_list S e2
          exact (lists_rc g1 r1 g2 r2 (by (first | lia | omega)) h).1
        · first | exact noSome h | cases h
      · first | exact noSome h | cases h
    · first | exact noSome h | cases h
  · exact (eqq_ok 60 A r r' (by (first | lia | omega)) h).2

theorem opB_eq : OpB B .eq (compareOp .Eq) := by
  intro A μ σ s x' y' x y v σ' R S rx ry h Q E hQ
  obtain ⟨b, hb, rfl, rfl⟩ := map_pair h
  exact eqV_ok S rx ry (by have := R.un; (first | lia | omega)) hb _ _ _ _ (hQ _ _ _ S (.refl _ _) (.bool _))
theorem opB_ne : OpB B .ne (compareOp .NotEq) := by
  intro A μ σ s x' y' x y v σ' R S rx ry h Q E hQ
  have hu := R.un
  replace h := orE_inv h
  rcases h with h | h
  · exact opB_ints rx ry h fun a b t u h => by
      obtain ⟨rfl, rfl⟩ := some_pair h
      exact PySem.P.ne_int (hQ _ _ _ S (.refl _ _) (.bool _))
  replace h := orE_inv h
  rcases h with h | h
  · replace h := bStr_inv h
    obtain ⟨a, b, rfl, rfl, h⟩ := h
    obtain ⟨rfl, rfl⟩ := some_pair h
    obtain ⟨t, rfl, _⟩ := rx.inv_str
    obtain ⟨u, rfl, _⟩ := ry.inv_str
    exact ne_str (by rw [bne, strBeq]; exact hQ _ _ _ S (.refl _ _) (.bool _))
  · replace h := bLst_inv h
    obtain ⟨m, xs, n, ys, rfl, e1, rfl, e2, h⟩ := h
    obtain ⟨c, hc, rfl, rfl⟩ := map_pair (f := fun r => V.bool (!r)) h
    obtain ⟨a, its, ep, rfl, ha, g1, l1, r1⟩ := rx.at_list S e1
    obtain ⟨b, its', ep', rfl, hb, g2, l2, r2⟩ := ry.at_list S e2
    exact (lists_rc g1 r1 g2 r2 (by (first | lia | omega)) hc).2 _ _ _ _ (hQ _ _ _ S (.refl _ _) (.bool _))
end
end Mine
end

section
open PySem PySem.W PyProof.Rows PySem.Calls PySem.SeqAt
set_option Elab.async false
set_option linter.unusedVariables false
namespace Mine
section
variable {h₀ : Heap} {μ : List Addr} {A : Around} {s : Shared}

/-- is the one the other? -/
noncomputable def eVal (x : Value) : Value → Bool
  | .int b _ => match x with
    | .int a _ => b == a
    | _ => false
  | .str b _ => match x with
    | .str a _ => b == a
    | _ => false
  | _ => false
theorem eVal_ok {v v' : Value} {x x' : V} {b : Bool} (r : Rep h₀ μ s.heap v x) (r' : Rep h₀ μ s.heap v' x') (h : flat1 x x' = some b) : eVal v' v = b := by
  rcases flat1_inv h with ⟨a, c, rfl, rfl, rfl⟩ | ⟨a, c, rfl, rfl, rfl⟩
  · obtain ⟨t, rfl⟩ := r.inv_int
    obtain ⟨u, rfl⟩ := r'.inv_int
    rfl
  · obtain ⟨t, rfl, _⟩ := r.inv_str
    obtain ⟨u, rfl, _⟩ := r'.inv_str
    exact strBeq _ _
theorem inFlat_ok {v : Value} {x : V} (r : Rep h₀ μ s.heap v x) : ∀ {its : List Value} {xs : List V} {b : Bool}, Reps h₀ μ s.heap its xs → inFlat x xs = some b → (∀ y ∈ its, EqAt A s y v (eVal v y)) ∧ its.any (eVal v) = b
  | its, [], b, rr, h => by
    obtain rfl := rr.inv_nil
    obtain rfl := Option.some.inj h
    exact ⟨fun y hy => (nomatch hy), rfl⟩
  | its, x' :: xs, b, rr, h => by
    obtain ⟨w, ws, rfl, rw', rr'⟩ := rr.inv_cons
    obtain ⟨a, c, h1, h2, rfl⟩ := inFlat_inv h
    obtain ⟨i1, i2⟩ := inFlat_ok r rr' h2
    have e := eVal_ok rw' r h1
    refine ⟨fun y hy => ?_, by rw [List.any_cons, i2, e]⟩
    rcases List.mem_cons.mp hy with rfl | hy
    · rw [e]; exact flat1_ok rw' r h1
    · exact i1 y hy

theorem eqFlat_refl : ∀ {xs : List V} {b : Bool}, eqFlat xs xs = some b → b = true
  | [], _, h => (Option.some.inj h).symm
  | x :: xs, c, h => by
    obtain ⟨a, c, h1, h2, rfl⟩ := eqFlat_inv h
    obtain rfl := eqFlat_refl h2
    rcases flat1_inv h1 with ⟨a, b, rfl, e, rfl⟩ | ⟨a, b, rfl, e, rfl⟩
    · obtain rfl := V.int.inj e; simp
    · obtain rfl := V.str.inj e; simp
theorem eqList_refl {xs : List V} {b : Bool} (h : eqList xs xs = some b) : b = true := by
  unfold eqList at h; rw [if_pos rfl] at h; exact eqFlat_refl h

noncomputable def eLst (μ : List Addr) (σ : Store) (xs : List V) : Value → Bool
  | .ref a => match μ.findIdx? (· == a) with
    | some n => match σ[n]? with
      | some zs => (eqList zs xs).getD false
      | none => false
    | none => false
  | _ => false
theorem find_at {μ : List Addr} (hn : μ.Nodup) {n : Nat} {a : Addr} (h : μ[n]? = some a) : μ.findIdx? (· == a) = some n := by
  obtain ⟨hlt, e⟩ := List.getElem?_eq_some_iff.mp h
  rw [List.findIdx?_eq_some_iff_getElem]
  refine ⟨hlt, by simp [e], fun j hj => ?_⟩
  have : μ[j] ≠ a := fun e' => Nat.ne_of_lt hj ((List.getElem_inj (h₀ := Nat.lt_trans hj hlt) (h₁ := hlt) hn).mp (e'.trans e.symm))
  simpa using this
theorem inLists_ok {σ : Store} (S : SOk h₀ μ σ s.heap) {m : Nat} {c : Addr} {xs : List V} (hm : σ[m]? = some xs) (hc : μ[m]? = some c) (hu : A.units < cLine) :
    ∀ {its : List Value} {ys : List V} {b : Bool}, Reps h₀ μ s.heap its ys → inLists σ xs ys = some b → (∀ y ∈ its, EqAt A s y (.ref c) (eLst μ σ xs y)) ∧ its.any (eLst μ σ xs) = b
  | its, [], b, rr, h => by
    obtain rfl := rr.inv_nil
    obtain rfl := Option.some.inj h
    exact ⟨fun y hy => (nomatch hy), rfl⟩
  | its, y' :: ys, b, rr, h => by
    obtain ⟨w, ws, rfl, rw', rr'⟩ := rr.inv_cons
    obtain ⟨n, zs, b1, r1, rfl, hz, h1, h2, rfl⟩ := inLists_inv h
    obtain ⟨i1, i2⟩ := inLists_ok S hm hc hu rr' h2
    obtain ⟨a, itz, epz, rfl, ha, gz, lz, rz⟩ := rw'.at_list S hz
    obtain ⟨c', its0, ep0, e0, g0, l0, r0⟩ := S.cell hm
    rw [hc] at e0
    obtain rfl := Option.some.inj e0
    have hev : eLst μ σ xs (.ref a) = b1 := by
      simp only [eLst, find_at S.nd ha, hz, h1, Option.getD_some]
    refine ⟨fun y hy => ?_, by rw [List.any_cons, i2, hev]⟩
    rcases List.mem_cons.mp hy with rfl | hy
    · rw [hev]
      by_cases e : a = c
      · subst e
        obtain rfl : n = m := (List.getElem?_inj (List.getElem?_eq_some_iff.mp ha).1 S.nd).mp (ha.trans hc.symm)
        rw [hm] at hz
        obtain rfl := Option.some.inj hz
        rw [eqList_refl h1]
        exact .same _
      · exact EqAt.lists' gz rz g0 r0 hu h1 e
    · exact i1 y hy
end

section
variable {B : Base}
/-- the answer for lists and tuples -/
theorem in_seq {prog : Program} {w : World} {A : Around} {s : Shared} {l : Addr} {its : List Value} {v : Value} {b : Bool} {e : Value → Bool} (hl : s.heap.IsList l its.toArray ∨ s.heap.IsTuple l its.toArray) (h : (∀ y ∈ its, EqAt A.in1 s y v (e y)) ∧ its.any e = b)
    {Q : Value → Shared → Prop} {E : Value → Shared → Prop} : (Q (.bool b) s → wpAny (model prog w) A (compareOp .In v (.ref l)) Q E s) ∧ (Q (.bool (!b)) s → wpAny (model prog w) A (compareOp .NotIn v (.ref l)) Q E s) := by
  obtain ⟨h1, h2⟩ := h
  have h3 : its.toArray.any e = b := by rw [← h2]; simp
  have h4 : ∀ y ∈ its.toArray, EqAt A.in1 s y v (e y) := fun y hy => h1 y (by simpa using hy)
  rcases hl with L | L
  · exact ⟨fun q => in_listAt _ L h4 (by rw [h3]; exact q), fun q => notIn_listAt _ L h4 (by rw [h3]; exact q)⟩
  · exact ⟨fun q => in_tupleAt _ L h4 (by rw [h3]; exact q), fun q => notIn_tupleAt _ L h4 (by rw [h3]; exact q)⟩
theorem in_ok {h₀ : Heap} {μ : List Addr} {σ : Store} {A : Around} {s : Shared} (R : Rm A 0) (S : SOk h₀ μ σ s.heap) {v v' : Value} {x x' : V} {b : Bool} (r : Rep h₀ μ s.heap v x) (r' : Rep h₀ μ s.heap v' x') (h : inV σ x x' = some b)
    {prog : Program} {w : World} {Q : Value → Shared → Prop} {E : Value → Shared → Prop} : (Q (.bool b) s → wpAny (model prog w) A (compareOp .In v v') Q E s) ∧ (Q (.bool (!b)) s → wpAny (model prog w) A (compareOp .NotIn v v') Q E s) := by
  have hu := R.un
  unfold inV at h
  split at h
  · split at h
    · rename_i xs e1
      obtain ⟨a', its, ep, rfl, hb, g1, l1, r1⟩ := r'.at_list S e1
      exact in_seq (.inl ⟨_, g1, rfl, _, rfl⟩) (inFlat_ok r r1 h)
    · first | exact noSome h | cases h
  · obtain ⟨a', its, k, rfl, g, hl', rr⟩ := r'.inv_tup
    split at h
    · split at h
      · rename_i xs e1
        obtain ⟨a, rfl, ha⟩ := r.inv_lst
        exact in_seq (.inr ⟨_, g, rfl, _, rfl⟩) (inLists_ok S e1 ha (by rw [Around.in1_units]; (first | lia | omega)) rr h)
      · first | exact noSome h | cases h
    · exact in_seq (.inr ⟨_, g, rfl, _, rfl⟩) (inFlat_ok r rr h)
  · first | exact noSome h | cases h
theorem opB_in : OpB B .inn (compareOp .In) := fun R S rx ry h _ _ hQ => by
  obtain ⟨b, hb, rfl, rfl⟩ := map_pair h
  exact (in_ok R S rx ry hb).1 (hQ _ _ _ S (.refl _ _) (.bool _))
theorem opB_notin : OpB B .notin (compareOp .NotIn) := fun R S rx ry h _ _ hQ => by
  obtain ⟨b, hb, rfl, rfl⟩ := map_pair (f := fun r => V.bool (!r)) h
  exact (in_ok R S rx ry hb).2 (hQ _ _ _ S (.refl _ _) (.bool _))
end
end Mine
end

section
open PySem PySem.W PyProof.Rows PySem.Calls PySem.SeqAt
set_option Elab.async false
set_option linter.unusedVariables false
namespace Mine

theorem place_idx {i : Int} {n k : Nat} (h : place i n = some k) : seqIndex? i n = some k := by
  unfold place at h
  unfold seqIndex?
  split at h
  · rename_i h0
    split at h
    · rename_i h1
      cases h
      simp only [show ¬ i < 0 from by (first | lia | omega), if_false]
      rw [if_pos (by simp; (first | lia | omega))]
    · first | exact noSome h | cases h
  · rename_i h0
    split at h
    · rename_i h1
      cases h
      simp only [show i < 0 from by (first | lia | omega), if_true]
      rw [if_pos (by simp; (first | lia | omega))]
      congr 1; (first | lia | omega)
    · first | exact noSome h | cases h
theorem ints_get : ∀ {its : List Value} {l : List Int}, IntsAre its l → ∀ {k : Nat} {c : Int}, l[k]? = some c → its.length = l.length ∧ ∃ t, its[k]? = some (.int c t)
  | _, _, .nil, k, c, h => by simp at h
  | _, _, .cons n t hi, 0, c, h => by
    obtain rfl : n = c := by simpa using h
    refine ⟨?_, t, rfl⟩
    rw [List.length_cons, List.length_cons]
    congr 1
    clear h
    induction hi with
    | nil => rfl
    | cons _ _ _ ih => rw [List.length_cons, List.length_cons, ih]
  | _, _, .cons n t hi, k + 1, c, h => by
    obtain ⟨a, b⟩ := ints_get hi (k := k) (by simpa using h)
    exact ⟨by rw [List.length_cons, List.length_cons, a], by simpa using b⟩
theorem place_rng {i : Int} {n k : Nat} (h : place i n = some k) (hn : n ≤ LIM) : -16777216 ≤ i ∧ i < 16777216 := by
  have hL : LIM = 16777216 := rfl
  unfold place at h
  split at h <;> split at h <;> cases h <;> (first | lia | omega)

section
variable {B : Base}
theorem strGet {l : List Nat} {k : Nat} : (⟨l.toArray⟩ : Str).cps[k]? = l[k]? := by
  show l.toArray[k]? = _
  simp
theorem listItem {prog : Program} {w : World} {A : Around} {s : Shared} {l : Addr} {items : List Value} {i : Int} {t : Tok} {k : Nat} {y : Value} (hl : s.heap.IsList l items.toArray) (hp : place i items.length = some k) (hlen : items.length ≤ LIM) (hy : items[k]? = some y)
    {Q : Value → Shared → Prop} {E : Value → Shared → Prop} (h : Q y s) : wpAny (model prog w) A (getItem (.ref l) (.int i t)) Q E s := by
  have hr := place_rng hp hlen
  by_cases h0 : 0 ≤ i
  · have e : k = i.toNat := by unfold place at hp; rw [if_pos h0] at hp; split at hp <;> cases hp; rfl
    exact wpAny_getItem_list hl h0 (by (first | lia | omega)) (x := y) (by rw [← e]; simpa using hy) h
  · have e : -(items.length : Int) ≤ i ∧ k = (i + items.length).toNat := by
      unfold place at hp; rw [if_neg h0] at hp; split at hp <;> cases hp; (first | lia | omega)
    exact wpAny_getItem_list_neg hl (by (first | lia | omega)) (by simpa using e.1) (by (first | lia | omega)) (x := y) (by simp only [List.size_toArray]; rw [← e.2]; simpa using hy) h

/-- an item: and the kind is one with items -/
theorem item_ok {A : Around} {μ : List Addr} {σ : Store} {s : Shared} {x' y' : Value} {x y v : V} {σ' : Store} (R : Rm A 0) (S : SOk B.h₀ μ σ s.heap) (rx : Rep B.h₀ μ s.heap x' x) (ry : Rep B.h₀ μ s.heap y' y) (h : evB .item x y σ = some (v, σ'))
    {Q : Value → Shared → Prop} {E : Value → Shared → Prop} (hQ : Out B μ s σ' v Q) :
    (∃ T id, typeLookup (.type T) "__getitem__" = pure (some (.builtin id)) ∧ s.TypeIs x' T) ∧ wpAny (model B.prog B.w) A (getItem x' y') Q E s := by
  obtain ⟨i, rfl, h2⟩ := uInt_inv h
  clear h
  obtain ⟨u, rfl⟩ := ry.inv_int
  unfold bItem at h2
  split at h2
  · obtain ⟨k, c, hk, hc, rfl, rfl⟩ := itemOf_inv h2
    obtain ⟨t, rfl, hl⟩ := rx.inv_str
    have hr := place_rng hk hl
    refine ⟨⟨"str", _, F.slot_str_getitem.lookup, rfl⟩, getItem_str (c := c) ?_ ?_ (hQ _ _ _ S .tok (.str [c] _ (by show 1 ≤ 16777216; decide)))⟩
    · rw [decide_eq_false (show ¬ i < -(2 ^ 63 : Int) by (first | lia | omega)), decide_eq_false (show ¬ i ≥ 2 ^ 63 by (first | lia | omega))]; rfl
    · rw [strLen, place_idx hk, Option.bind_some, strGet]; exact hc
  · obtain ⟨k, c, hk, hc, rfl, rfl⟩ := itemOf_inv h2
    obtain ⟨a, its, n, rfl, g, hl, rr⟩ := rx.inv_tup
    have hr := place_rng hk (by rw [← rr.length]; exact hl)
    obtain ⟨y, hy, ry⟩ := rr.get hc
    exact ⟨⟨"tuple", _, F.slot_tuple_getitem.lookup, ⟨_, g, rfl⟩⟩, PySem.P.getItem_tuple g (by (first | lia | omega)) (by (first | lia | omega)) (by rw [List.size_toArray, rr.length]; exact place_idx hk) (by simpa using hy) (hQ _ _ _ S (.refl _ _) ry)⟩
  · obtain ⟨k, c, hk, hc, rfl, rfl⟩ := itemOf_inv h2
    obtain ⟨a, its, rfl, hl, hb, hi⟩ := rx.inv_ro
    have hL : s.heap.IsList a its.toArray := let ⟨o, ho, r⟩ := hl; ⟨o, S.base _ _ ho, r⟩
    obtain ⟨hlen, t, ht⟩ := ints_get hi hc
    exact ⟨⟨"list", _, list_getitem_lookup, hL.typeIs⟩, listItem hL (by rw [hlen]; exact hk) hb ht (hQ _ _ _ S (.refl _ _) (.int _ _))⟩
  · obtain ⟨n, xs, rfl, e1, h3⟩ := uLst_inv h2
    obtain ⟨k, c, hk, hc, rfl, rfl⟩ := itemOf_inv h3
    obtain ⟨a, its, ep, rfl, ha, g1, l1, r1⟩ := rx.at_list S e1
    obtain ⟨y, hy, ry⟩ := r1.get hc
    exact ⟨⟨"list", _, list_getitem_lookup, ⟨_, g1, rfl⟩⟩, listItem ⟨_, g1, rfl, _, rfl⟩ (by rw [r1.length]; exact hk) l1 hy (hQ _ _ _ S (.refl _ _) ry)⟩
end

section
variable {prog : Program} {w : World} {A : Around} {E : Value → Shared → Prop} {s : Shared} {env : Env}
theorem subscript_any {value idx : Expr} {pos : Pos} {Q : Value → Shared → Prop}
    (h : wpAny (model prog w) A (eval value env) (fun o s₁ => wpAny (model prog w) A (eval idx env) (fun i s₂ => (∃ T id, typeLookup (.type T) "__getitem__" = pure (some (.builtin id)) ∧ s₂.TypeIs o T) ∧ wpAny (model prog w) A (getItem o i) Q E s₂) E s₁) E s)
    (hi : ∀ o i, subscripted idx false o i = operate [o, i] (getItem o i)) : wpAny (model prog w) A (eval (.Subscript value idx pos) env) Q E s := by
  rw [eval_Subscript]
  refine wpAny_bind (wpAny_mono h (fun o s₁ h₁ => wpAny_bind (wpAny_holding (wpAny_mono h₁ (fun i s₂ h₂ => wpAny_bind (wpAny_standAt ?_)) fun _ _ x => x))) fun _ _ x => x)
  obtain ⟨⟨T, id, hl, hT⟩, hg⟩ := h₂
  have fin : wpAny (model prog w) A (operate [o, i] (getItem o i)) (fun r s₃ => wpAny (model prog w) A (letTemporaryGo value o r >>= fun _ => pure r) Q E s₃) E s₂ :=
    wpAny_operating (wpAny_mono hg (fun r s₃ h₃ => wpAny_bind (wpAny_letTemporaryGo (wpAny_pure h₃))) fun _ _ x => x)
  refine wpAny_bind ?_
  rw [getitemInPython_of_ne hT.not_modules]
  refine wpAny_bind (wpAny_specialOf hT hl ?_)
  refine wpAny_pure ?_
  refine wpAny_bind ?_
  show wpAny (model prog w) A (subscripted idx false o i) _ E s₂
  rw [hi]
  exact fin
end
section
variable {B : Base} {cx : Cx}
theorem snd_item {a b : Expr} {a' b' : Ex} (ha : Snd B cx a a') (hb : Snd B cx b b') (hi : ∀ o i, subscripted b false o i = operate [o, i] (getItem o i)) (p : Pos) : Snd B cx (.Subscript a b p) (.bin .item a' b') :=
  snd_of (fun X => fun hev => fun hQ => by
    obtain ⟨x, σ₁, y, σ₂, h1, h2, h3⟩ := ev_bin hev
    exact subscript_any (two ha.1 hb.1 X h1 h2 fun x' y' s' μ' X' p' r r' => item_ok X'.R X'.S r r' h3 fun v' s'' μ'' S'' p'' r'' => hQ _ _ _ (X'.go S'' p'') (p'.trans p'') r'') hi) fun _ => rfl
end
end Mine
end

section
open PySem PySem.W PyProof.Rows PySem.Calls PySem.SeqAt
set_option Elab.async false
set_option linter.unusedVariables false
namespace Mine

theorem clip_at (n : Nat) (i : Int) : clipAt n i = clip i n := by
  apply Int.ofNat.inj
  show ((clipAt n i : Nat) : Int) = ((clip i n : Nat) : Int)
  unfold clip
  rw [clipAt_cast]
  by_cases h : 0 ≤ i
  · obtain ⟨k, rfl⟩ := Int.eq_ofNat_of_zero_le h
    rw [if_pos h, if_neg (Int.not_lt.mpr h), Int.toNat_natCast]
    show _ = ((min k n : Nat) : Int)
    rw [Int.max_eq_right (Int.le_min.mpr ⟨h, Int.natCast_nonneg n⟩)]
    (first | lia | omega)
  · obtain ⟨k, rfl⟩ : ∃ k : Nat, i = -(k : Int) := ⟨(-i).toNat, by rw [Int.toNat_of_nonneg (by (first | lia | omega))]; (first | lia | omega)⟩
    rw [if_neg h, if_pos (by (first | lia | omega)), Int.neg_neg, Int.toNat_natCast, Int.min_eq_left (by (first | lia | omega))]
    (first | lia | omega)
theorem clip_le (i : Int) (n : Nat) : clip i n ≤ n := by
  unfold clip
  split
  · exact Nat.min_le_right _ _
  · (first | lia | omega)
theorem idx_plain (lo hi : Option Int) (n : Nat) : Builtin.Str.strSliceIndices lo hi 1 n = (List.range (hi.elim n (clipAt n) - lo.elim 0 (clipAt n))).map ((lo.elim 0 (clipAt n)) + ·) := by
  rw [← sliceRange_one]
  have h := sliceBounds_plain lo hi n
  unfold Builtin.Str.strSliceIndices
  simp only [sliceBounds, Option.getD_none] at h
  cases lo <;> cases hi <;> simp [clipAt_cast]

theorem cut_len {α : Type} (l : List α) (a b : Nat) : (cut l a b).length ≤ l.length := by
  unfold cut
  rw [List.length_take, List.length_drop]; (first | lia | omega)

section
variable {B : Base} {cx : Cx}

theorem sliceStr {l : List Nat} {t : Tok} {lo hi : Option (Int × Tok)} {s : Shared} {Q : Value → Shared → Prop} (hl : l.length ≤ LIM)
    (hQ : ∀ t' tk, Q (.str ⟨(cut l ((lo.map (·.1)).elim 0 (clipAt l.length)) ((hi.map (·.1)).elim l.length (clipAt l.length))).toArray⟩ t') { s with toks := tk }) :
    (sliceMade ⟨l.toArray⟩ t lo hi none).post Q s := by
  unfold sliceMade slicePicked
  simp only [Option.map_none, Option.getD_none]
  rw [idx_plain, strLen]
  have hb : (hi.map (·.1)).elim l.length (clipAt l.length) ≤ l.length := by
    cases hi with
    | none => exact Nat.le_refl _
    | some p => show clipAt l.length p.1 ≤ _; rw [clip_at]; exact clip_le _ _
  generalize (lo.map (·.1)).elim 0 (clipAt l.length) = a at *
  generalize (hi.map (·.1)).elim l.length (clipAt l.length) = b at *
  split
  · rename_i hc
    simp at hc
    have h0 : cut l a b = l := by
      unfold cut
      have hlen : b - a = l.length := by
        rcases hc with hc
        (first | lia | omega)
      by_cases h : l.length = 0
      · have : l = [] := List.eq_nil_of_length_eq_zero h
        subst this; simp
      · have ha : a = 0 := by (first | lia | omega)
        subst ha
        rw [List.drop_zero, hlen]; exact List.take_length
    have := hQ t s.toks
    rw [h0] at this
    exact this
  · have e : ((List.range (b - a)).map (a + ·)).filterMap ((⟨l.toArray⟩ : Str).cps[·]?) = cut l a b := by
      have := pick_run l.toArray a (b - a)
      simpa [cut] using this
    rw [e]
    refine ⟨?_, hQ _ _⟩
    rw [strLen, sizeLine_LIM]; exact Nat.le_trans (cut_len _ _ _) hl

/-- what a slice of a text, of a list leaves -/
theorem str_tail {C : Calls} {A : Around} {env : Env} {ρ : REnv} {μ μ' : List Addr} {σ : Store} {s s₃ : Shared} {l : List Nat} {t : Tok} {lo hi : Option (Int × Tok)} {vl vu : Value} {v : V} {σ' : Store} (X : Sit B C A cx env ρ μ' σ s₃) (p : Stp μ μ' s s₃) (hl : l.length ≤ LIM)
    (h : some (V.str (cut l ((lo.map (·.1)).elim 0 (clipAt l.length)) ((hi.map (·.1)).elim l.length (clipAt l.length))), σ) = some (v, σ')) {Q : Value → Shared → Prop} (hQ : ∀ v' s' μ', Sit B C A cx env ρ μ' σ' s' → Stp μ μ' s s' → Rep B.h₀ μ' s'.heap v' v → Q v' s') :
    (sliceMade ⟨l.toArray⟩ t lo hi none).post Q { s₃ with heap := s₃.heap.push { cls := .type "slice", data := .fields #[vl, vu, .none] } } := by
  obtain ⟨rfl, rfl⟩ := some_pair h
  have hgr : ∀ b o, s₃.heap.get? b = some o → (s₃.heap.push { cls := .type "slice", data := .fields #[vl, vu, .none] }).get? b = some o := fun b o h => Heap.get?_push_of_some _ h
  exact sliceStr hl fun t' tk => hQ _ _ _ (X.grown hgr) (p.trans (Stp.grown hgr)) (.str _ _ (Nat.le_trans (cut_len _ _ _) hl))
theorem list_tail {C : Calls} {A : Around} {env : Env} {ρ : REnv} {μ μ' : List Addr} {σ : Store} {s s₃ : Shared} {n : Nat} {xs : List V} {x' : Value} {lo hi : Option Int} {vl vu : Value} {v : V} {σ' : Store} (X : Sit B C A cx env ρ μ' σ s₃) (p : Stp μ μ' s s₃) (r : Rep B.h₀ μ' s₃.heap x' (.lst n)) (e : σ[n]? = some xs) (h1 : IsPart vl lo) (h2 : IsPart vu hi)
    (h : some (V.lst σ.length, σ ++ [cut xs (lo.elim 0 (clipAt xs.length)) (hi.elim xs.length (clipAt xs.length))]) = some (v, σ')) {Q : Value → Shared → Prop} (hQ : ∀ v' s' μ', Sit B C A cx env ρ μ' σ' s' → Stp μ μ' s s' → Rep B.h₀ μ' s'.heap v' v → Q v' s') :
    ∃ l items lo hi, x' = .ref l ∧ s₃.heap.IsList l items ∧ items.size ≤ sizeLine ∧ IsPart vl lo ∧ IsPart vu hi ∧
        Q (.ref (s₃.heap.objs.size + 1)) { s₃ with heap := (s₃.heap.push { cls := .type "slice", data := .fields #[vl, vu, .none] }).push { cls := .type "list", data := .seq (slicePick items lo hi none) } } := by
  obtain ⟨rfl, rfl⟩ := some_pair h
  obtain ⟨a, its, ep, rfl, ha, g1, l1, r1⟩ := r.at_list X.S e
  refine ⟨a, its.toArray, lo, hi, rfl, ⟨_, g1, rfl, _, rfl⟩, by rw [List.size_toArray, sizeLine_LIM]; exact l1, h1, h2, ?_⟩
  have hgr : ∀ b o, s₃.heap.get? b = some o → (s₃.heap.push { cls := .type "slice", data := .fields #[vl, vu, .none] }).get? b = some o := fun b o h => Heap.get?_push_of_some _ h
  rw [slicePick_plain]
  simp only [List.size_toArray]
  have X2 := X.grown (t := s₃.toks) hgr
  show Q _ { s₃ with heap := (s₃.heap.push { cls := .type "slice", data := .fields #[vl, vu, .none] }).push { cls := .type "list", data := .seq (List.toArray (cut its (lo.elim 0 (clipAt its.length)) (hi.elim its.length (clipAt its.length)))) } }
  rw [r1.length]
  have rr : Reps B.h₀ μ' (s₃.heap.push { cls := .type "slice", data := .fields #[vl, vu, .none] }) (cut its (lo.elim 0 (clipAt xs.length)) (hi.elim xs.length (clipAt xs.length))) (cut xs (lo.elim 0 (clipAt xs.length)) (hi.elim xs.length (clipAt xs.length))) := ((r1.drop _).take _).grown hgr
  obtain ⟨S', q, r⟩ := SOk.new (t := s₃.toks) X2.S rr (Nat.le_trans (cut_len _ _ _) l1)
  have hsz : ({ s₃ with heap := s₃.heap.push { cls := .type "slice", data := .fields #[vl, vu, .none] } } : Shared).heap.objs.size = s₃.heap.objs.size + 1 := Heap.size_push ..
  simp only [hsz] at S' q r
  exact hQ _ _ _ (X2.go S' q) (p.trans ((Stp.grown hgr).trans q)) r
theorem bCut_inv {σ : Store} {lo hi : Nat → Nat} {x : V} {r : V × Store} (h : bCut σ lo hi x = some r) : (∃ l, x = .str l ∧ some (V.str (cut l (lo l.length) (hi l.length)), σ) = some r) ∨ ∃ n xs, x = .lst n ∧ σ[n]? = some xs ∧ some (V.lst σ.length, σ ++ [cut xs (lo xs.length) (hi xs.length)]) = some r := by
  unfold bCut at h
  split at h
  · exact .inl ⟨_, rfl, h⟩
  · replace h := uLst_inv h
    obtain ⟨n, xs, rfl, e, h⟩ := h
    exact .inr ⟨n, xs, rfl, e, h⟩
theorem part_int {i : Int} {u : Tok} : IsPart (.int i u) (some i) := .int _ _
theorem snd_sliceF {a k : Expr} {a' k' : Ex} (ha : Snd B cx a a') (hk : Snd B cx k k') (ht : ∀ o r, letTemporaryGo a o r = pure ()) (p q : Pos) : Snd B cx (.Subscript a (.Slice (some k) none none q) p) (.bin .sliceF a' k') :=
  snd_of (fun {C A env ρ μ σ s} X {v σ'} hev {Q E} hQ => by
    obtain ⟨x, σ₁, y, σ₂, h1, h2, h3⟩ := ev_bin hev
    obtain ⟨i, rfl, h4⟩ := uInt_inv h3
    clear h3
    simp only [← clip_at] at h4
    rcases bCut_inv h4 with ⟨l, rfl, h⟩ | ⟨n, xs, rfl, e, h⟩
    · refine wpAny_Subscript_str_slice (two ha.1 hk.1 X h1 h2 fun x' y' s' μ' X' p' r r' => wpAny_pure ?_) ht
      obtain ⟨t, rfl, hl⟩ := r.inv_str
      obtain ⟨u, rfl⟩ := r'.inv_int
      exact ⟨_, t, some (i, u), none, rfl, rfl, rfl, str_tail (lo := some (i, u)) (hi := none) X' p' hl h hQ⟩
    · refine wpAny_Subscript_list_slice (two ha.1 hk.1 X h1 h2 fun x' y' s' μ' X' p' r r' => wpAny_pure ?_) ht
      obtain ⟨u, rfl⟩ := r'.inv_int
      exact list_tail (lo := some i) (hi := none) X' p' r e part_int .none h hQ) fun _ => rfl
theorem snd_sliceT {a k : Expr} {a' k' : Ex} (ha : Snd B cx a a') (hk : Snd B cx k k') (ht : ∀ o r, letTemporaryGo a o r = pure ()) (p q : Pos) : Snd B cx (.Subscript a (.Slice none (some k) none q) p) (.bin .sliceT a' k') :=
  snd_of (fun {C A env ρ μ σ s} X {v σ'} hev {Q E} hQ => by
    obtain ⟨x, σ₁, y, σ₂, h1, h2, h3⟩ := ev_bin hev
    obtain ⟨i, rfl, h4⟩ := uInt_inv h3
    clear h3
    simp only [← clip_at] at h4
    rcases bCut_inv h4 with ⟨l, rfl, h⟩ | ⟨n, xs, rfl, e, h⟩
    · refine wpAny_Subscript_str_slice (ha.1 X h1 fun x' s₁ μ₁ X₁ p₁ r₁ => wpAny_pure (hk.1 X₁ h2 fun y' s' μ' X' p' r' => ?_)) ht
      obtain ⟨t, rfl, hl⟩ := r₁.inv_str
      obtain ⟨u, rfl⟩ := r'.inv_int
      exact ⟨_, t, none, some (i, u), rfl, rfl, rfl, str_tail (lo := none) (hi := some (i, u)) X' (p₁.trans p') hl h hQ⟩
    · refine wpAny_Subscript_list_slice (ha.1 X h1 fun x' s₁ μ₁ X₁ p₁ r₁ => wpAny_pure (hk.1 X₁ h2 fun y' s' μ' X' p' r' => ?_)) ht
      obtain ⟨u, rfl⟩ := r'.inv_int
      exact list_tail (lo := none) (hi := some i) X' (p₁.trans p') (r₁.step X₁.S p') e .none part_int h hQ) fun _ => rfl

theorem snd_slice {a k j : Expr} {a' k' j' : Ex} (ha : Snd B cx a a') (hk : Snd B cx k k') (hj : Snd B cx j j') (ht : ∀ o r, letTemporaryGo a o r = pure ()) (p q : Pos) : Snd B cx (.Subscript a (.Slice (some k) (some j) none q) p) (.slice a' k' j') :=
  snd_of (fun {C A env ρ μ σ s} X {v σ'} hev {Q E} hQ => by
    simp only [ev] at hev
    split at hev
    · rename_i x σ₁ h1
      split at hev
      · rename_i lo σ₂ h2
        split at hev
        · rename_i hi σ₃ h3
          split at hev
          · rename_i x l
            cases hev
            refine wpAny_Subscript_str_slice (ha.1 X h1 fun x' s₁ μ₁ X₁ p₁ r₁ => hk.1 X₁ h2 fun y' s₂ μ₂ X₂ p₂ r₂ => hj.1 X₂ h3 fun z' s₃ μ₃ X₃ p₃ r₃ => ?_) ht
            obtain ⟨t, rfl, hl⟩ := r₁.inv_str
            obtain ⟨u, rfl⟩ := r₂.inv_int
            obtain ⟨u', rfl⟩ := r₃.inv_int
            exact ⟨_, t, some (lo, u), some (hi, u'), rfl, rfl, rfl, str_tail (lo := some (lo, u)) (hi := some (hi, u')) X₃ (p₁.trans (p₂.trans p₃)) hl (by simp only [Option.map_some, Option.elim, clip_at]) hQ⟩
          · first | exact noSome hev | cases hev
        · first | exact noSome hev | cases hev
      · first | exact noSome hev | cases hev
    · cases hev) fun _ => rfl
end
end Mine
end

section
open PySem PySem.W PyProof.Rows PySem.Calls PySem.SeqAt
set_option Elab.async false
set_option linter.unusedVariables false
namespace Mine
theorem LIM_eq : LIM = 16777216 := rfl
theorem ints_len' : ∀ {its : List Value} {l : List Int}, IntsAre its l → its.length = l.length
  | _, _, .nil => rfl
  | _, _, .cons _ _ h => by rw [List.length_cons, List.length_cons, ints_len' h]
theorem uLen_inv {σ : Store} {x : V} {r : V × Store} (h : uLen σ x = some r) : (∃ l, x = .str l ∧ some (V.int l.length, σ) = some r) ∨ (∃ l, x = .tup l ∧ some (V.int l.length, σ) = some r) ∨ (∃ l, x = .ro l ∧ some (V.int l.length, σ) = some r) ∨ ∃ n xs, x = .lst n ∧ σ[n]? = some xs ∧ some (V.int xs.length, σ) = some r := by
  unfold uLen at h
  split at h
  · exact .inl ⟨_, rfl, h⟩
  · exact .inr (.inl ⟨_, rfl, h⟩)
  · exact .inr (.inr (.inl ⟨_, rfl, h⟩))
  · replace h := uLst_inv h
    obtain ⟨n, xs, rfl, e, h⟩ := h
    exact .inr (.inr (.inr ⟨n, xs, rfl, e, h⟩))
section
variable {B : Base}

theorem opU_len : OpU B .len (fun v => call (.builtin "len") [v]) := by
  intro A μ σ s x' x v σ' R S rx h Q E hQ
  have hL := LIM_eq
  replace h := uLen_inv h
  rcases h with ⟨l, rfl, h⟩ | ⟨l, rfl, h⟩ | ⟨l, rfl, h⟩ | ⟨n, xs, rfl, e1, h⟩
  · obtain ⟨rfl, rfl⟩ := some_pair h
    obtain ⟨t, rfl, hl⟩ := rx.inv_str
    refine len_str (by rw [strLen]; (first | lia | omega)) ?_
    rw [strLen]
    exact hQ _ _ _ S .tok (.int _ _)
  · obtain ⟨rfl, rfl⟩ := some_pair h
    obtain ⟨a, its, n, rfl, g, hl, rr⟩ := rx.inv_tup
    refine PySem.P.len_tuple g (by rw [List.size_toArray]; (first | lia | omega)) ?_
    rw [List.size_toArray, rr.length]
    exact hQ _ _ _ S .tok (.int _ _)
  · obtain ⟨rfl, rfl⟩ := some_pair h
    obtain ⟨a, its, rfl, hl, hb, hi⟩ := rx.inv_ro
    have hL : s.heap.IsList a its.toArray := let ⟨o, ho, r⟩ := hl; ⟨o, S.base _ _ ho, r⟩
    refine call_len_list hL (by rw [List.size_toArray]; (first | lia | omega)) ?_
    rw [List.size_toArray, ints_len' hi]
    exact hQ _ _ _ S .tok (.int _ _)
  · obtain ⟨rfl, rfl⟩ := some_pair h
    obtain ⟨a, its, ep, rfl, ha, g1, l1, r1⟩ := rx.at_list S e1
    refine call_len_list ⟨_, g1, rfl, _, rfl⟩ (by rw [List.size_toArray]; (first | lia | omega)) ?_
    rw [List.size_toArray, r1.length]
    exact hQ _ _ _ S .tok (.int _ _)
theorem one_inv {l : List Nat} {c : Nat} (h : one l = some c) : l = [c] := by
  unfold one at h
  split at h
  · rw [Option.some.inj h]
  · first | exact noSome h | cases h
theorem opU_ord : OpU B .ord (fun v => call (.builtin "ord") [v]) := by
  intro A μ σ s x' x v σ' R S rx h Q E hQ
  obtain ⟨l, rfl, h2⟩ := uStr_inv h
  obtain ⟨c, hc, rfl, rfl⟩ := map_pair (f := fun c : Nat => V.int c) h2
  obtain ⟨t, rfl, hl⟩ := rx.inv_str
  obtain rfl := one_inv hc
  exact PySem.P.ord_of_char (hQ _ _ _ S .tok (.int _ _))
theorem opU_chr : OpU B .chr (fun v => call (.builtin "chr") [v]) := by
  intro A μ σ s x' x v σ' R S rx h Q E hQ
  replace h := uInt_inv h
  obtain ⟨i, rfl, h⟩ := h
  obtain ⟨⟨h0, h1⟩, rfl, rfl⟩ := if_some h
  obtain ⟨t, rfl⟩ := rx.inv_int
  refine PySem.P.chr_of_int ?_ (hQ _ _ _ S .tok (.str [i.toNat] _ (by show 1 ≤ 16777216; decide)))
  rw [decide_eq_false (Int.not_lt.mpr h0), decide_eq_false (show ¬ i > 1114111 by (first | lia | omega))]; rfl
theorem opB_min : OpB B .min (fun a b => call (.builtin "min") [a, b]) := fun {A μ σ s x' y' x y v σ'} R S rx ry h {Q E} hQ => opB_ints (t := fun a b => call (.builtin "min") [a, b]) rx ry h fun a b t u h => by
  obtain ⟨rfl, rfl⟩ := some_pair h
  refine min_two_ints R.hd fun h' tk hk => ?_
  refine hQ (if b < a then .int b u else .int a t) { s with heap := h', toks := tk } μ (S.grown hk) (Stp.grown hk) ?_
  split
  · exact .int _ _
  · exact .int _ _
theorem opU_range : OpU B .range (fun v => call (.type "range") [v]) := by
  intro A μ σ s x' x v σ' R S rx h Q E hQ
  replace h := uInt_inv h
  obtain ⟨n, rfl, h⟩ := h
  obtain ⟨⟨h0, h1⟩, rfl, rfl⟩ := if_some h
  obtain ⟨t, rfl⟩ := rx.inv_int
  have hgr : ∀ b o, s.heap.get? b = some o → (s.heap.push { cls := .type "range", data := .fields #[.int 0 s.toks, .int n t, .int 1 (s.toks + 1)] }).get? b = some o := fun b o h => Heap.get?_push_of_some _ h
  refine call_range_1 (hQ _ _ _ (S.grown hgr) (Stp.grown hgr) (.rng (IsRange.new ..) (small_one (by (first | lia | omega)) (by (first | lia | omega)) (by (first | lia | omega)) (by (first | lia | omega))) ?_))
  rw [rangeSize_one]
  split <;> (first | lia | omega)
end
end Mine
end

section
open PySem PySem.W PyProof.Rows PySem.Calls PySem.SeqAt
set_option Elab.async false
set_option linter.unusedVariables false
namespace Mine

theorem Stp.at {μ μ' : List Addr} {s s' : Shared} (p : Stp μ μ' s s') {n : Nat} {a : Addr} (h : μ[n]? = some a) : μ'[n]? = some a := by
  obtain ⟨ν, hν, _⟩ := p.pre
  rw [hν, List.getElem?_append_left (List.getElem?_eq_some_iff.mp h).1]; exact h
/-- what holds of the world behind the top -/
structure BOk (B : Base) : Prop where
  g : B.h₀.Ns mainGlobals B.mg
  b : B.h₀.Ns builtinsNs B.mb
  built : ∀ x : Str, x ≠ "__name__" → B.mb x = bootBuiltins x
  nolimit : B.h₀.NoLimit

section
variable {B : Base} {cx : Cx} {C : Calls} {A : Around} {env : Env} {ρ : REnv} {μ : List Addr} {σ : Store} {s : Shared} {Q : Value → Shared → Prop} {E : Value → Shared → Prop}

theorem load_glob (hB : BOk B) {n : Str} {v : Value} (hk : cx.scope.names.lookup n = some .globalImplicit) (hv : B.mg n = some v) (hd : (n == ("__debug__" : Str)) = false) (X : Sit B C A cx env ρ μ σ s) (p : Pos) (h : Q v s) :
    wpAny (model B.prog B.w) A (eval (.Name n p) env) Q E s := by
  refine Name_function_global (by rw [X.F.sc]; exact X.F.fk) ((X.F.kindOf n).trans hk) (loadGlobal_global (mg := B.mg) ?_ hv h) hd
  rw [X.F.gl]; exact hB.g.keeps X.S.base
theorem load_boot (hB : BOk B) {n : Str} {v : Value} (hk : cx.scope.names.lookup n = some .globalImplicit) (hm : B.mg n = none) (hv : bootBuiltins n = some v) (hn : n ≠ "__name__") (hd : (n == ("__debug__" : Str)) = false) (X : Sit B C A cx env ρ μ σ s) (p : Pos) (h : Q v s) :
    wpAny (model B.prog B.w) A (eval (.Name n p) env) Q E s := by
  refine Name_function_global (by rw [X.F.sc]; exact X.F.fk) ((X.F.kindOf n).trans hk) (loadGlobal_builtin (mg := B.mg) (mb := B.mb) ?_ hm ?_ ((hB.built n hn).trans hv) h) hd
  · rw [X.F.gl]; exact hB.g.keeps X.S.base
  · rw [X.F.bl]; exact hB.b.keeps X.S.base
end

noncomputable def eInt (a : Int) : Value → Bool
  | .int b _ => b == a
  | _ => false
theorem countInt_ok {h₀ : Heap} {μ : List Addr} {h : Heap} {m : Int} {i : Int} {u : Tok} : ∀ {its : List Value} {xs : List V}, Reps h₀ μ h its xs → xs.all (isIntB m) = true →
    (∀ y ∈ its, MeetsSeq.EqGives y (.int i u) (eInt i y)) ∧ its.countP (eInt i) = (xs.map intOf).count i
  | its, [], r, _ => by
    obtain rfl := r.inv_nil
    exact ⟨fun y hy => (nomatch hy), rfl⟩
  | its, x :: xs, r, hall => by
    obtain ⟨v, vs, rfl, rv, rr⟩ := r.inv_cons
    obtain ⟨hx, hall⟩ := all_cons hall
    obtain ⟨i1, i2⟩ := countInt_ok (u := u) rr hall
    obtain ⟨a, rfl⟩ := isIntB_inv hx
    obtain ⟨t, rfl⟩ := rv.inv_int
    refine ⟨fun y hy => ?_, ?_⟩
    · rcases List.mem_cons.mp hy with rfl | hy
      · exact MeetsSeq.EqGives.int _ _ _ _
      · exact i1 y hy
    · rw [List.countP_cons, i2, List.map_cons, List.count_cons]; rfl
section
variable {B : Base} {cx : Cx}
theorem snd_glob (hB : BOk B) {n : Str} {i : Int} {t : Tok} (hk : cx.scope.names.lookup n = some .globalImplicit) (hv : B.mg n = some (.int i t)) (hd : (n == ("__debug__" : Str)) = false) (p : Pos) : Snd B cx (.Name n p) (.int i) :=
  snd_of (fun X => fun hev => fun hQ => by
    cases hev
    exact load_glob hB hk hv hd X p (hQ _ _ _ X (.refl _ _) (.int _ _))) fun _ => rfl

noncomputable abbrev Plain (e : Expr) : Prop := ∀ (es : List Expr) (env : Env), starEach (e :: es) env = (false, eval e env) :: starEach es env
noncomputable abbrev NoStars (es : List Expr) : Prop := ∀ (pos : Pos) (env : Env), (backTo pos (starEach es env)).any (·.1) = false

theorem snd_call1 (hB : BOk B) {n : Str} {id : String} {o : Uop} {a : Expr} {a' : Ex} (hk : cx.scope.names.lookup n = some .globalImplicit) (hm : B.mg n = none) (hv : bootBuiltins n = some (.builtin id)) (hn : n ≠ "__name__") (hd : (n == ("__debug__" : Str)) = false)
    (ho : OpU B o (fun v => call (.builtin id) [v])) (ha : Snd B cx a a') (hs : Plain a) (p pos : Pos) : Snd B cx (.Call (.Name n p) [a] [] pos) (.un o a') :=
  snd_of (fun X => fun hev => fun hQ => by
    obtain ⟨x, σ₁, h1, h3⟩ := ev_un hev
    refine Call_ (load_boot hB hk hm hv hn hd X p (callWith_builtin1 (he := hs _ _) (args_cons (he := hs _ _) (ha.1 X h1 fun x' s' μ' X' p' r => args_nil ?_))))
    exact ho X'.R X'.S r h3 fun v' s'' μ'' S'' p'' r'' => hQ _ _ _ (X'.go S'' p'') (p'.trans p'') r'') fun _ => rfl
theorem snd_type1 (hB : BOk B) {n : Str} {T : String} {o : Uop} {a : Expr} {a' : Ex} (hk : cx.scope.names.lookup n = some .globalImplicit) (hm : B.mg n = none) (hv : bootBuiltins n = some (.type T)) (hn : n ≠ "__name__") (hd : (n == ("__debug__" : Str)) = false)
    (ho : OpU B o (fun v => call (.type T) [v])) (ha : Snd B cx a a') (hs : Plain a) (p pos : Pos) : Snd B cx (.Call (.Name n p) [a] [] pos) (.un o a') :=
  snd_of (fun X => fun hev => fun hQ => by
    obtain ⟨x, σ₁, h1, h3⟩ := ev_un hev
    refine Call_ (load_boot hB hk hm hv hn hd X p (PyProof.Rows.callWith_type1 (he := hs _ _) (args_cons (he := hs _ _) (ha.1 X h1 fun x' s' μ' X' p' r => args_nil ?_))))
    exact ho X'.R X'.S r h3 fun v' s'' μ'' S'' p'' r'' => hQ _ _ _ (X'.go S'' p'') (p'.trans p'') r'') fun _ => rfl
theorem snd_call2 (hB : BOk B) {n : Str} {id : String} {o : Bop} {a b : Expr} {a' b' : Ex} (hk : cx.scope.names.lookup n = some .globalImplicit) (hm : B.mg n = none) (hv : bootBuiltins n = some (.builtin id)) (hn : n ≠ "__name__") (hd : (n == ("__debug__" : Str)) = false)
    (ho : OpB B o (fun v u => call (.builtin id) [v, u])) (ha : Snd B cx a a') (hb : Snd B cx b b') (hs : Plain a) (hs2 : Plain b) (hns : NoStars [b]) (p pos : Pos) : Snd B cx (.Call (.Name n p) [a, b] [] pos) (.bin o a' b') :=
  snd_of (fun X => fun hev => fun hQ => by
    obtain ⟨x, σ₁, y, σ₂, h1, h2, h3⟩ := ev_bin hev
    refine Call_ (load_boot hB hk hm hv hn hd X p (callWith_builtin1 (he := hs _ _) (hplain := hns _ _) (args_cons (he := hs _ _) (ha.1 X h1 fun x' s' μ' X' p' r => args_cons (he := hs2 _ _) (hb.1 X' h2 fun y' s'' μ'' X'' p'' r'' => args_nil ?_)))))
    exact ho X''.R X''.S (r.step X'.S p'') r'' h3 fun v' s₃ μ₃ S₃ p₃ r₃ => hQ _ _ _ (X''.go S₃ p₃) (p'.trans (p''.trans p₃)) r₃) fun _ => rfl
theorem snd_def (hB : BOk B) {n : Str} {f : Nat} {a : Addr} {o : Obj} {fd : FuncData} {e : Expr} {es : List Expr} {cs : Exs} (hk : cx.scope.names.lookup n = some .globalImplicit) (hv : B.mg n = some (.ref a)) (hat : B.at' f = some a) (ho : B.h₀.get? a = some o) (hf : o.data = .func fd) (hd : (n == ("__debug__" : Str)) = false)
    (hes : SndL B cx (e :: es) cs) (hs : Plain e) (p pos : Pos) : Snd B cx (.Call (.Name n p) (e :: es) [] pos) (.call f cs) :=
  snd_of (fun X => fun hev => fun hQ => by
    simp only [ev] at hev
    split at hev
    · rename_i vs σ₁ h1
      refine Call_ (load_glob hB hk hv hd X p (callWith_def hf (he := hs _ _) (hes X h1 fun vs' s' μ' X' p' r => ⟨X'.S.base _ _ ho, ?_⟩)))
      exact X'.calls f a vs σ₁ _ _ hat hev μ' s' vs' X'.S X'.gens r _ _ fun v' s'' μ'' S'' p'' r'' => hQ _ _ _ (X'.go S'' p'') (p'.trans p'') r''
    · cases hev) fun _ => rfl

/-- a list stands where it stood -/
theorem Rep.list_later {h₀ : Heap} {μ μ' : List Addr} {σ : Store} {s s' : Shared} {v : Value} {n : Nat} {xs : List V} (r : Rep h₀ μ s.heap v (.lst n)) (p : Stp μ μ' s s') (S : SOk h₀ μ' σ s'.heap) (e : σ[n]? = some xs) :
    AtList h₀ μ' s'.heap v n xs := by
  obtain ⟨a, rfl, ha⟩ := r.inv_lst
  exact Rep.at_list (.lst (p.at ha)) S e
/-- a method of a list -/
theorem method_list {μ : List Addr} {σ : Store} {s : Shared} {prog : Program} {w : World} {A : Around} {E : Value → Shared → Prop} {h₀ : Heap} {name : Str} {id : String} {v : Value} {n : Nat} {pos : Pos} {args : List (Bool × Sem Value)} {Q : Value → Shared → Prop} (r : Rep h₀ μ s.heap v (.lst n)) (S : SOk h₀ μ σ s.heap)
    (slot : Slot "list" name id) (ty : typeOf (.builtin id) = pure (.type "method_descriptor")) (h : ∀ a, v = .ref a → wpAny (model prog w) A (callWith pos (.builtin id) [.ref a] args []) Q E s) : MethodOnS prog w A E name v pos args Q s := by
  obtain ⟨a, rfl, ha⟩ := r.inv_lst
  obtain ⟨xs0, its0, ep0, _, g0, _, _⟩ := S.list ha
  exact ⟨"list", id, F.plainAttrs_list, slot, ty, ⟨_, g0, rfl⟩, fun b e => by obtain rfl := Value.ref.inj e; exact ⟨_, g0, rfl⟩, h a rfl⟩

/-- a method of a list with one argument -/
theorem snd_append {a b : Expr} {a' b' : Ex} {ap pos : Pos} (ha : Snd B cx a a') (hb : Snd B cx b b') (hbase : ∀ env, attributeBase a "append" env (eval a env) = eval a env) (hs : Plain b) (hline : (ap.endLine == pos.line) = true) :
    Snd B cx (.Call (.Attribute a "append" ap) [b] [] pos) (.bin .append a' b') :=
  snd_of (fun {C A env ρ μ σ s} X {v σ'} hev {Q E} hQ => by
    obtain ⟨x, σ₁, y, σ₂, h1, h2, h3⟩ := ev_bin hev
    obtain ⟨n, xs, rfl, e1, h4⟩ := uLst_inv h3
    obtain ⟨hl, rfl, rfl⟩ := if_some h4
    refine Call_method1 (hbase _) (hs _ _) hline (ha.1 X h1 fun x' s' μ' X' p' r => method_list r X'.S F.slot_list_append F.type_list_append fun l el => PySem.P.append_list (hb.1 X' h2 fun y' s'' μ'' X'' p'' r'' => ?_))
    obtain ⟨a', its, ep, e2, hm, g1, l1, r1⟩ := (el ▸ r).list_later p'' X''.S e1
    obtain rfl := Value.ref.inj e2
    refine ⟨its.toArray, ep, by rw [List.size_toArray, sizeLine_LIM, r1.length]; exact Nat.le_of_lt hl, g1, ?_⟩
    obtain ⟨S', q⟩ := SOk.put (t := s''.toks) (items' := its ++ [y']) (f := fun xs => xs.push y') X''.S hm g1 (by simp) (r1.append (.cons r'' .nil)) (by rw [List.length_append, r1.length]; exact hl)
    exact hQ _ _ _ (X''.go S' q) (p'.trans (p''.trans q)) .none) fun _ => rfl

theorem snd_count {a b : Expr} {a' b' : Ex} {ap pos : Pos} (ha : Snd B cx a a') (hb : Snd B cx b b') (hbase : ∀ env, attributeBase a "count" env (eval a env) = eval a env) (hs : Plain b) (hline : (ap.endLine == pos.line) = true) :
    Snd B cx (.Call (.Attribute a "count" ap) [b] [] pos) (.bin .count a' b') :=
  snd_of (fun {C A env ρ μ σ s} X {v σ'} hev {Q E} hQ => by
    obtain ⟨x, σ₁, y, σ₂, h1, h2, h3⟩ := ev_bin hev
    obtain ⟨n, xs, rfl, e1, h4⟩ := uLst_inv h3
    obtain ⟨i, rfl, h5⟩ := uInt_inv h4
    obtain ⟨hall, rfl, rfl⟩ := if_some h5
    refine Call_method1 (hbase _) (hs _ _) hline (ha.1 X h1 fun x' s' μ' X' p' r => method_list r X'.S F.slot_list_count F.type_list_count fun l el => PySem.P.count_list (hb.1 X' h2 fun y' s'' μ'' X'' p'' r'' => ?_))
    obtain ⟨a', its, ep, e2, hm, g1, l1, r1⟩ := (el ▸ r).list_later p'' X''.S e1
    obtain rfl := Value.ref.inj e2
    obtain ⟨u, rfl⟩ := r''.inv_int
    obtain ⟨k1, k2⟩ := countInt_ok (u := u) (i := i) (m := 1000000000) r1 hall
    refine ⟨its.toArray, ep, eInt i, g1, fun y hy => k1 y (by simpa using hy), ?_⟩
    rw [k2]
    exact hQ _ _ _ (X''.grown fun _ _ h => h) (p'.trans (p''.trans Stp.tok)) (.int _ _)) fun _ => rfl
end
end Mine
end

section
open PySem PySem.W PyProof.Rows PySem.Calls PySem.SeqAt
set_option Elab.async false
set_option linter.unusedVariables false
namespace Mine

/-- the world's tables -/
structure TabOk (B : Base) : Prop where
  b1 : ∃ a n, B.mg "b1_set" = some (.ref a) ∧ B.h₀.SetOf (intKind B.prog B.w) a (fun k => B.T.b1.contains k) n
  b3 : ∃ a f, B.mg "b3_exceptions" = some (.ref a) ∧ (a == sysModules) = false ∧ B.h₀.MapOf (intKind B.prog B.w) a f ∧ ∀ k, match B.T.b3.lookup k with
    | none => f k = none
    | some l => l.length ≤ LIM ∧ ∃ t, f k = some (.str ⟨l.toArray⟩ t)
  tok : ∃ a f, B.mg "EXACT_TOKEN_TYPES" = some (.ref a) ∧ (a == sysModules) = false ∧ B.h₀.MapOf (PySem.strKind B.prog B.w) a f ∧ ∀ k : List Nat, match B.T.tok.lookup k with
    | none => f ⟨k.toArray⟩ = none
    | some i => ∃ t, f ⟨k.toArray⟩ = some (.int i t)

theorem mapUp {prog : Program} {w : World} {K : Type} [DecidableEq K] {knd : KeyKind prog w K} {h h' : Heap} {a : Addr} {f : K → Option Value} (x : h.MapOf knd a f) (hk : ∀ b o, h.get? b = some o → h'.get? b = some o) : h'.MapOf knd a f :=
  let ⟨o, es, ep, ho, r⟩ := x; ⟨o, es, ep, hk _ _ ho, r⟩
theorem setUp {prog : Program} {w : World} {K : Type} [DecidableEq K] {knd : KeyKind prog w K} {h h' : Heap} {a : Addr} {f : K → Bool} {n : Nat} (x : h.SetOf knd a f n) (hk : ∀ b o, h.get? b = some o → h'.get? b = some o) : h'.SetOf knd a f n :=
  let ⟨o, es, ep, t, ho, r⟩ := x; ⟨o, es, ep, t, hk _ _ ho, r⟩

section
variable {B : Base} {cx : Cx}

theorem snd_inB1 (hB : BOk B) (hT : TabOk B) (hk : cx.scope.names.lookup ("b1_set" : Str) = some .globalImplicit) {a : Expr} {a' : Ex} (ha : Snd B cx a a') (q p : Pos) : Snd B cx (.Compare a [.In] [.Name "b1_set" q] p) (.un .inB1 a') := by
  refine snd_cmpU ha (fun {C A env ρ μ σ s} X {Q E x' x v σ'} rx h hQ => ?_) rfl p
  obtain ⟨b, n, hb, hS⟩ := hT.b1
  refine load_glob hB hk hb (by decide) X q ?_
  replace h := uInt_inv h
  obtain ⟨c, rfl, h⟩ := h
  obtain ⟨rfl, rfl⟩ := some_pair h
  obtain ⟨t, rfl⟩ := rx.inv_int
  · refine wpAny_inSet_of (knd := intKind B.prog B.w) (k := c) (by simp [intKind, Value.isInt]) rfl (setUp hS X.S.base) (hQ _ _ _ X.S .tok ?_)
    exact .bool _
theorem snd_inTok (hB : BOk B) (hT : TabOk B) (hk : cx.scope.names.lookup ("EXACT_TOKEN_TYPES" : Str) = some .globalImplicit) {a : Expr} {a' : Ex} (ha : Snd B cx a a') (q p : Pos) : Snd B cx (.Compare a [.In] [.Name "EXACT_TOKEN_TYPES" q] p) (.un .inTok a') := by
  refine snd_cmpU ha (fun {C A env ρ μ σ s} X {Q E x' x v σ'} rx h hQ => ?_) rfl p
  obtain ⟨b, f, hb, hd, hM, hf⟩ := hT.tok
  refine load_glob hB hk hb (by decide) X q ?_
  replace h := uStr_inv h
  obtain ⟨l, rfl, h⟩ := h
  obtain ⟨rfl, rfl⟩ := some_pair h
  obtain ⟨t, rfl, hl⟩ := rx.inv_str
  · refine wpAny_in_of (knd := PySem.strKind B.prog B.w) (k := ⟨l.toArray⟩) (by simp [PySem.strKind, Value.isStrOf]) hd (mapUp hM X.S.base) ?_
    have := hf l
    have e : (f ⟨l.toArray⟩).isSome = (B.T.tok.lookup l).isSome := by
      split at this
      · rename_i h; rw [this, h]; rfl
      · rename_i i h; obtain ⟨t, e⟩ := this; rw [e, h]; rfl
    rw [e]
    exact hQ _ _ _ X.S .tok (.bool _)
theorem snd_tok (hB : BOk B) (hT : TabOk B) (hk : cx.scope.names.lookup ("EXACT_TOKEN_TYPES" : Str) = some .globalImplicit) {a : Expr} {a' : Ex} (ha : Snd B cx a a') (hi : ∀ o i, subscripted a false o i = operate [o, i] (getItem o i)) (q p : Pos) : Snd B cx (.Subscript (.Name "EXACT_TOKEN_TYPES" q) a p) (.un .tok a') :=
  snd_of (fun X => fun hev => fun hQ => by
    obtain ⟨x, σ₁, h1, h3⟩ := ev_un hev
    obtain ⟨b, f, hb, hd, hM, hf⟩ := hT.tok
    obtain ⟨l, rfl, h4⟩ := uStr_inv h3
    obtain ⟨i, hi', rfl, rfl⟩ := map_pair h4
    refine subscript_any (load_glob hB hk hb (by decide) X q (ha.1 X h1 fun x' s' μ' X' p' r => ?_)) hi
    obtain ⟨t, rfl, hl⟩ := r.inv_str
    have := hf l
    rw [hi'] at this
    obtain ⟨t', e⟩ := this
    have hM' := mapUp hM X'.S.base
    exact ⟨⟨"dict", _, F.slot_dict_getitem.lookup, hM'.typeIs⟩, wpAny_getItem_of (knd := PySem.strKind B.prog B.w) (k := ⟨l.toArray⟩) (by simp [PySem.strKind, Value.isStrOf]) hM' e (hQ _ _ _ (X'.grown fun _ _ h => h) (p'.trans Stp.tok) (.int _ _))⟩) fun _ => rfl
theorem snd_getB3 (hB : BOk B) (hT : TabOk B) (hk : cx.scope.names.lookup ("b3_exceptions" : Str) = some .globalImplicit) {a : Expr} {a' : Ex} (ha : Snd B cx a a') (hs : Plain a) {q ap p : Pos} (hline : (ap.endLine == p.line) = true) : Snd B cx (.Call (.Attribute (.Name "b3_exceptions" q) "get" ap) [a] [] p) (.un .getB3 a') :=
  snd_of (fun X => fun hev => fun hQ => by
    obtain ⟨x, σ₁, h1, h3⟩ := ev_un hev
    obtain ⟨b, f, hb, hd, hM, hf⟩ := hT.b3
    have hM0 := mapUp hM X.S.base
    refine Call_method1 rfl (hs _ _) hline (load_glob hB hk hb (by decide) X q ⟨"dict", "dict.get", F.plainAttrs_dict, F.slot_dict_get, F.type_dict_get, hM0.typeIs, hM0.noDict, wpAny_dict_get1 (knd := intKind B.prog B.w) hd (ha.1 X h1 fun x' s' μ' X' p' r => ?_)⟩)
    obtain ⟨c, rfl, h4⟩ := uInt_inv h3
    obtain ⟨rfl, rfl⟩ := some_pair h4
    obtain ⟨t, rfl⟩ := r.inv_int
    refine ⟨c, f, by simp [intKind, Value.isInt], mapUp hM X'.S.base, ?_⟩
    have := hf c
    have X2 := X'.grown (t := s'.toks + 1) fun _ _ h => h
    cases hl : B.T.b3.lookup c with
    | none => rw [hl] at this hQ; rw [this]; exact hQ _ _ _ X2 (p'.trans Stp.tok) .none
    | some l => rw [hl] at this hQ; obtain ⟨hl, t, e⟩ := this; rw [e]; exact hQ _ _ _ X2 (p'.trans Stp.tok) (.str _ _ hl)) fun _ => rfl

theorem lo1_lowA (l : List Nat) : l.map lo1 = l.map lowA := rfl
theorem snd_lower {a : Expr} {a' : Ex} {ap pos : Pos} (ha : Snd B cx a a') (hbase : ∀ env, attributeBase a "lower" env (eval a env) = eval a env) (hline : (ap.endLine == pos.line) = true) :
    Snd B cx (.Call (.Attribute a "lower" ap) [] [] pos) (.un .lower a') :=
  snd_of (fun X => fun hev => fun hQ => by
    obtain ⟨x, σ₁, h1, h3⟩ := ev_un hev
    refine Call_method0 (hbase _) hline (ha.1 X h1 fun x' s' μ' X' p' r => ?_)
    obtain ⟨l, rfl, h4⟩ := uStr_inv h3
    obtain ⟨hall, rfl, rfl⟩ := if_some h4
    obtain ⟨t, rfl, hl⟩ := r.inv_str
    have e : Txt.lower ⟨l.toArray⟩ = ⟨(l.map lowA).toArray⟩ := by
      rw [lower_ascii (by simpa using hall)]
      simp [lo1_lowA]
    refine SB.lower ?_ ?_
    · rw [e, strLen]; unfold Builtin.Str.tooLong; rw [decide_eq_false_iff_not, sizeLine_LIM, List.length_map]; exact Nat.not_lt.mpr hl
    · rw [e]; exact hQ _ _ _ (X'.grown fun _ _ h => h) (p'.trans Stp.tok) (.str _ _ (by rw [List.length_map]; exact hl))) fun _ => rfl

theorem join_is (sep : List Nat) : ∀ ls : List (List Nat), Txt.join ⟨sep.toArray⟩ (ls.map fun l => ⟨l.toArray⟩) = ⟨(joinL sep ls).toArray⟩
  | [] => rfl
  | x :: r => by
    have key : ∀ (r : List (List Nat)) (acc : List Nat), (r.map fun l => (⟨l.toArray⟩ : Str)).foldl (fun acc p => acc ++ (⟨sep.toArray⟩ : Str).cps ++ p.cps) acc.toArray = (joinL sep (acc :: r)).toArray := by
      intro r
      induction r with
      | nil => intro acc; rfl
      | cons y r ih =>
        intro acc
        have := ih (acc ++ sep ++ y)
        rw [List.map_cons, List.foldl_cons]
        rw [show (acc.toArray ++ (⟨sep.toArray⟩ : Str).cps ++ (⟨y.toArray⟩ : Str).cps) = (acc ++ sep ++ y).toArray from by simp]
        rw [this]
        cases r with
        | nil => simp [joinL]
        | cons z r => simp [joinL]
    show Str.mk ((r.map fun l => (⟨l.toArray⟩ : Str)).foldl (fun acc p => acc ++ (⟨sep.toArray⟩ : Str).cps ++ p.cps) x.toArray) = _
    rw [key]
theorem strsAre_of {h₀ : Heap} {μ : List Addr} {h : Heap} : ∀ {its : List Value} {xs : List V}, Reps h₀ μ h its xs → xs.all isStr = true → StrsAre its ((xs.map strOf).map fun l => ⟨l.toArray⟩)
  | its, [], r, _ => by
    obtain rfl := r.inv_nil
    exact .nil
  | its, x :: xs, r, hall => by
    obtain ⟨v, vs, rfl, rv, rr⟩ := r.inv_cons
    obtain ⟨hx, hall⟩ := all_cons hall
    obtain ⟨a, rfl⟩ := isStr_inv hx
    obtain ⟨t, rfl, _⟩ := rv.inv_str
    exact .cons _ _ (strsAre_of rr hall)
theorem joinL_len (sep : List Nat) : ∀ ls : List (List Nat), (joinL sep ls).length ≤ (ls.map List.length).sum + ls.length * sep.length
  | [] => by simp [joinL]
  | [x] => by simp [joinL]
  | x :: y :: r => by
    have := joinL_len sep (y :: r)
    simp only [joinL, List.length_append, List.map_cons, List.sum_cons, List.length_cons, Nat.add_mul] at this ⊢
    (first | lia | omega)
theorem snd_join {a b : Expr} {a' b' : Ex} {ap pos : Pos} (ha : Snd B cx a a') (hb : Snd B cx b b') (hbase : ∀ env, attributeBase a "join" env (eval a env) = eval a env) (hs : Plain b) (hline : (ap.endLine == pos.line) = true) :
    Snd B cx (.Call (.Attribute a "join" ap) [b] [] pos) (.bin .join a' b') :=
  snd_of (fun {C A env ρ μ σ s} X {v σ'} hev {Q E} hQ => by
    obtain ⟨x, σ₁, y, σ₂, h1, h2, h3⟩ := ev_bin hev
    obtain ⟨sep, rfl, h4⟩ := uStr_inv h3
    refine Call_method1 (hbase _) (hs _ _) hline (ha.1 X h1 fun x' s' μ' X' p' r => ?_)
    obtain ⟨t, rfl, hl⟩ := r.inv_str
    refine ⟨"str", "str.join", F.plainAttrs_str, F.slot_str_join, F.type_str_join, typeIs_str _ _ _, fun a e => (nomatch e), Calls.callWith_builtin rfl (Calls.evalArgs_plain (Calls.spliced_cons (hb.1 X' h2 fun y' s'' μ'' X'' p'' r'' => Calls.spliced_nil ?_)))⟩
    show wpAny _ A (call (.builtin "str.join") [.str ⟨sep.toArray⟩ t, y']) Q E s''
    rcases orE_inv h4 with h5 | h5
    · obtain ⟨l, rfl, h6⟩ := uStr_inv h5
      obtain ⟨hlen, rfl, rfl⟩ := if_some h6
      obtain ⟨u, rfl, hl'⟩ := r''.inv_str
      have e : PyProof.Rows.signs ⟨l.toArray⟩ = (l.map fun c => [c]).map fun l => (⟨l.toArray⟩ : Str) := by
        unfold PyProof.Rows.signs
        simp
      refine SC.joinStr X''.R.hd (joinOk_of ?_) fun h' k t' hk => ?_
      · rw [signs_sumLen, PyProof.Rows.signs_length, strLen, strLen]; exact hlen
      · rw [e, join_is]
        refine hQ _ _ _ (X''.grown hk) (p'.trans (p''.trans (Stp.grown hk))) (.str _ _ ?_)
        refine Nat.le_trans (joinL_len _ _) ?_
        rw [List.length_map, List.map_map, show (List.length ∘ fun c : Nat => [c]) = fun _ => 1 from rfl]
        rw [List.map_const', List.sum_replicate_nat, Nat.mul_one]; exact hlen
    · obtain ⟨n, xs, rfl, e1, h6⟩ := uLst_inv h5
      obtain ⟨⟨hall, hlen⟩, rfl, rfl⟩ := if_some h6
      obtain ⟨a', its, ep, rfl, hm, g1, l1, r1⟩ := r''.at_list X''.S e1
      have hS := strsAre_of r1 hall
      have hsum : ((((xs.map strOf).map fun l => (⟨l.toArray⟩ : Str)).map (·.length)).sum) = ((xs.map strOf).map List.length).sum := by
        rw [List.map_map]
        congr 1
      refine join_list ⟨_, g1, rfl, _, rfl⟩ hS ?_ fun t' k => ?_
      · rw [hsum, List.length_map, List.length_map, strLen]; exact hlen
      · rw [join_is]
        refine hQ _ _ _ (X''.grown fun _ _ h => h) (p'.trans (p''.trans Stp.tok)) (.str _ _ ?_)
        exact Nat.le_trans (joinL_len _ _) (by rw [List.length_map]; exact hlen)) fun _ => rfl
end
end Mine
end

section
open PySem PySem.W PyProof.Rows PySem.Calls PySem.SeqAt
set_option Elab.async false
set_option linter.unusedVariables false
namespace Mine

/-- what statements may do: the block's own objects may change too -/
structure StpX (W : Addr → Prop) (μ μ' : List Addr) (s s' : Shared) : Prop where
  pre : ∃ ν, μ' = μ ++ ν ∧ ∀ a ∈ ν, s.heap.get? a = none
  keep : ∀ b o, s.heap.get? b = some o → b ∉ μ → ¬ W b → s'.heap.get? b = some o
  live : ∀ b o, s.heap.get? b = some o → ¬ W b → ∃ o', s'.heap.get? b = some o'
  gens : s'.gens = s.gens
  os : s'.os = s.os

/-- some objects, apart from lists and what stands firm -/
structure Loose (h₀ : Heap) (W : Addr → Prop) (μ : List Addr) (h : Heap) : Prop where
  fresh : ∀ b, W b → h₀.get? b = none
  apart : ∀ b, W b → b ∉ μ
  firm : ∀ b o, W b → h.get? b = some o → ¬ Firm o

section
variable {W : Addr → Prop} {μ μ' μ'' : List Addr} {s s' s'' : Shared}
theorem Stp.toX (p : Stp μ μ' s s') : StpX W μ μ' s s' := ⟨p.pre, fun b o h hn _ => p.keep b o h hn, fun b o h _ => p.live b o h, p.gens, p.os⟩
theorem StpX.refl : StpX W μ μ s s := (Stp.refl μ s).toX
theorem StpX.old (a : StpX W μ μ' s s') {c : Addr} (hw : ¬ W c) (h : s'.heap.get? c = none) : s.heap.get? c = none := by
  cases e : s.heap.get? c with
  | none => rfl
  | some o => obtain ⟨o', e'⟩ := a.live _ _ e hw; rw [h] at e'; cases e'
theorem StpX.trans (a : StpX W μ μ' s s') (b : StpX W μ' μ'' s' s'') (hW : ∀ c, W c → c ∉ μ'') : StpX W μ μ'' s s'' := by
  obtain ⟨ν, rfl, h1⟩ := a.pre
  obtain ⟨ν', rfl, h2⟩ := b.pre
  refine ⟨⟨ν ++ ν', by simp, fun x hx => ?_⟩, fun c o h hn hw => b.keep c o (a.keep c o h hn hw) (fun hm => ?_) hw, fun c o h hw => let ⟨o', h'⟩ := a.live c o h hw; b.live c o' h' hw, b.gens.trans a.gens, b.os.trans a.os⟩
  · rcases List.mem_append.mp hx with hx | hx
    · exact h1 x hx
    · exact a.old (fun hw => hW x hw (List.mem_append_right _ hx)) (h2 x hx)
  · rcases List.mem_append.mp hm with hm | hm
    · exact hn hm
    · rw [h1 c hm] at h; cases h
/-- only loose objects changed -/
theorem StpX.but {h' : Heap} {t : Nat} (hk : ∀ b o, s.heap.get? b = some o → ¬ W b → h'.get? b = some o) : StpX W μ μ s { s with heap := h', toks := t } :=
  ⟨⟨[], by simp, by simp⟩, fun b o h _ hw => hk b o h hw, fun b o h hw => ⟨o, hk b o h hw⟩, rfl, rfl⟩
/-- the loose objects were not there yet -/
theorem StpX.toStp (p : StpX W μ μ' s s') (hW : ∀ b, W b → s.heap.get? b = none) : Stp μ μ' s s' :=
  ⟨p.pre, fun b o h hn => p.keep b o h hn fun hw => (by rw [hW b hw] at h; cases h), fun b o h => p.live b o h fun hw => (by rw [hW b hw] at h; cases h), p.gens, p.os⟩
theorem StpX.weaken {W' : Addr → Prop} (p : StpX W μ μ' s s') (hW : ∀ b o, W b → s.heap.get? b = some o → W' b) : StpX W' μ μ' s s' :=
  ⟨p.pre, fun b o h hn hw => p.keep b o h hn fun hw' => hw (hW b o hw' h), fun b o h hw => p.live b o h fun hw' => hw (hW b o hw' h), p.gens, p.os⟩
end

section
variable {h₀ h h' : Heap} {W : Addr → Prop} {μ : List Addr} {σ : Store}
theorem Rep.but {v : Value} {x : V} (r : Rep h₀ μ h v x) (hk : ∀ b o, h.get? b = some o → ¬ W b → h'.get? b = some o) (hW : Loose h₀ W μ h) : Rep h₀ μ h' v x := by
  have := r.mono (ν := []) (h' := h') fun b o hb hf => hk b o hb fun hw => hW.firm b o hw hb hf
  rwa [List.append_nil] at this
theorem Reps.but {v : List Value} {x : List V} (r : Reps h₀ μ h v x) (hk : ∀ b o, h.get? b = some o → ¬ W b → h'.get? b = some o) (hW : Loose h₀ W μ h) : Reps h₀ μ h' v x := by
  have := r.mono (ν := []) (h' := h') fun b o hb hf => hk b o hb fun hw => hW.firm b o hw hb hf
  rwa [List.append_nil] at this
theorem SOk.but (S : SOk h₀ μ σ h) (hk : ∀ b o, h.get? b = some o → ¬ W b → h'.get? b = some o) (hW : Loose h₀ W μ h) : SOk h₀ μ σ h' :=
  ⟨S.len, S.nd, S.fresh, fun e => by
    obtain ⟨a, items, ep, h1, h2, h3, h4⟩ := S.cell e
    exact ⟨a, items, ep, h1, hk _ _ h2 fun hw => hW.apart _ hw (List.mem_of_getElem? h1), h3, h4.but hk hW⟩,
   fun b o hb => hk b o (S.base b o hb) fun hw => by rw [hW.fresh b hw] at hb; cases hb⟩
end

noncomputable def Own (env : Env) (b : Addr) : Prop := b = env.locals ∨ ∃ n, (n, b) ∈ env.cells

theorem FrOk.loose {h₀ h : Heap} {cx : Cx} {env : Env} {ρ : REnv} {μ : List Addr} (F : FrOk h₀ cx env ρ μ h) : Loose h₀ (Own env) μ h := by
  refine ⟨fun b hb => ?_, fun b hb => ?_, fun b o hb ho hf => ?_⟩
  · rcases hb with rfl | ⟨n, hb⟩
    · exact F.own.2
    · exact (F.cel n b hb).2.1
  · rcases hb with rfl | ⟨n, hb⟩
    · exact F.own.1
    · exact (F.cel n b hb).1
  · rcases hb with rfl | ⟨n, hb⟩
    · obtain ⟨m, ⟨o', es, ep, h1, h2, _⟩, _⟩ := F.nsm
      rw [ho] at h1; cases h1
      rcases hf with ⟨_, xs, n, h3⟩ | ⟨_, xs, h3⟩ <;> rw [h2] at h3 <;> cases h3
    · obtain ⟨_, _, _, v, o', h1, h2⟩ := F.cel n b hb
      rw [ho] at h1; cases h1
      rcases hf with ⟨_, xs, n, h3⟩ | ⟨_, xs, h3⟩ <;> rw [h2] at h3 <;> cases h3
/-- the frame stands where only other loose objects changed -/
theorem FrOk.but {h₀ h h' : Heap} {cx : Cx} {env : Env} {ρ : REnv} {μ : List Addr} {W : Addr → Prop} (F : FrOk h₀ cx env ρ μ h) (hk : ∀ b o, h.get? b = some o → ¬ W b → h'.get? b = some o) (hW : Loose h₀ W μ h) (hO : ∀ b, W b → ¬ Own env b) : FrOk h₀ cx env ρ μ h' := by
  obtain ⟨m, hn, hv⟩ := F.nsm
  have hloc : ¬ W env.locals := fun hw => hO _ hw (.inl rfl)
  have hcel : ∀ n c, (n, c) ∈ env.cells → ¬ W c := fun n c hm hw => hO _ hw (.inr ⟨n, hm⟩)
  have hc : ∀ n c v, (n, c) ∈ env.cells → h.IsCell c v → h'.IsCell c v := fun n c v hm ⟨o, ho, hd⟩ => ⟨o, hk _ o ho (hcel n c hm), hd⟩
  refine ⟨F.sc, F.fk, F.gl, F.bl, F.len, ⟨m, hn.at' fun o e => hk _ o e hloc, fun n i v hs hr => ?_⟩, F.own, fun n c hm => ?_, F.apart, F.hasc⟩
  · cases hv n i v hs hr with
    | loc h1 h2 h3 => exact .loc h1 h2 (h3.but hk hW)
    | cel h1 h2 h3 h4 => exact .cel h1 h2 (hc n _ _ (mem_of_lookup h2) h3) (h4.but hk hW)
  · obtain ⟨h1, h2, h3, v, hv⟩ := F.cel n c hm
    exact ⟨h1, h2, h3, v, hc n c v hm hv⟩

/-- an iterator -/
inductive IterAt (h₀ : Heap) (I : Addr) : Src → Nat → List Addr → Heap → Prop where
  | live {n a j : Nat} {μ : List Addr} {h : Heap} : μ[n]? = some a → h.IsListIter I a j → IterAt h₀ I (.live n) j μ h
  | tup {a : Addr} {its : List Value} {k j : Nat} {xs : List V} {μ : List Addr} {h : Heap} : h.IsTupleIter I a j → h.get? a = some { cls := .type "tuple", dict := .none, data := .seq its.toArray k, slots := #[] } → Reps h₀ μ h its xs → IterAt h₀ I (.fix xs) j μ h
  | ascii {l : List Nat} {t : Tok} {j : Nat} {μ : List Addr} {h : Heap} : h.IsStrIter I "str_ascii_iterator" ⟨l.toArray⟩ t j → IterAt h₀ I (.fix (l.map fun c => .str [c])) j μ h
  | wide {l : List Nat} {t : Tok} {j : Nat} {μ : List Addr} {h : Heap} : h.IsStrIter I "str_iterator" ⟨l.toArray⟩ t j → IterAt h₀ I (.fix (l.map fun c => .str [c])) j μ h
  | rng {a c : Int} {n j : Nat} {μ : List Addr} {h : Heap} : IsRangeIter h I (a + (j : Nat) * c) ((n : Int) - (j : Nat)) c → IterAt h₀ I (.fix (rangeL a c n)) j μ h

theorem IterAt.obj {h₀ h : Heap} {I : Addr} {S : Src} {j : Nat} {μ : List Addr} (x : IterAt h₀ I S j μ h) : ∃ o, h.get? I = some o ∧ ¬ Firm o ∧ o.cls ≠ .type "list" := by
  have key : ∀ {o : Obj} {T : String}, o.cls = .type T → T ≠ "tuple" → T ≠ "range" → T ≠ "list" → ¬ Firm o ∧ o.cls ≠ .type "list" := fun hc h1 h2 h3 =>
    ⟨fun hf => by rcases hf with ⟨h, _⟩ | ⟨h, _⟩ <;> rw [hc] at h <;> first | exact h1 (Value.type.inj h) | exact h2 (Value.type.inj h), fun h => h3 (Value.type.inj (hc.symm.trans h))⟩
  cases x with
  | live _ h => obtain ⟨o, ho, hc, _⟩ := h; exact ⟨o, ho, key hc (by decide) (by decide) (by decide)⟩
  | tup h _ _ => obtain ⟨o, ho, hc, _⟩ := h; exact ⟨o, ho, key hc (by decide) (by decide) (by decide)⟩
  | ascii h => obtain ⟨o, ho, hc, _⟩ := h; exact ⟨o, ho, key hc (by decide) (by decide) (by decide)⟩
  | wide h => obtain ⟨o, ho, hc, _⟩ := h; exact ⟨o, ho, key hc (by decide) (by decide) (by decide)⟩
  | rng h => exact ⟨_, h, key rfl (by decide) (by decide) (by decide)⟩
theorem IterAt.apart {h₀ : Heap} {σ : Store} {I : Addr} {S : Src} {j : Nat} {μ : List Addr} {h : Heap} (x : IterAt h₀ I S j μ h) (Sx : SOk h₀ μ σ h) : I ∉ μ := fun hm => by
  obtain ⟨o, ho, hf, hl⟩ := x.obj
  obtain ⟨o', ho', hl'⟩ := Sx.isList hm
  rw [ho] at ho'; cases ho'
  exact hl hl'
/-- an iterator stands while others work -/
theorem IterAt.stepX {h₀ : Heap} {W : Addr → Prop} {I : Addr} {S : Src} {j : Nat} {μ μ' : List Addr} {σ : Store} {s s' : Shared} (x : IterAt h₀ I S j μ s.heap) (Sx : SOk h₀ μ σ s.heap) (p : StpX W μ μ' s s') (hW : ∀ b o, W b → s.heap.get? b = some o → ¬ Firm o) (hI : ¬ W I) : IterAt h₀ I S j μ' s'.heap := by
  have hap := x.apart Sx
  have hk : ∀ b o, s.heap.get? b = some o → Firm o → s'.heap.get? b = some o := fun b o h hf => p.keep b o h (fun hm => by
    obtain ⟨o', h', hl⟩ := Sx.isList hm
    rw [h] at h'; cases h'
    exact hf.not_list hl) fun hw => hW b o hw h hf
  obtain ⟨ν, hν, _⟩ := p.pre
  cases x with
  | live h1 h2 => obtain ⟨o, ho, r⟩ := h2; exact .live (by rw [hν, List.getElem?_append_left (List.getElem?_eq_some_iff.mp h1).1]; exact h1) ⟨o, p.keep _ _ ho hap hI, r⟩
  | tup h1 h2 h3 =>
    obtain ⟨o, ho, r⟩ := h1
    exact .tup ⟨o, p.keep _ _ ho hap hI, r⟩ (hk _ _ h2 (.inl ⟨rfl, _, _, rfl⟩)) (by rw [hν]; exact h3.mono hk)
  | ascii h1 => obtain ⟨o, ho, r⟩ := h1; exact .ascii ⟨o, p.keep _ _ ho hap hI, r⟩
  | wide h1 => obtain ⟨o, ho, r⟩ := h1; exact .wide ⟨o, p.keep _ _ ho hap hI, r⟩
  | rng h1 => exact .rng (p.keep _ _ h1 hap hI)

section
variable {prog : Program} {w : World} {A : Around} {h₀ : Heap} {μ : List Addr} {σ : Store} {s : Shared}

theorem iter_start (S : SOk h₀ μ σ s.heap) {v : Value} {x : V} {Z : Src} (r : Rep h₀ μ s.heap v x) (hz : srcOf x = some Z) {Q : Value → Shared → Prop} {E : Value → Shared → Prop}
    (hQ : ∀ h', (∀ b o, s.heap.get? b = some o → h'.get? b = some o) → IterAt h₀ s.heap.objs.size Z 0 μ h' → Q (.ref s.heap.objs.size) { s with heap := h' }) : wpAny (model prog w) A (pyIter v) Q E s := by
  have hp : ∀ o b o', s.heap.get? b = some o' → (s.heap.push o).get? b = some o' := fun o b o' h => Heap.get?_push_of_some o h
  cases r <;> simp [srcOf] at hz
  case str l t hl =>
    subst hz
    cases ha : (⟨l.toArray⟩ : Str).cps.all (· < 128)
    · exact wpAny_pyIter_wide ha (hQ _ (hp _) (.wide ⟨_, Heap.get?_push_size _ rfl, rfl, rfl⟩))
    · exact wpAny_pyIter_ascii ha (hQ _ (hp _) (.ascii ⟨_, Heap.get?_push_size _ rfl, rfl, rfl⟩))
  case tup a its n l g hl rr =>
    subst hz
    exact wpAny_pyIter_tuple ⟨_, g, rfl, _, rfl⟩ (hQ _ (hp _) (.tup ⟨_, Heap.get?_push_size _ rfl, rfl, rfl⟩ (hp _ _ _ g) (rr.grown (hp _))))
  case lst a n ha =>
    subst hz
    obtain ⟨xs, its, ep, e1, g1, l1, r1⟩ := S.list ha
    exact wpAny_pyIter_list ⟨_, g1, rfl, _, rfl⟩ (hQ _ (hp _) (.live ha ⟨_, Heap.get?_push_size _ rfl, rfl, rfl⟩))
  case rng r a b c t u v n h1 h2 h3 =>
    subst hz
    refine wpAny_pyIter_range h1 h2 (hQ _ (hp _) (.rng ?_))
    have := Heap.get?_push_size (h := s.heap) (o := { cls := .type "range_iterator", data := .fields #[rawInt a, rawInt (Builtin.Range.rangeSize a b c), rawInt c] }) rfl
    rw [h3] at this ⊢
    simpa using this

theorem iter_next (S : SOk h₀ μ σ s.heap) {I : Addr} {Z : Src} {j : Nat} {r : Option V} (x : IterAt h₀ I Z j μ s.heap) (hj : ∀ xs, Z = .fix xs → j ≤ xs.length) (hh : A.handled = none) (hI : h₀.get? I = none) (hr : Z.get j σ = some r) {Q : Option Value → Shared → Prop} {E : Value → Shared → Prop}
    (hQ : ∀ h' tk, (∀ b o, s.heap.get? b = some o → ¬ b = I → h'.get? b = some o) → match r with
      | some y => ∀ v, Rep h₀ μ h' v y → IterAt h₀ I Z (j + 1) μ h' → Q (some v) { s with heap := h', toks := tk }
      | none => Q none { s with heap := h', toks := tk }) : wpAny (model prog w) A (pyNext (.ref I)) Q E s := by
  have hap := x.apart S
  obtain ⟨oI, hoI, hfI, _⟩ := x.obj
  have hW : Loose h₀ (fun b => b = I) μ s.heap := ⟨fun b e => by subst e; exact hI, fun b e => by subst e; exact hap, fun b o e h => by subst e; rw [hoI] at h; cases h; exact hfI⟩
  have hsb : ∀ {h' : Heap}, Heap.SameBut I s.heap h' → ∀ b o, s.heap.get? b = some o → ¬ b = I → h'.get? b = some o := fun hs b o h hb => (hs.2 b hb).trans h
  have heb : ∀ {h' : Heap}, Heap.ExtBut I s.heap h' → ∀ b o, s.heap.get? b = some o → ¬ b = I → h'.get? b = some o := fun hs b o h hb => hs b o hb h
  cases x with
  | @live n a _ _ _ h1 h2 =>
    obtain ⟨xs, its, ep, e1, g1, l1, r1⟩ := S.list h1
    simp only [Src.get, e1, Option.some.injEq] at hr
    have L : s.heap.IsList a its.toArray := ⟨_, g1, rfl, _, rfl⟩
    subst hr
    cases hy : xs[j]? with
    | some y =>
      obtain ⟨v, hv, rv⟩ := r1.get hy
      rw [hy] at hQ
      exact wpAny_pyNext_list_item h2 L (x := v) (by simpa using hv) fun h' hit hs => hQ h' s.toks (hsb hs) v (rv.but (hsb hs) hW) (.live h1 hit)
    | none =>
      rw [hy] at hQ
      have : its.toArray[j]? = none := by simpa [r1.length] using hy
      exact wpAny_pyNext_list_end hh h2 L this fun h' he => hQ h' s.toks (heb he)
  | @tup a its k _ xs _ _ h1 h2 h3 =>
    simp only [Src.get, Option.some.injEq] at hr
    have L : s.heap.IsTuple a its.toArray := ⟨_, h2, rfl, _, rfl⟩
    subst hr
    have hne : a ≠ I := fun e => by subst e; rw [h2] at hoI; cases hoI; exact hfI (.inl ⟨rfl, _, _, rfl⟩)
    cases hy : xs[j]? with
    | some y =>
      obtain ⟨v, hv, rv⟩ := h3.get hy
      rw [hy] at hQ
      exact wpAny_pyNext_tuple_item h1 L (x := v) (by simpa using hv) fun h' hit hs => hQ h' s.toks (hsb hs) v (rv.but (hsb hs) hW) (.tup hit (hsb hs _ _ h2 hne) (h3.but (hsb hs) hW))
    | none =>
      rw [hy] at hQ
      have : its.toArray[j]? = none := by simpa [h3.length] using hy
      exact wpAny_pyNext_tuple_end hh h1 L this fun h' he => hQ h' s.toks (heb he)
  | @ascii l t _ _ _ h1 =>
    simp only [Src.get, Option.some.injEq] at hr
    subst hr
    rw [List.getElem?_map] at hQ
    cases hy : l[j]? with
    | some y =>
      rw [hy] at hQ
      exact wpAny_pyNext_ascii_item h1 (c := y) (by rw [strGet]; exact hy) fun h' hit hs => hQ h' (s.toks + 1) (hsb hs) _ (.str [y] _ (by show 1 ≤ 16777216; decide)) (.ascii hit)
    | none =>
      rw [hy] at hQ
      exact wpAny_pyNext_ascii_end hh h1 (by rw [strGet]; exact hy) fun h' he => hQ h' s.toks (heb he)
  | @wide l t _ _ _ h1 =>
    simp only [Src.get, Option.some.injEq] at hr
    subst hr
    rw [List.getElem?_map] at hQ
    cases hy : l[j]? with
    | some y =>
      rw [hy] at hQ
      exact wpAny_pyNext_wide_item h1 (c := y) (by rw [strGet]; exact hy) fun h' hit hs => hQ h' (s.toks + 1) (hsb hs) _ (.str [y] _ (by show 1 ≤ 16777216; decide)) (.wide hit)
    | none =>
      rw [hy] at hQ
      exact wpAny_pyNext_wide_end hh h1 (by rw [strGet]; exact hy) fun h' he => hQ h' s.toks (heb he)
  | @rng a c n _ _ _ h1 =>
    simp only [Src.get, Option.some.injEq] at hr
    subst hr
    have hle : j ≤ n := by have := hj _ rfl; simpa [rangeL] using this
    by_cases hlt : j < n
    · have e : (rangeL a c n)[j]? = some (.int (a + (j : Nat) * c)) := by simp [rangeL, hlt]
      rw [e] at hQ
      refine wpAny_pyNext_range_item h1 (by (first | lia | omega)) fun h' hit hs => hQ h' (s.toks + 1) (hsb hs) _ (.int _ _) (.rng ?_)
      have e1 : a + ((j + 1 : Nat) : Int) * c = a + (j : Int) * c + c := by push_cast; rw [Int.add_mul, Int.one_mul, Int.add_assoc]
      have e2 : (n : Int) - ((j + 1 : Nat) : Int) = (n : Int) - (j : Int) - 1 := by push_cast; (first | lia | omega)
      rw [e1, e2]; exact hit
    · have e : (rangeL a c n)[j]? = none := by simp [rangeL]; (first | lia | omega)
      rw [e] at hQ
      exact wpAny_pyNext_range_end hh h1 (by (first | lia | omega)) fun h' he => hQ h' s.toks (heb he)
end
end Mine
end

section
open PySem PySem.W PyProof.Rows PySem.Calls PySem.SeqAt
set_option Elab.async false
set_option linter.unusedVariables false
namespace Mine

structure CxOk (cx : Cx) : Prop where
  inj : ∀ p ∈ cx.slot, ∀ q ∈ cx.slot, p.2 = q.2 → p.1 = q.1
  kind : ∀ p ∈ cx.slot, cx.scope.names.lookup p.1 = some .local ∨ cx.scope.names.lookup p.1 = some .cell
  lt : ∀ p ∈ cx.slot, p.2 < cx.n

section
variable {M : Model} {A : Around} {E : Value → Shared → Prop} {h₀ : Heap} {cx : Cx} {env : Env} {ρ : REnv} {μ : List Addr} {s : Shared}

theorem FrOk.plain (F : FrOk h₀ cx env ρ μ s.heap) : (env.scope.kind == .class || (env.scope.kind == .module && env.locals != env.globals)) = false := by
  rw [F.sc, F.fk]; rfl
theorem store_local (F : FrOk h₀ cx env ρ μ s.heap) (hok : CxOk cx) {n : Str} {i : Nat} (hs : cx.slot.lookup n = some i) (hl : cx.scope.names.lookup n = some .local) {v' : Value} {v : V} (r : Rep h₀ μ s.heap v' v) {Q : Unit → Shared → Prop}
    (hQ : ∀ h', FrOk h₀ cx env (ρ.set i (some v)) μ h' → Heap.SameBut env.locals s.heap h' → Q () { s with heap := h', toks := s.toks + 1 }) : wpAny M A (storeName env n v') Q E s := by
  obtain ⟨m, hn, hm⟩ := F.nsm
  refine wpAny_storeName_local ((F.kindOf n).trans hl) hn (fun h' hn' hsb => hQ h' ?_ hsb) F.plain
  have hlo := F.loose
  have hk : ∀ b o, s.heap.get? b = some o → ¬ Own env b → h'.get? b = some o := fun b o hb ho => (hsb.2 b fun e => ho (.inl e)).trans hb
  have hc : ∀ n c v, (n, c) ∈ env.cells → s.heap.IsCell c v → h'.IsCell c v := fun n c v hm ⟨o, ho, hd⟩ => ⟨o, (hsb.2 c (F.cel n c hm).2.2.1).trans ho, hd⟩
  refine ⟨F.sc, F.fk, F.gl, F.bl, by rw [List.length_set]; exact F.len, ⟨_, hn', fun n' i' w hs' hr => ?_⟩, F.own, fun n c hm => ?_, F.apart, F.hasc⟩
  · by_cases e : n' = n
    · subst e
      rw [hs] at hs'; cases hs'
      have hlt : i < ρ.length := by rw [F.len]; exact hok.lt _ (mem_of_lookup hs)
      rw [List.getElem?_set_self hlt] at hr
      cases hr
      exact .loc hl (if_pos rfl) (r.but hk hlo)
    · have hne : i ≠ i' := fun e' => e (hok.inj _ (mem_of_lookup hs') _ (mem_of_lookup hs) e'.symm)
      rw [List.getElem?_set_ne hne] at hr
      cases hm n' i' w hs' hr with
      | loc h1 h2 h3 => exact .loc h1 (by rw [if_neg e]; exact h2) (h3.but hk hlo)
      | cel h1 h2 h3 h4 => exact .cel h1 h2 (hc n' _ _ (mem_of_lookup h2) h3) (h4.but hk hlo)
  · obtain ⟨h1, h2, h3, v, hv⟩ := F.cel n c hm
    exact ⟨h1, h2, h3, v, hc n c v hm hv⟩
theorem store_cell (F : FrOk h₀ cx env ρ μ s.heap) (hok : CxOk cx) {n : Str} {i : Nat} (hs : cx.slot.lookup n = some i) (hl : cx.scope.names.lookup n = some .cell) {v' : Value} {v : V} (r : Rep h₀ μ s.heap v' v) {Q : Unit → Shared → Prop}
    (hQ : ∀ h', FrOk h₀ cx env (ρ.set i (some v)) μ h' → (∀ b o, s.heap.get? b = some o → ¬ Own env b → h'.get? b = some o) → Q () { s with heap := h' }) : wpAny M A (storeName env n v') Q E s := by
  obtain ⟨m, hn, hm⟩ := F.nsm
  obtain ⟨c, hcl⟩ := F.hasc n hl
  have hmem := mem_of_lookup hcl
  obtain ⟨c1, c2, c3, v₀, hc0⟩ := F.cel n c hmem
  refine wpAny_storeName_cell (by rw [F.sc]; exact F.fk) ((F.kindOf n).trans hl) hcl hc0 fun h' hc' hsb => hQ h' ?_ fun b o hb ho => (hsb.2 b fun e => ho (.inr ⟨n, e ▸ hmem⟩)).trans hb
  have hlo := F.loose
  have hk : ∀ b o, s.heap.get? b = some o → ¬ Own env b → h'.get? b = some o := fun b o hb ho => (hsb.2 b fun e => ho (.inr ⟨n, e ▸ hmem⟩)).trans hb
  have hc : ∀ n' c' v, (n', c') ∈ env.cells → n' ≠ n → s.heap.IsCell c' v → h'.IsCell c' v := fun n' c' v hm hne ⟨o, ho, hd⟩ => ⟨o, (hsb.2 c' fun e => hne (F.apart n' n c (e ▸ hm) hmem)).trans ho, hd⟩
  refine ⟨F.sc, F.fk, F.gl, F.bl, by rw [List.length_set]; exact F.len, ⟨m, hn.sameBut hsb (Ne.symm c3), fun n' i' w hs' hr => ?_⟩, F.own, fun n' c' hm => ?_, F.apart, F.hasc⟩
  · by_cases e : n' = n
    · subst e
      rw [hs] at hs'; cases hs'
      have hlt : i < ρ.length := by rw [F.len]; exact hok.lt _ (mem_of_lookup hs)
      rw [List.getElem?_set_self hlt] at hr
      cases hr
      exact .cel hl hcl hc' (r.but hk hlo)
    · have hne : i ≠ i' := fun e' => e (hok.inj _ (mem_of_lookup hs') _ (mem_of_lookup hs) e'.symm)
      rw [List.getElem?_set_ne hne] at hr
      cases hm n' i' w hs' hr with
      | loc h1 h2 h3 => exact .loc h1 h2 (h3.but hk hlo)
      | cel h1 h2 h3 h4 => exact .cel h1 h2 (hc n' _ _ (mem_of_lookup h2) e h3) (h4.but hk hlo)
  · obtain ⟨h1, h2, h3, v, hv⟩ := F.cel n' c' hm
    by_cases e : c' = c
    · subst e; exact ⟨h1, h2, h3, _, hc'⟩
    · obtain ⟨o, ho, hd⟩ := hv
      exact ⟨h1, h2, h3, v, o, (hsb.2 c' e).trans ho, hd⟩
end

/-- a store to a name: the frame's own objects change -/
theorem store_ok {B : Base} {C : Calls} {A : Around} {cx : Cx} {env : Env} {ρ : REnv} {μ : List Addr} {σ : Store} {s : Shared} (X : Sit B C A cx env ρ μ σ s) (hok : CxOk cx) {n : Str} {i : Nat} (hs : cx.slot.lookup n = some i) {v' : Value} {v : V} (r : Rep B.h₀ μ s.heap v' v) {Q : Unit → Shared → Prop} {E : Value → Shared → Prop}
    (hQ : ∀ s', Sit B C A cx env (ρ.set i (some v)) μ σ s' → StpX (Own env) μ μ s s' → Q () s') : wpAny (model B.prog B.w) A (storeName env n v') Q E s := by
  rcases hok.kind _ (mem_of_lookup hs) with hl | hl
  · refine store_local X.F hok hs hl r fun h' F' hsb => ?_
    have hk : ∀ b o, s.heap.get? b = some o → ¬ Own env b → h'.get? b = some o := fun b o hb ho => (hsb.2 b fun e => ho (.inl e)).trans hb
    exact hQ _ ⟨X.S.but hk X.F.loose, F', X.gens, X.R, X.calls⟩ (StpX.but hk)
  · refine store_cell X.F hok hs hl r fun h' F' hk => ?_
    exact hQ { s with heap := h', toks := s.toks } ⟨X.S.but hk X.F.loose, F', X.gens, X.R, X.calls⟩ (StpX.but hk)
end Mine
end

section
open PySem PySem.W PyProof.Rows PySem.Calls PySem.SeqAt
set_option Elab.async false
set_option linter.unusedVariables false
namespace Mine

noncomputable def relab (scope cs : Scope) : Scope :=
  { scope with names := scope.names.map fun (n, k) => if (k == .free && cs.kind == .function && cs.names.lookup n == some .cell) then (n, .cell) else (n, k) }

noncomputable def clos (cells : List (Str × Addr)) : List (Str × NameKind) → List (Str × Addr) → List (Str × Addr)
  | [], acc => acc
  | (n, k) :: r, acc => if k == .free then clos cells r ((n, (cells.lookup n).getD 0) :: acc) else clos cells r acc
theorem clos_mem {cells : List (Str × Addr)} : ∀ {ns : List (Str × NameKind)} {acc : List (Str × Addr)} {n : Str} {c : Addr}, (n, c) ∈ clos cells ns acc → (n, c) ∈ acc ∨ ((n, .free) ∈ ns ∧ (cells.lookup n).getD 0 = c)
  | [], acc, n, c, h => .inl h
  | (k, kd) :: r, acc, n, c, h => by
    unfold clos at h
    split at h
    · rename_i hk
      rcases clos_mem h with h | ⟨h, e⟩
      · rcases List.mem_cons.mp h with e | h
        · cases e
          have : kd = .free := by simpa using hk
          subst this
          exact .inr ⟨List.mem_cons_self, rfl⟩
        · exact .inl h
      · exact .inr ⟨List.mem_cons_of_mem _ h, e⟩
    · rcases clos_mem h with h | ⟨h, e⟩
      · exact .inl h
      · exact .inr ⟨List.mem_cons_of_mem _ h, e⟩
theorem clos_has {cells : List (Str × Addr)} : ∀ {ns : List (Str × NameKind)} {acc : List (Str × Addr)} {n : Str}, ((n, .free) ∈ ns ∨ ∃ c, (n, c) ∈ acc) → ∃ c, (n, c) ∈ clos cells ns acc
  | [], acc, n, h => by
    rcases h with h | h
    · first | exact noSome h | cases h
    · exact h
  | (k, kd) :: r, acc, n, h => by
    unfold clos
    split
    · refine clos_has ?_
      rcases h with h | ⟨c, h⟩
      · rcases List.mem_cons.mp h with e | h
        · cases e; exact .inr ⟨_, List.mem_cons_self⟩
        · exact .inl h
      · exact .inr ⟨c, List.mem_cons_of_mem _ h⟩
    · rename_i hk
      refine clos_has ?_
      rcases h with h | h
      · rcases List.mem_cons.mp h with e | h
        · cases e; exact absurd rfl hk
        · exact .inl h
      · exact .inr h
theorem lookup_of_mem {α : Type} : ∀ {l : List (Str × α)} {n : Str} {c : α}, (n, c) ∈ l → ∃ c', l.lookup n = some c'
  | [], _, _, h => by cases h
  | (k, v) :: r, n, c, h => by
    rw [List.lookup_cons]
    cases hb : n == k with
    | true => exact ⟨v, rfl⟩
    | false =>
      rcases List.mem_cons.mp h with e | h
      · cases e; simp at hb
      · exact lookup_of_mem h

theorem closureFor_ok {scope : Scope} {env : Env} (h : ∀ y ∈ scope.names, y.2 = .free → ∃ c, env.cells.lookup y.1 = some c) : closureFor scope env = pure (clos env.cells scope.names []) := by
  have key : ∀ (ns : List (Str × NameKind)) (acc : List (Str × Addr)) (f : Str × NameKind → List (Str × Addr) → Sem (ForInStep (List (Str × Addr)))), (∀ y ∈ ns, y.2 = .free → ∃ c, env.cells.lookup y.1 = some c) →
      (∀ n k acc, f (n, k) acc = if k == .free then (do let a ← cellOf env n; pure (.yield ((n, a) :: acc))) else pure (.yield acc)) → (forIn ns acc f : Sem (List (Str × Addr))) = pure (clos env.cells ns acc) := by
    intro ns
    induction ns with
    | nil => intro acc f _ _; rw [List.forIn_nil]; rfl
    | cons y r ih =>
      intro acc f hy hf
      obtain ⟨n, k⟩ := y
      rw [List.forIn_cons, hf]
      unfold clos
      split
      · rename_i hk
        obtain ⟨c, hc⟩ := hy (n, k) List.mem_cons_self (by simpa using hk)
        have : cellOf env n = pure c := by unfold cellOf; rw [hc]
        rw [this, hc]
        exact ih _ f (fun z hz => hy z (List.mem_cons_of_mem _ hz)) hf
      · exact ih _ f (fun z hz => hy z (List.mem_cons_of_mem _ hz)) hf
  have e := key scope.names [] (fun x cs => match x with | (name, kind) => if kind == .free then (do let a ← cellOf env name; pure (.yield ((name, a) :: cs))) else pure (.yield cs)) h (fun _ _ _ => rfl)
  exact congrArg (fun m : Sem (List (Str × Addr)) => m >>= fun cs => pure cs) e

structure CompOk (cx cxc : Cx) (scope : Scope) (x : Str) : Prop where
  sc : cxc.scope = relab scope cx.scope
  n : cxc.n = cx.n + 1
  kind : scope.kind = .function
  nocell : ∀ y ∈ scope.names, y.2 ≠ .cell
  names : ∀ y ∈ scope.names, y.2 = .local → scope.names.lookup y.1 = some .local
  hx : scope.names.lookup x = some .local
  free : ∀ y ∈ scope.names, y.2 = .free → cx.scope.names.lookup y.1 = some .cell
  slot : ∀ p ∈ cxc.slot, p = (x, cx.n) ∨ (cx.slot.lookup p.1 = some p.2 ∧ (p.1, .free) ∈ scope.names ∧ cxc.scope.names.lookup p.1 = some .cell)
  slotx : cxc.slot.lookup x = some cx.n
  ok : CxOk cxc
  okx : CxOk cx
  cells : ∀ y ∈ cxc.scope.names, y.2 = .cell → (y.1, .free) ∈ scope.names

section
variable {h₀ h : Heap} {cx cxc : Cx} {env : Env} {ρ : REnv} {μ : List Addr} {scope : Scope} {x : Str}
theorem FrOk.relabel (F : FrOk h₀ cx env ρ μ h) : relabel scope env = relab scope cx.scope := by
  unfold PySem.relabel relab
  have : ∀ n, env.kindOf n = cx.scope.names.lookup n := F.kindOf
  simp only [this, F.sc]
theorem FrOk.frees (F : FrOk h₀ cx env ρ μ h) (K : CompOk cx cxc scope x) : ∀ y ∈ scope.names, y.2 = .free → ∃ c, env.cells.lookup y.1 = some c := fun y hy hk => F.hasc _ (K.free y hy hk)
theorem clos_sub (F : FrOk h₀ cx env ρ μ h) (K : CompOk cx cxc scope x) {n : Str} {c : Addr} (hm : (n, c) ∈ clos env.cells scope.names []) : env.cells.lookup n = some c ∧ (n, .free) ∈ scope.names := by
  rcases clos_mem hm with h1 | ⟨h1, e⟩
  · first | exact noSome h1 | cases h1
  · obtain ⟨c', hc⟩ := F.frees K _ h1 rfl
    rw [hc] at e
    simp only [Option.getD_some] at e
    subst e; exact ⟨hc, h1⟩

/-- the frame of a comprehension -/
theorem comp_frame (F : FrOk h₀ cx env ρ μ h) (K : CompOk cx cxc scope x) {Cc : Addr} {m : Str → Option Value} (hn : h.Ns Cc m) (hC : Cc ∉ μ) (hC0 : h₀.get? Cc = none) (hCc : ∀ n c, (n, c) ∈ env.cells → c ≠ Cc) :
    FrOk h₀ cxc (compEnvC scope (clos env.cells scope.names []) Cc env) (ρ ++ [none]) μ h := by
  have lk : ∀ n, (n, .free) ∈ scope.names → ∃ c, (clos env.cells scope.names []).lookup n = some c ∧ env.cells.lookup n = some c := fun n hm => by
    obtain ⟨c, hc⟩ := clos_has (cells := env.cells) (acc := []) (.inl hm)
    obtain ⟨c', hc'⟩ := lookup_of_mem hc
    exact ⟨c', hc', (clos_sub F K (mem_of_lookup hc')).1⟩
  refine ⟨by rw [K.sc]; exact F.relabel, by rw [K.sc]; exact K.kind, F.gl, F.bl, by rw [List.length_append, F.len, K.n]; rfl, ⟨m, hn, fun n i v hs hr => ?_⟩, ⟨hC, hC0⟩, fun n c hm => ?_, fun n n' c h1 h2 => ?_, fun n hn => ?_⟩
  · rcases K.slot _ (mem_of_lookup hs) with e | ⟨h1, h2, h3⟩
    · cases e
      rw [← F.len] at hr
      simp at hr
    · have hlt : i < ρ.length := by rw [F.len]; exact K.okx.lt _ (mem_of_lookup h1)
      rw [List.getElem?_append_left hlt] at hr
      obtain ⟨m0, _, hm0⟩ := F.nsm
      have hk := K.free _ h2 rfl
      cases hm0 n i v h1 hr with
      | loc a1 _ _ => rw [hk] at a1; cases a1
      | cel _ a2 a3 a4 =>
        obtain ⟨c, b1, b2⟩ := lk n h2
        rw [b2] at a2; cases a2
        exact .cel h3 b1 a3 a4
  · obtain ⟨h1, h2⟩ := clos_sub F K hm
    obtain ⟨c1, c2, c3, c4⟩ := F.cel n c (mem_of_lookup h1)
    exact ⟨c1, c2, hCc n c (mem_of_lookup h1), c4⟩
  · exact F.apart n n' c (mem_of_lookup (clos_sub F K h1).1) (mem_of_lookup (clos_sub F K h2).1)
  · obtain ⟨c, hc, _⟩ := lk n (K.cells _ (mem_of_lookup hn) rfl)
    exact ⟨c, hc⟩
end

theorem SOk.adopt {h₀ h : Heap} {μ : List Addr} {σ : Store} {a : Addr} {items : List Value} {xs : List V} {ep : Nat} (S : SOk h₀ μ σ h) (hn : a ∉ μ) (hf : h₀.get? a = none)
    (hg : h.get? a = some { cls := .type "list", dict := none, data := .seq items.toArray ep, slots := #[] }) (r : Reps h₀ μ h items xs) (hl : items.length ≤ LIM) :
    SOk h₀ (μ ++ [a]) (σ ++ [xs]) h ∧ Rep h₀ (μ ++ [a]) h (.ref a) (.lst σ.length) := by
  refine ⟨⟨by simp [S.len], ?_, fun b hb => ?_, fun {n ys} e => ?_, S.base⟩, .lst ?_⟩
  · rw [List.nodup_append]
    exact ⟨S.nd, by simp, fun b hb c hc => by simp at hc; subst hc; exact fun e => hn (e ▸ hb)⟩
  · rcases List.mem_append.mp hb with hb | hb
    · exact S.fresh b hb
    · simp at hb; subst hb; exact hf
  · rcases Nat.lt_trichotomy n σ.length with h | h | h
    · rw [List.getElem?_append_left h] at e
      obtain ⟨b, its, ep, h1, h2, h3, h4⟩ := S.cell e
      exact ⟨b, its, ep, by rw [List.getElem?_append_left (by rw [S.len]; exact h)]; exact h1, h2, h3, h4.mono fun b o h _ => h⟩
    · subst h
      simp at e; subst e
      exact ⟨a, items, ep, by rw [← S.len]; simp, hg, hl, r.mono fun b o h _ => h⟩
    · rw [List.getElem?_eq_none (by simp; (first | lia | omega))] at e; cases e
  · rw [← S.len]; simp

theorem iter_self {prog : Program} {w : World} {A : Around} {h₀ : Heap} {I : Addr} {Z : Src} {j : Nat} {μ : List Addr} {s : Shared} (x : IterAt h₀ I Z j μ s.heap) {Q : Value → Shared → Prop} {E : Value → Shared → Prop} (h : Q (.ref I) s) : wpAny (model prog w) A (pyIter (.ref I)) Q E s := by
  cases x with
  | live _ h1 => exact wpAny_pyIter_listiter h1 h
  | tup h1 _ _ => exact wpAny_pyIter_tupleiter h1 h
  | ascii h1 => exact wpAny_pyIter_striter_ascii h1 h
  | wide h1 => exact wpAny_pyIter_striter_wide h1 h
  | rng h1 => exact wpAny_pyIter_rangeiter h1 h
end Mine
end

section
open PySem PySem.W PyProof.Rows PySem.Calls PySem.SeqAt
set_option Elab.async false
set_option linter.unusedVariables false
namespace Mine

theorem evLoop_len {Z : Src} {f : V → Store → Option (Option V × Store)} : ∀ {k j : Nat} {acc : List V} {σ : Store} {vs : List V} {σ' : Store}, evLoop Z f k j acc σ = some (vs, σ') → acc.length ≤ vs.length
  | 0, _, _, _, _, _, h => by cases h
  | k + 1, j, acc, σ, vs, σ', h => by
    simp only [evLoop] at h
    split at h
    · split at h
      · have := evLoop_len h; rw [List.length_append] at this; (first | lia | omega)
      · exact evLoop_len h
      · first | exact noSome h | cases h
    · cases h; exact Nat.le_refl _
    · first | exact noSome h | cases h

noncomputable abbrev TurnOk (B : Base) (C : Calls) (A : Around) (cxc : Cx) (cenv : Env) (ρ : REnv) (ifs : List Expr) (elt : Expr) (f : V → Store → Option (Option V × Store)) : Prop :=
  ∀ {μ : List Addr} {τ : Store} {s : Shared} {y : V} {r : Option V} {τ' : Store}, Sit B C A cxc cenv (ρ ++ [some y]) μ τ s → f y τ = some (r, τ') → ∀ {E : Value → Shared → Prop} {Qt : Value → Shared → Prop} {Qf : Shared → Prop},
    (∀ z z' s' μ', r = some z → Sit B C A cxc cenv (ρ ++ [some y]) μ' τ' s' → Stp μ μ' s s' → Rep B.h₀ μ' s'.heap z' z → Qt z' s') → (r = none → ∀ s' μ', Sit B C A cxc cenv (ρ ++ [some y]) μ' τ' s' → Stp μ μ' s s' → Qf s') →
    wpAny (model B.prog B.w) A (forIn ifs true fun c r => if r = true then do let ok ← isTrue c cenv (eval c cenv); pure (ForInStep.yield ok) else pure (ForInStep.yield r))
      (fun ok s₃ => if ok = true then wpAny (model B.prog B.w) A (eval elt cenv) Qt E s₃ else Qf s₃) E s

theorem Stp.thenBut {μ μ' : List Addr} {s₀ s : Shared} {W : Addr → Prop} (p : Stp μ μ' s₀ s) {h' : Heap} {t : Nat} (hk : ∀ b o, s.heap.get? b = some o → ¬ W b → h'.get? b = some o) (hW : ∀ b, W b → s₀.heap.get? b = none) (ha : ∀ b, W b → b ∉ μ') : Stp μ μ' s₀ { s with heap := h', toks := t } :=
  (p.toX.trans (StpX.but hk) ha).toStp hW

section
variable {B : Base} {C : Calls} {A : Around} {cx cxc : Cx} {env : Env} {ρ : REnv} {μ₁ : List Addr} {σ₁ σ₂ : Store} {s₁ : Shared} {scope : Scope} {x : Str}

inductive CompI (B : Base) (cxc : Cx) (cenv : Env) (ρ : REnv) (Z : Src) (f : V → Store → Option (Option V × Store)) (I D : Addr) (vs : List V) (σ₂ : Store) (μ₁ : List Addr) (s₁ : Shared) (k : Nat) (s' : Shared) : Prop where
  | mk (j : Nat) (μ' : List Addr) (σ' : Store) (acc : List V) (its : List Value) (ep : Nat) (wv : Option V) : evLoop Z f k j acc σ' = some (vs, σ₂) → IterAt B.h₀ I Z j μ' s'.heap → (∀ xs, Z = .fix xs → j ≤ xs.length) → SOk B.h₀ μ' σ' s'.heap → Stp μ₁ μ' s₁ s' →
        s'.heap.get? D = some { cls := .type "list", dict := none, data := .seq (List.toArray its) ep, slots := #[] } → Reps B.h₀ μ' s'.heap its acc → D ∉ μ' → FrOk B.h₀ cxc cenv (ρ ++ [wv]) μ' s'.heap → CompI B cxc cenv ρ Z f I D vs σ₂ μ₁ s₁ k s'
theorem comp_core (K : CompOk cx cxc scope x) (X₁ : Sit B C A cx env ρ μ₁ σ₁ s₁) {x' : Value} {xv : V} {Z : Src} {f : V → Store → Option (Option V × Store)} {vs : List V} {ifs : List Expr} {elt iter : Expr} {px pos : Pos} {E : Value → Shared → Prop}
    (rx : Rep B.h₀ μ₁ s₁.heap x' xv) (hz : srcOf xv = some Z) (hev : evLoop Z f Z.fuel 0 [] σ₁ = some (vs, σ₂)) (hvs : vs.length ≤ LIM)
    (hT : ∀ Cc, TurnOk B C A cxc (compEnvC scope (clos env.cells scope.names []) Cc env) ρ ifs elt f) {RR : Value → Addr → Result → Shared → Prop}
    (hRR : ∀ D Cc s' μ', s₁.heap.get? D = none → s₁.heap.get? Cc = none → D ≠ Cc → (∃ m, s'.heap.Ns Cc m) → SOk B.h₀ μ' σ₂ s'.heap → Stp μ₁ μ' s₁ s' → D ∉ μ' → Cc ∉ μ' →
      (∃ its ep, s'.heap.get? D = some { cls := .type "list", dict := none, data := .seq (List.toArray its) ep, slots := #[] } ∧ its.length ≤ LIM ∧ Reps B.h₀ μ' s'.heap its vs) → RR (.ref D) Cc (.ok .next) s') :
    wpAny (model B.prog B.w) A (pyIter x') (fun it s₂ => wpAny (model B.prog B.w) A (newList []) (fun acc s₃ => wpAny (model B.prog B.w) A (newFunctionEnv scope env.globals (clos env.cells scope.names []) [] env.qual none .none (some env)) (fun cenv s₄ =>
      codeAny (model B.prog B.w) A (.compStart (.ListComp elt [⟨.Name x px, iter, ifs, 0⟩] scope pos) 0 it acc { cenv with scope := relabel scope env }) (RR acc cenv.locals) s₄) E s₃) E s₂) E s₁ := by
  refine iter_start X₁.S rx hz fun h₂ hk₂ hit₂ => ?_
  refine wpAny_newObj_type (wpAny_newFunctionEnv K.nocell (by intro y hy; simp at hy) (fun h₃ hns₃ hsb₃ => ?_) K.kind)
  dsimp only at hns₃ hsb₃ ⊢
  generalize hI : s₁.heap.objs.size = I at hit₂ ⊢
  have hfI : s₁.heap.get? I = none := hI ▸ free_size _
  generalize hH : h₂.push { cls := .type "list", dict := none, data := .seq ([] : List Value).toArray } = H2 at hns₃ hsb₃ ⊢
  have hD2 : h₂.get? h₂.objs.size = none := free_size _
  have k2 : ∀ b o, h₂.get? b = some o → H2.get? b = some o := fun b o e => hH ▸ Heap.get?_push_of_some _ e
  have hDH : H2.get? h₂.objs.size = some { cls := .type "list", dict := none, data := .seq ([] : List Value).toArray, slots := #[] } := hH ▸ Heap.get?_push_size _ rfl
  generalize hDe : h₂.objs.size = D at hD2 hDH ⊢
  have hC2 : H2.get? H2.objs.size = none := free_size _
  have k3 : ∀ b o, H2.get? b = some o → h₃.get? b = some o := fun b o e => by
    have hne : b ≠ H2.objs.size := Nat.ne_of_lt (Heap.lt_size e)
    rw [hsb₃.2 b hne]; exact Heap.get?_push_of_some _ e
  generalize hCe : H2.objs.size = Cc at hns₃ hC2 ⊢
  have old : ∀ b o, s₁.heap.get? b = some o → h₃.get? b = some o := fun b o e => k3 b o (k2 b o (hk₂ b o e))
  have none₂ : ∀ {b}, h₂.get? b = none → s₁.heap.get? b = none := fun {b} e => by
    cases e' : s₁.heap.get? b with
    | none => rfl
    | some o => rw [hk₂ b o e'] at e; cases e
  have noneH : ∀ {b}, H2.get? b = none → h₂.get? b = none := fun {b} e => by
    cases e' : h₂.get? b with
    | none => rfl
    | some o => rw [k2 b o e'] at e; cases e
  have hfD : s₁.heap.get? D = none := none₂ hD2
  have hfC : s₁.heap.get? Cc = none := none₂ (noneH hC2)
  obtain ⟨oI, hoI, _, _⟩ := hit₂.obj
  have hID : I ≠ D := fun e => by subst e; rw [hoI] at hD2; cases hD2
  have hIC : I ≠ Cc := fun e => by subst e; rw [noneH hC2] at hoI; cases hoI
  have hDC : D ≠ Cc := fun e => by subst e; rw [hDH] at hC2; cases hC2
  have hgI := X₁.S.free hfI
  have hgD := X₁.S.free hfD
  have hgC := X₁.S.free hfC
  have notμ : ∀ {b}, s₁.heap.get? b = none → b ∉ μ₁ := fun {b} e hm => by
    obtain ⟨o, h, _⟩ := X₁.S.isList hm
    rw [e] at h; cases h
  have S₂ : SOk B.h₀ μ₁ σ₁ h₂ := X₁.S.grown hk₂
  have S₃ : SOk B.h₀ μ₁ σ₁ h₃ := X₁.S.grown old
  have hit₃ : IterAt B.h₀ I Z 0 μ₁ h₃ := IterAt.stepX (W := fun _ => False) (s := { s₁ with heap := h₂ }) (s' := { s₁ with heap := h₃ }) hit₂ S₂ (Stp.grown (s := { s₁ with heap := h₂ }) (t := s₁.toks) fun b o e => k3 b o (k2 b o e)).toX (fun _ _ h => h.elim) (fun h => h)
  have F₃ : FrOk B.h₀ cx env ρ μ₁ h₃ := X₁.F.step X₁.S (Stp.grown (t := s₁.toks) old)
  have hCcell : ∀ n c, (n, c) ∈ env.cells → c ≠ Cc := fun n c hm e => by
    obtain ⟨_, _, _, v, o, ho, _⟩ := X₁.F.cel n c hm
    rw [e, hfC] at ho; cases ho
  have Fc := comp_frame F₃ K hns₃ (notμ hfC) hgC hCcell
  have ownC : ∀ {b}, s₁.heap.get? b = none → b ≠ Cc → ¬ Own (compEnvC scope (clos env.cells scope.names []) Cc env) b := fun {b} hb hne ho => by
    rcases ho with e | ⟨n, hm⟩
    · exact hne e
    · obtain ⟨_, _, _, v, o, ho, _⟩ := X₁.F.cel n b (mem_of_lookup (clos_sub X₁.F K hm).1)
      rw [hb] at ho; cases ho
  have hD3 : h₃.get? D = some { cls := .type "list", dict := none, data := .seq (List.toArray ([] : List Value)) 0, slots := #[] } := k3 _ _ hDH
  have loop : ∀ s₃ : Shared, s₃ = { s₁ with heap := h₃, toks := s₁.toks + ([] : List (Str × Value)).length } →
      codeAny (model B.prog B.w) A (.compLoop (.ListComp elt [⟨.Name x px, iter, ifs, 0⟩] scope pos) 0 (.ref I) (.ref D) (compEnvC scope (clos env.cells scope.names []) Cc env)) (RR (.ref D) Cc) s₃ := by
    rintro s₃ rfl
    generalize hce : compEnvC scope (clos env.cells scope.names []) Cc env = cenv at Fc ownC ⊢
    have hcl : cenv.locals = Cc := by rw [← hce]; rfl
    refine codeAny_compLoop_tests (CompI B cxc cenv ρ Z f I D vs σ₂ μ₁ s₁) ?_ Z.fuel
      ⟨0, μ₁, σ₁, [], [], 0, none, hev, hit₃, fun _ _ => Nat.zero_le _, S₃, Stp.grown old, hD3, .nil, notμ hfD, Fc⟩
    rintro k s' ⟨j, μ', σ', acc, its, ep, wv, he, hit, hjl, S', p', hD, ra, hDμ, F'⟩
    have hhd := X₁.R.hd
    -- what changes is loose
    obtain ⟨o, ho, hof, hol⟩ := hit.obj
    have WI : Loose B.h₀ (fun b => b = I) μ' s'.heap := ⟨fun b e => e ▸ hgI, fun b e => e ▸ hit.apart S', fun b o' e h => by subst e; rw [ho] at h; cases h; exact hof⟩
    cases k with
    | zero => cases he
    | succ k =>
      simp only [evLoop] at he
      cases hget : Z.get j σ' with
      | none => rw [hget] at he; cases he
      | some r =>
        rw [hget] at he
        refine iter_next S' hit hjl hhd hgI hget fun h4 tk4 hk4 => ?_
        have S4 := S'.but hk4 WI
        have p4 : Stp μ₁ μ' s₁ { s' with heap := h4, toks := tk4 } := p'.thenBut hk4 (fun b e => e ▸ hfI) (fun b e => e ▸ hit.apart S')
        have hD4 := hk4 _ _ hD (Ne.symm hID)
        have ra4 := ra.but hk4 WI
        have F4 := F'.but hk4 WI fun b e => by subst e; exact ownC hfI hIC
        cases r with
        | none =>
          simp only [Option.some.injEq, Prod.mk.injEq] at he
          obtain ⟨rfl, rfl⟩ := he
          refine hRR D Cc _ μ' hfD hfC hDC ?_ S4 p4 hDμ ?_ ⟨its, ep, hD4, by rw [ra.length]; exact hvs, ra4⟩
          · obtain ⟨m, hm, _⟩ := F4.nsm; rw [hcl] at hm; exact ⟨m, hm⟩
          · have := F4.own.1; rwa [hcl] at this
        | some y =>
          intro v rv hit4
          have hxl : cxc.scope.names.lookup x = some .local := by
            rw [K.sc]
            exact lookup_relabel_local (env := { env with scope := cx.scope }) K.hx
          refine wpAny_assign_Name (store_local F4 K.ok K.slotx hxl rv fun h5 F5 hsb5 => ?_)
          rw [hcl] at hsb5
          have hk5 : ∀ b o, h4.get? b = some o → ¬ b = Cc → h5.get? b = some o := fun b o e hne => (hsb5.2 b hne).trans e
          have WC : Loose B.h₀ (fun b => b = Cc) μ' h4 := by
            have := F4.loose
            exact ⟨fun b e => e ▸ hgC, fun b e => this.apart b (.inl (e.trans hcl.symm)), fun b o e h => this.firm b o (.inl (e.trans hcl.symm)) h⟩
          have S5 := S4.but hk5 WC
          have p5 : Stp μ₁ μ' s₁ { s' with heap := h5, toks := tk4 + 1 } := p4.thenBut (s := { s' with heap := h4, toks := tk4 }) hk5 (fun b e => e ▸ hfC) (fun b e => WC.apart b e)
          have hD5 := hk5 _ _ hD4 hDC
          have ra5 := ra4.but hk5 WC
          have hit5 : IterAt B.h₀ I Z (j + 1) μ' h5 := IterAt.stepX (W := fun b => b = Cc) (s := { s' with heap := h4, toks := tk4 }) (s' := { s' with heap := h5, toks := tk4 }) hit4 S4 (StpX.but (s := { s' with heap := h4, toks := tk4 }) hk5) (fun b o e h => WC.firm b o e h) hIC
          have eρ : (ρ ++ [wv]).set cx.n (some y) = ρ ++ [some y] := by
            rw [← X₁.F.len, List.set_append_right _ _ (Nat.le_refl _)]; simp
          rw [eρ] at F5
          have X5 : Sit B C A cxc cenv (ρ ++ [some y]) μ' σ' { s' with heap := h5, toks := tk4 + 1 } := ⟨S5, F5, p5.gens.trans X₁.gens, X₁.R, X₁.calls⟩
          have hj1 : ∀ xs, Z = .fix xs → j + 1 ≤ xs.length := fun xs e => by
            subst e
            simp only [Src.get, Option.some.injEq] at hget
            exact (List.getElem?_eq_some_iff.mp hget).1
          cases hf : f y σ' with
          | none => simp only [hf] at he; cases he
          | some q =>
            obtain ⟨r, τ'⟩ := q
            have fin : ∀ {s6 : Shared} {μ6 : List Addr}, Sit B C A cxc cenv (ρ ++ [some y]) μ6 τ' s6 → Stp μ' μ6 { s' with heap := h5, toks := tk4 + 1 } s6 →
                IterAt B.h₀ I Z (j + 1) μ6 s6.heap ∧ Stp μ₁ μ6 s₁ s6 ∧ s6.heap.get? D = some { cls := .type "list", dict := none, data := .seq (List.toArray its) ep, slots := #[] } ∧ Reps B.h₀ μ6 s6.heap its acc ∧ D ∉ μ6 := fun X6 p6 =>
              ⟨hit5.stepX (W := fun _ => False) S5 p6.toX (fun _ _ h => h.elim) (fun h => h), p5.trans p6, p6.keep _ _ hD5 hDμ, ra5.step S5 p6, p6.mem hD5 hDμ⟩
            subst hce
            refine hT Cc X5 hf (fun z z' s6 μ6 hz6 X6 p6 r6 => ?_) (fun hn s6 μ6 X6 p6 => ?_)
            · skip
              subst hz6
              simp only [hf] at he
              obtain ⟨f1, f2, f3, f4, f5⟩ := fin X6 p6
              have hlen : its.length < LIM + 1 := by have := evLoop_len he; rw [List.length_append, ← ra.length] at this; simp at this; (first | lia | omega)
              refine wpAny_list_append_plain ⟨ep, f3⟩ (fun h7 hp7 hsb7 => ?_) (by rw [List.size_toArray, sizeLine_LIM]; (first | lia | omega))
              obtain ⟨ep7, hD7⟩ := hp7
              have hk7 : ∀ b o, s6.heap.get? b = some o → ¬ b = D → h7.get? b = some o := fun b o e hne => (hsb7.2 b hne).trans e
              have WD : Loose B.h₀ (fun b => b = D) μ6 s6.heap := ⟨fun b e => e ▸ hgD, fun b e => e ▸ f5, fun b o e h hfm => by subst e; rw [f3] at h; cases h; exact hfm.not_list rfl⟩
              refine ⟨k, Nat.lt_succ_self _, j + 1, μ6, τ', acc ++ [z], its ++ [z'], ep7, some y, he, ?_, hj1, X6.S.but hk7 WD, ?_, by simpa using hD7, (f4.but hk7 WD).append (.cons (r6.but hk7 WD) .nil), f5, X6.F.but hk7 WD fun b e => by subst e; exact ownC hfD hDC⟩
              · exact IterAt.stepX (W := fun b => b = D) (s := s6) (s' := { s6 with heap := h7 }) f1 X6.S (StpX.but (s := s6) (t := s6.toks) hk7) (fun b o e h => WD.firm b o e h) hID
              · exact f2.thenBut (t := s6.toks) hk7 (fun b e => e ▸ hfD) (fun b e => e ▸ f5)
            · skip
              subst hn
              simp only [hf] at he
              obtain ⟨f1, f2, f3, f4, f5⟩ := fin X6 p6
              exact ⟨k, Nat.lt_succ_self _, j + 1, μ6, τ', acc, its, ep, some y, he, f1, hj1, X6.S, f2, f3, f4, f5, X6.F⟩
  exact codeAny_compStart_list (loop _ rfl) (iter_self hit₃ (loop _ rfl))
end
end Mine
end

section
open PySem PySem.W PyProof.Rows PySem.Calls PySem.SeqAt
set_option Elab.async false
set_option linter.unusedVariables false
namespace Mine

theorem Stp.adopt {μ μ' : List Addr} {s s' : Shared} (p : Stp μ μ' s s') {a : Addr} (h : s.heap.get? a = none) : Stp μ (μ' ++ [a]) s s' := by
  obtain ⟨ν, hν, hf⟩ := p.pre
  refine ⟨⟨ν ++ [a], by rw [hν, List.append_assoc], fun b hb => ?_⟩, p.keep, p.live, p.gens, p.os⟩
  rcases List.mem_append.mp hb with hb | hb
  · exact hf b hb
  · rw [List.mem_singleton.mp hb]; exact h

section
variable {B : Base} {cx cxc : Cx} {scope : Scope} {x : Str}

theorem turn_plain {elt : Expr} {elt' : Ex} (he : SndE B cxc elt elt') {C : Calls} {A : Around} {cenv : Env} {ρ : REnv} : TurnOk B C A cxc cenv ρ [] elt (cF B.T C ρ elt') := by
  intro μ τ s y r τ' X hf E Qt Qf h1 h2
  rw [List.forIn_nil]
  refine wpAny_pure ?_
  rw [if_pos rfl]
  unfold cF at hf
  split at hf
  · rename_i z τ₁ hz
    cases hf
    exact he X hz fun z' s' μ' X' p' r' => h1 _ _ _ _ rfl X' p' r'
  · first | exact noSome hf | cases hf
theorem turn_if {c elt : Expr} {c' elt' : Ex} (hc : SndT B cxc c c') (he : SndE B cxc elt elt') {C : Calls} {A : Around} {cenv : Env} {ρ : REnv} : TurnOk B C A cxc cenv ρ [c] elt (cIf B.T C ρ c' elt') := by
  intro μ τ s y r τ' X hf E Qt Qf h1 h2
  rw [List.forIn_cons, if_pos rfl]
  refine wpAny_bind (wpAny_bind ?_)
  unfold cIf at hf
  split at hf
  · rename_i τ₁ hb
    split at hf
    · rename_i z τ₂ hz
      cases hf
      refine hc X hb fun s' μ' X' p' => wpAny_pure (wpAny_pure ?_)
      rw [if_pos rfl]; exact he X' hz fun z' s'' μ'' X'' p'' r' => h1 _ _ _ _ rfl X'' (p'.trans p'') r'
    · first | exact noSome hf | cases hf
  · rename_i τ₁ hb
    cases hf
    refine hc X hb fun s' μ' X' p' => wpAny_pure (wpAny_pure ?_)
    rw [if_neg (by decide)]; exact h2 rfl _ _ X' p'
  · first | exact noSome hf | cases hf

/-- the comprehension's list, as a value -/
theorem comp_end {C : Calls} {A : Around} {env : Env} {ρ : REnv} {μ₁ μ' : List Addr} {σ₁ σ₂ : Store} {s₁ s' : Shared} {D Cc : Addr} {vs : List V} (X₁ : Sit B C A cx env ρ μ₁ σ₁ s₁) (hD : s₁.heap.get? D = none) (hC : s₁.heap.get? Cc = none) (hDC : D ≠ Cc)
    (hn : ∃ m, s'.heap.Ns Cc m) (S' : SOk B.h₀ μ' σ₂ s'.heap) (p' : Stp μ₁ μ' s₁ s') (hDμ : D ∉ μ') (hCμ : Cc ∉ μ')
    (hl : ∃ its ep, s'.heap.get? D = some { cls := .type "list", dict := none, data := .seq (List.toArray its) ep, slots := #[] } ∧ its.length ≤ LIM ∧ Reps B.h₀ μ' s'.heap its vs) {h' : Heap} {t : Nat} (hsb : Heap.SameBut Cc s'.heap h') :
    Sit B C A cx env ρ (μ' ++ [D]) (σ₂ ++ [vs]) { s' with heap := h', toks := t } ∧ Stp μ₁ (μ' ++ [D]) s₁ { s' with heap := h', toks := t } ∧ Rep B.h₀ (μ' ++ [D]) h' (.ref D) (.lst σ₂.length) := by
  obtain ⟨its, ep, hg, hlen, rr⟩ := hl
  obtain ⟨m, oC, es, ep', hoC, hdC, _⟩ := hn
  have hk : ∀ b o, s'.heap.get? b = some o → ¬ b = Cc → h'.get? b = some o := fun b o e hne => (hsb.2 b hne).trans e
  have WC : Loose B.h₀ (fun b => b = Cc) μ' s'.heap := ⟨fun b e => e ▸ X₁.S.free hC, fun b e => e ▸ hCμ, fun b o e h hf => by
    subst e; rw [hoC] at h; cases h
    rcases hf with ⟨_, xs, n, h3⟩ | ⟨_, xs, h3⟩ <;> rw [hdC] at h3 <;> cases h3⟩
  have S2 := S'.but hk WC
  obtain ⟨S3, r3⟩ := S2.adopt hDμ (X₁.S.free hD) (hk _ _ hg hDC) (rr.but hk WC) hlen
  have p2 : Stp μ₁ (μ' ++ [D]) s₁ { s' with heap := h', toks := t } := (p'.thenBut hk (fun b e => e ▸ hC) (fun b e => e ▸ hCμ)).adopt hD
  exact ⟨X₁.go S3 p2, p2, r3⟩

theorem comp_any (K : CompOk cx cxc scope x) {src elt iter : Expr} {src' : Ex} {ifs : List Expr} {px pos : Pos} {c : Ex} (hsrc : SndE B cx iter src') (fld : ∀ env x, foldedSetIterable iter env x = pure x) (F : Calls → REnv → V → Store → Option (Option V × Store))
    (hT : ∀ {C : Calls} {A : Around} {cenv : Env} {ρ : REnv}, TurnOk B C A cxc cenv ρ ifs elt (F C ρ))
    (hev : ∀ {C : Calls} {ρ : REnv} {σ σ' : Store} {v : V}, ev B.T C ρ σ c = some (v, σ') → ∃ xv σ₁ Z vs σ₂, ev B.T C ρ σ src' = some (xv, σ₁) ∧ srcOf xv = some Z ∧ evLoop Z (F C ρ) Z.fuel 0 [] σ₁ = some (vs, σ₂) ∧ vs.length ≤ LIM ∧ v = .lst σ₂.length ∧ σ' = σ₂ ++ [vs]) :
    Snd B cx (.ListComp elt [⟨.Name x px, iter, ifs, 0⟩] scope pos) c :=
  snd_of (fun X => fun hv => fun hQ => by
    obtain ⟨xv, σ₁, Z, vs, σ₂, h1, h2, h3, h4, rfl, rfl⟩ := hev hv
    rw [eval_ListComp]
    refine wpAny_comprehension_free (use := none) rfl (fld _) (closureFor_ok (X.F.frees K)) K.kind K.names (hsrc X h1 fun x' s₁ μ₁ X₁ p₁ r₁ => ?_)
    refine comp_core (RR := fun acc C => compPost _ _ _ none _ acc C) K X₁ r₁ h2 h3 h4 (fun _ => hT) fun D Cc s' μ' a1 a2 a3 a4 a5 a6 a7 a8 a9 => ?_
    obtain ⟨m, hm⟩ := a4
    refine ⟨m, hm, fun h' hsb => ?_⟩
    obtain ⟨X3, p3, r3⟩ := comp_end (t := s'.toks) X₁ a1 a2 a3 ⟨m, hm⟩ a5 a6 a7 a8 a9 hsb
    exact hQ _ _ _ X3 (p₁.trans p3) r3) fun _ => rfl

theorem ev_comp {T : Tabs} {C : Calls} {ρ : REnv} {σ σ' : Store} {v : V} {src elt : Ex} (h : ev T C ρ σ (.comp src elt) = some (v, σ')) :
    ∃ xv σ₁ Z vs σ₂, ev T C ρ σ src = some (xv, σ₁) ∧ srcOf xv = some Z ∧ evLoop Z (cF T C ρ elt) Z.fuel 0 [] σ₁ = some (vs, σ₂) ∧ vs.length ≤ LIM ∧ v = .lst σ₂.length ∧ σ' = σ₂ ++ [vs] := by
  simp only [ev] at h
  split at h
  · rename_i xv σ₁ h1
    split at h
    · rename_i Z h2
      split at h
      · rename_i vs σ₂ h3
        split at h
        · rename_i h4
          cases h
          exact ⟨xv, σ₁, Z, vs, σ₂, h1, h2, h3, h4, rfl, rfl⟩
        · first | exact noSome h | cases h
      · first | exact noSome h | cases h
    · first | exact noSome h | cases h
  · first | exact noSome h | cases h
theorem ev_compIf {T : Tabs} {C : Calls} {ρ : REnv} {σ σ' : Store} {v : V} {src cond elt : Ex} (h : ev T C ρ σ (.compIf src cond elt) = some (v, σ')) :
    ∃ xv σ₁ Z vs σ₂, ev T C ρ σ src = some (xv, σ₁) ∧ srcOf xv = some Z ∧ evLoop Z (cIf T C ρ cond elt) Z.fuel 0 [] σ₁ = some (vs, σ₂) ∧ vs.length ≤ LIM ∧ v = .lst σ₂.length ∧ σ' = σ₂ ++ [vs] := by
  simp only [ev] at h
  split at h
  · rename_i xv σ₁ h1
    split at h
    · rename_i Z h2
      split at h
      · rename_i vs σ₂ h3
        split at h
        · rename_i h4
          cases h
          exact ⟨xv, σ₁, Z, vs, σ₂, h1, h2, h3, h4, rfl, rfl⟩
        · first | exact noSome h | cases h
      · first | exact noSome h | cases h
    · first | exact noSome h | cases h
  · first | exact noSome h | cases h
theorem snd_comp (K : CompOk cx cxc scope x) {elt iter : Expr} {src' elt' : Ex} {px pos : Pos} (hsrc : Snd B cx iter src') (fld : ∀ env x, foldedSetIterable iter env x = pure x) (he : Snd B cxc elt elt') : Snd B cx (.ListComp elt [⟨.Name x px, iter, [], 0⟩] scope pos) (.comp src' elt') :=
  comp_any (src := iter) K hsrc.1 fld (fun C ρ => cF B.T C ρ elt') (turn_plain he.1) ev_comp
theorem snd_compIf (K : CompOk cx cxc scope x) {elt iter c : Expr} {src' elt' c' : Ex} {px pos : Pos} (hsrc : Snd B cx iter src') (fld : ∀ env x, foldedSetIterable iter env x = pure x) (hc : Snd B cxc c c') (he : Snd B cxc elt elt') : Snd B cx (.ListComp elt [⟨.Name x px, iter, [c], 0⟩] scope pos) (.compIf src' c' elt') :=
  comp_any (src := iter) K hsrc.1 fld (fun C ρ => cIf B.T C ρ c' elt') (turn_if hc.2 he.1) ev_compIf
end

/-! statements -/
inductive FlRep (h₀ : Heap) (μ : List Addr) (h : Heap) : Flow → Fl → Prop where
  | next : FlRep h₀ μ h .next .next
  | brk : FlRep h₀ μ h .brk .brk
  | ret {v' : Value} {v : V} : Rep h₀ μ h v' v → FlRep h₀ μ h (.ret v') (.ret v)

noncomputable def OutS (B : Base) (C : Calls) (A : Around) (cx : Cx) (env : Env) (ρ' : REnv) (μ : List Addr) (s : Shared) (σ' : Store) (fl : Fl) (Q : Flow → Shared → Prop) : Prop := ∀ f s' μ', Sit B C A cx env ρ' μ' σ' s' → StpX (Own env) μ μ' s s' → FlRep B.h₀ μ' s'.heap f fl → Q f s'
noncomputable abbrev SndS (B : Base) (cx : Cx) (st : Stmt) (c : St) : Prop :=
  ∀ {C : Calls} {A : Around} {env : Env} {ρ : REnv} {μ : List Addr} {σ : Store} {s : Shared}, Sit B C A cx env ρ μ σ s → ∀ {fl : Fl} {ρ' : REnv} {σ' : Store}, ex B.T C ρ σ c = some (fl, ρ', σ') →
  ∀ {Q : Flow → Shared → Prop} {E : Value → Shared → Prop}, OutS B C A cx env ρ' μ s σ' fl Q →
  wpAny (model B.prog B.w) A (exec st env) Q E s
noncomputable abbrev SndSs (B : Base) (cx : Cx) (st : List Stmt) (c : Sts) : Prop :=
  ∀ {C : Calls} {A : Around} {env : Env} {ρ : REnv} {μ : List Addr} {σ : Store} {s : Shared}, Sit B C A cx env ρ μ σ s → ∀ {fl : Fl} {ρ' : REnv} {σ' : Store}, exs B.T C ρ σ c = some (fl, ρ', σ') →
  ∀ {Q : Flow → Shared → Prop} {E : Value → Shared → Prop}, OutS B C A cx env ρ' μ s σ' fl Q →
  wpAny (model B.prog B.w) A (execs st env) Q E s

section
variable {B : Base} {cx : Cx}

theorem Sit.tr {C : Calls} {A : Around} {env : Env} {ρ'' : REnv} {μ μ' μ'' : List Addr} {σ'' : Store} {s s' s'' : Shared} (X'' : Sit B C A cx env ρ'' μ'' σ'' s'') (a : StpX (Own env) μ μ' s s') (b : StpX (Own env) μ' μ'' s' s'') : StpX (Own env) μ μ'' s s'' :=
  a.trans b X''.F.loose.apart

theorem sndSs_nil : SndSs B cx [] .nil := fun X => fun h => fun hQ => by
  simp only [exs] at h
  cases h
  exact wpAny_execs_nil (hQ _ _ _ X .refl .next)
theorem sndSs_cons {st : Stmt} {c : St} {sts : List Stmt} {cs : Sts} (h1 : SndS B cx st c) (h2 : SndSs B cx sts cs) : SndSs B cx (st :: sts) (.cons c cs) := fun X => fun h => fun hQ => by
  simp only [exs] at h
  refine wpAny_execs_cons ?_
  split at h
  · rename_i ρ₁ σ₁ he
    refine h1 X he fun f s' μ' X' p' r => ?_
    cases r
    exact h2 X' h fun f s'' μ'' X'' p'' r => hQ _ _ _ X'' (X''.tr p' p'') r
  · rename_i ρ₁ σ₁ he
    cases h
    refine h1 X he fun f s' μ' X' p' r => ?_
    cases r
    exact hQ _ _ _ X' p' .brk
  · rename_i v ρ₁ σ₁ he
    cases h
    refine h1 X he fun f s' μ' X' p' r => ?_
    cases r with
    | ret r => exact hQ _ _ _ X' p' (.ret r)
  · first | exact noSome h | cases h

theorem sndS_fail (st : Stmt) : SndS B cx st .fail := fun X => fun h => by simp only [ex] at h; cases h
theorem sndS_brk (p : Pos) : SndS B cx (.Break p) .brk := fun X => fun h => fun hQ => by
  simp only [ex] at h
  cases h
  exact wpAny_Break (hQ _ _ _ X .refl .brk)
theorem sndS_ret {e : Expr} {e' : Ex} (he : Snd B cx e e') (p : Pos) : SndS B cx (.Return (some e) p) (.ret e') := fun X => fun h => fun hQ => by
  simp only [ex] at h
  split at h
  · rename_i v σ₁ h1
    cases h
    exact wpAny_Return_some (he.1 X h1 fun v' s' μ' X' p' r => hQ _ _ _ X' p'.toX (.ret r))
  · first | exact noSome h | cases h
theorem sndS_if {t : Expr} {t' : Ex} {a b : List Stmt} {a' b' : Sts} (ht : Snd B cx t t') (ha : SndSs B cx a a') (hb : SndSs B cx b b') (p : Pos) : SndS B cx (.If t a b p) (.ite t' a' b') := fun X => fun h => fun hQ => by
  simp only [ex] at h
  refine wpAny_If ?_
  split at h
  · rename_i σ₁ h1
    refine ht.2 X h1 fun s' μ' X' p' => ?_
    rw [if_pos rfl]
    exact ha X' h fun f s'' μ'' X'' p'' r => hQ _ _ _ X'' (X''.tr p'.toX p'') r
  · rename_i σ₁ h1
    refine ht.2 X h1 fun s' μ' X' p' => ?_
    rw [if_neg (by decide)]
    exact hb X' h fun f s'' μ'' X'' p'' r => hQ _ _ _ X'' (X''.tr p'.toX p'') r
  · first | exact noSome h | cases h

theorem sndS_expr {e : Expr} {e' : Ex} (he : Snd B cx e e') (p : Pos) (hs : ∀ env : Env, env.scope = cx.scope → swapsWith e none p.line env = pure false) : SndS B cx (.Expr e p) (.expr e') := fun X => fun h => fun hQ => by
  simp only [ex] at h
  split at h
  · rename_i v σ₁ h1
    cases h
    rw [exec_Expr _ e p (by unfold interactive; rw [X.F.sc, X.F.fk]; rfl) (hs _ X.F.sc)]
    refine wpAny_bind (wpAny_standAt (wpAny_bind (he.1 X h1 fun v' s' μ' X' p' r => ?_)))
    exact wpAny_dropValue (hQ _ _ _ X' p'.toX .next)
  · cases h
theorem sndS_set (hok : CxOk cx) {n : Str} {i : Nat} (hn : cx.slot.lookup n = some i) {e : Expr} {e' : Ex} (he : Snd B cx e e') (q p : Pos) (hs : ∀ env : Env, env.scope = cx.scope → swapsWith e (some (.Name n q)) p.line env = pure false) : SndS B cx (.Assign [.Name n q] e p) (.set i e') := fun X => fun h => fun hQ => by
  simp only [ex] at h
  split at h
  · rename_i v σ₁ h1
    cases h
    refine wpAny_Assign_Name (he.1 X h1 fun v' s' μ' X' p' r => store_ok X' hok hn r fun s'' X'' p'' => hQ _ _ _ X'' (X''.tr p'.toX p'') .next) (hs _ X.F.sc)
  · first | exact noSome h | cases h
theorem sndS_aug (hok : CxOk cx) {n : Str} {i : Nat} (hn : cx.slot.lookup n = some i) {e : Expr} {e' : Ex} {o : Bop} {op : Operator} (he : Snd B cx e e')
    (ho : ∀ {A : Around} {μ : List Addr} {σ : Store} {s : Shared} {x' y' : Value} {x y v : V} {σ' : Store}, Rm A 0 → SOk B.h₀ μ σ s.heap → Rep B.h₀ μ s.heap x' x → Rep B.h₀ μ s.heap y' y → evAug o x y σ = some (v, σ') →
      ∀ {Q : Value → Shared → Prop} {E : Value → Shared → Prop}, Out B μ s σ' v Q → wpAny (model B.prog B.w) A (inplaceOp op x' y') Q E s) (q p : Pos) : SndS B cx (.AugAssign (.Name n q) op e p) (.aug i o e') := fun X => fun h => fun hQ => by
  simp only [ex] at h
  split at h
  · rename_i old ho'
    split at h
    · rename_i v σ₁ h1
      split at h
      · rename_i r σ₂ h2
        cases h
        refine wpAny_AugAssign_Name (load_name hn X ho' fun old' ro => he.1 X h1 fun v' s' μ' X' p' rv => ho X'.R X'.S (ro.step X.S p') rv h2 fun w' s'' μ'' S'' p'' rw' => store_ok (X'.go S'' p'') hok hn rw' fun s₃ X₃ p₃ => hQ _ _ _ X₃ (X₃.tr (p'.trans p'').toX p₃) .next)
      · first | exact noSome h | cases h
    · first | exact noSome h | cases h
  · first | exact noSome h | cases h
theorem aug_add : ∀ {A : Around} {μ : List Addr} {σ : Store} {s : Shared} {x' y' : Value} {x y v : V} {σ' : Store}, Rm A 0 → SOk B.h₀ μ σ s.heap → Rep B.h₀ μ s.heap x' x → Rep B.h₀ μ s.heap y' y → evAug .add x y σ = some (v, σ') →
      ∀ {Q : Value → Shared → Prop} {E : Value → Shared → Prop}, Out B μ s σ' v Q → wpAny (model B.prog B.w) A (inplaceOp .Add x' y') Q E s := by
  intro A μ σ s x' y' x y v σ' R S rx ry h Q E hQ
  replace h := orE_inv h
  rcases h with h2 | h2
  · exact opB_ints rx ry h2 fun a b t u h3 => by
      obtain ⟨rfl, rfl⟩ := some_pair h3
      exact PySem.P.iadd_int (hQ _ _ _ S .tok (.int _ _))
  · obtain ⟨a, b, rfl, rfl, h3⟩ := bStr_inv h2
    obtain ⟨hl, rfl, rfl⟩ := if_some h3
    obtain ⟨t, rfl, _⟩ := rx.inv_str
    obtain ⟨u, rfl, _⟩ := ry.inv_str
    refine iadd_str (fun t' tk => hQ _ _ _ S .tok ?_) (by rw [strLen, strLen, sizeLine_LIM]; exact hl)
    rw [strAppend]; exact .str _ _ (by rw [List.length_append]; exact hl)
end
end Mine
end

section
open PySem PySem.W PyProof.Rows PySem.Calls PySem.SeqAt
set_option Elab.async false
set_option linter.unusedVariables false
namespace Mine

theorem StpX.thenBut {μ μ' : List Addr} {s₀ s : Shared} {W V : Addr → Prop} (p : StpX W μ μ' s₀ s) {h' : Heap} {t : Nat} (hk : ∀ b o, s.heap.get? b = some o → ¬ V b → h'.get? b = some o) (hV : ∀ b, V b → s₀.heap.get? b = none) : StpX W μ μ' s₀ { s with heap := h', toks := t } :=
  ⟨p.pre, fun b o h hn hw => hk b o (p.keep b o h hn hw) (fun hv => by rw [hV b hv] at h; cases h),
   fun b o h hw => by
    obtain ⟨o', h'⟩ := p.live b o h hw
    exact ⟨o', hk b o' h' fun hv => by rw [hV b hv] at h; cases h⟩, p.gens, p.os⟩

section
variable {B : Base} {cx cxc : Cx} {scope : Scope} {x : Str}

/-- a comprehension bound to a name of its own line -/
theorem set_comp (K : CompOk cx cxc scope x) {elt iter : Expr} {src' : Ex} {ifs : List Expr} {px py pos spos : Pos} {c : Ex} {y : Str} {i : Nat} (hn : cx.slot.lookup y = some i) (hsrc : SndE B cx iter src') (fld : ∀ env x, foldedSetIterable iter env x = pure x) (F : Calls → REnv → V → Store → Option (Option V × Store))
    (hT : ∀ {C : Calls} {A : Around} {cenv : Env} {ρ : REnv}, TurnOk B C A cxc cenv ρ ifs elt (F C ρ))
    (hev : ∀ {C : Calls} {ρ : REnv} {σ σ' : Store} {v : V}, ev B.T C ρ σ c = some (v, σ') → ∃ xv σ₁ Z vs σ₂, ev B.T C ρ σ src' = some (xv, σ₁) ∧ srcOf xv = some Z ∧ evLoop Z (F C ρ) Z.fuel 0 [] σ₁ = some (vs, σ₂) ∧ vs.length ≤ LIM ∧ v = .lst σ₂.length ∧ σ' = σ₂ ++ [vs])
    (hsw : ∀ env : Env, env.scope = cx.scope → swapsWith (.ListComp elt [⟨.Name x px, iter, ifs, 0⟩] scope pos) (some (.Name y py)) spos.line env = pure true) :
    SndS B cx (.Assign [.Name y py] (.ListComp elt [⟨.Name x px, iter, ifs, 0⟩] scope pos) spos) (.set i c) := fun {C A env ρ μ σ s} X {fl ρ' σ'} h {Q E} hQ => by
  simp only [ex] at h
  split at h
  · rename_i v σ₁' h0
    cases h
    obtain ⟨xv, σ₁, Z, vs, σ₂, h1, h2, h3, h4, rfl, rfl⟩ := hev h0
    clear h0
    rw [exec_Assign_Name_used _ _ _ _ (hsw _ X.F.sc)]
    refine wpAny_bind (wpAny_standAt (wpAny_bind ?_))
    show wpAny _ A (do let _ ← comprehension (.ListComp elt [⟨.Name x px, iter, ifs, 0⟩] scope pos) scope env _ (newList []) false (eval iter env) (some (assign (.Name y py) env))) _ _ s
    refine wpAny_bind (wpAny_mono (wpAny_comprehension_free (use := some (assign (.Name y py) env)) (Q := fun _ s' => Q .next s') rfl (fld _) (closureFor_ok (X.F.frees K)) K.kind K.names (hsrc X h1 fun x' s₁ μ₁ X₁ p₁ r₁ => ?_)) (fun _ s' hq => wpAny_pure (wpAny_pure hq)) fun _ _ e => e)
    refine comp_core (RR := fun acc C => compPost _ _ _ (some (assign (.Name y py) env)) _ acc C) K X₁ r₁ h2 h3 h4 (fun _ => hT) fun D Cc s' μ' a1 a2 a3 a4 a5 a6 a7 a8 a9 => ?_
    obtain ⟨X3, p3, r3⟩ := comp_end (t := s'.toks) X₁ a1 a2 a3 a4 a5 a6 a7 a8 a9 (Heap.SameBut.refl _ _)
    have nO : ¬ Own env Cc := fun ho => by
      rcases ho with e | ⟨n, hm⟩
      · obtain ⟨m, ⟨o, _, _, ho, _⟩, _⟩ := X₁.F.nsm
        rw [← e, a2] at ho; cases ho
      · obtain ⟨_, _, _, v, o, ho, _⟩ := X₁.F.cel n Cc hm
        rw [a2] at ho; cases ho
    have nμ : Cc ∉ μ' ++ [D] := fun hm => by
      rcases List.mem_append.mp hm with hm | hm
      · exact a8 hm
      · exact a3 (List.mem_singleton.mp hm).symm
    show wpAny _ A (assign (.Name y py) env (.ref D)) _ E s'
    refine wpAny_assign_Name (store_ok (s := s') X3 K.okx hn r3 fun s4 X4 p4 => ?_)
    obtain ⟨m, oC, es, ep, hoC, hdC, hrest⟩ := a4
    have hoC4 := p4.keep _ _ hoC nμ nO
    refine ⟨m, ⟨oC, es, ep, hoC4, hdC, hrest⟩, fun h' hsb => ?_⟩
    have hk : ∀ b o, s4.heap.get? b = some o → ¬ b = Cc → h'.get? b = some o := fun b o e hne => (hsb.2 b hne).trans e
    have WC : Loose B.h₀ (fun b => b = Cc) (μ' ++ [D]) s4.heap := ⟨fun b e => e ▸ X₁.S.free a2, fun b e => e ▸ nμ, fun b o e h hf => by
      subst e; rw [hoC4] at h; cases h
      rcases hf with ⟨_, xs, n, h3⟩ | ⟨_, xs, h3⟩ <;> rw [hdC] at h3 <;> cases h3⟩
    have X5 : Sit B C A cx env (ρ.set i (some (.lst σ₂.length))) (μ' ++ [D]) (σ₂ ++ [vs]) { s4 with heap := h', toks := s4.toks } := ⟨X4.S.but hk WC, X4.F.but hk WC fun b e => e ▸ nO, X4.gens, X4.R, X4.calls⟩
    have p5 : StpX (Own env) μ₁ (μ' ++ [D]) s₁ { s4 with heap := h', toks := s4.toks } := (X4.tr (p3.toX (s' := s')) p4).thenBut hk (fun b e => e ▸ a2)
    exact hQ _ _ _ X5 (X5.tr p₁.toX p5) .next
  · first | exact noSome h | cases h
theorem sndS_comp (K : CompOk cx cxc scope x) {elt iter : Expr} {src' elt' : Ex} {px py pos spos : Pos} {y : Str} {i : Nat} (hn : cx.slot.lookup y = some i) (hsrc : Snd B cx iter src') (fld : ∀ env x, foldedSetIterable iter env x = pure x) (he : Snd B cxc elt elt')
    (hsw : ∀ env : Env, env.scope = cx.scope → swapsWith (.ListComp elt [⟨.Name x px, iter, [], 0⟩] scope pos) (some (.Name y py)) spos.line env = pure true) :
    SndS B cx (.Assign [.Name y py] (.ListComp elt [⟨.Name x px, iter, [], 0⟩] scope pos) spos) (.set i (.comp src' elt')) :=
  set_comp K hn hsrc.1 fld (fun C ρ => cF B.T C ρ elt') (turn_plain he.1) ev_comp hsw
theorem sndS_compIf (K : CompOk cx cxc scope x) {elt iter c : Expr} {src' elt' c' : Ex} {px py pos spos : Pos} {y : Str} {i : Nat} (hn : cx.slot.lookup y = some i) (hsrc : Snd B cx iter src') (fld : ∀ env x, foldedSetIterable iter env x = pure x) (hc : Snd B cxc c c') (he : Snd B cxc elt elt')
    (hsw : ∀ env : Env, env.scope = cx.scope → swapsWith (.ListComp elt [⟨.Name x px, iter, [c], 0⟩] scope pos) (some (.Name y py)) spos.line env = pure true) :
    SndS B cx (.Assign [.Name y py] (.ListComp elt [⟨.Name x px, iter, [c], 0⟩] scope pos) spos) (.set i (.compIf src' c' elt')) :=
  set_comp K hn hsrc.1 fld (fun C ρ => cIf B.T C ρ c' elt') (turn_if hc.2 he.1) ev_compIf hsw
end

section
variable {B : Base} {cx : Cx}

theorem fresh_own {h₀ h : Heap} {env : Env} {ρ : REnv} {μ : List Addr} (F : FrOk h₀ cx env ρ μ h) {I : Addr} (hI : h.get? I = none) : ¬ Own env I := fun ho => by
  rcases ho with e | ⟨n, hm⟩
  · obtain ⟨m, ⟨o, _, _, ho, _⟩, _⟩ := F.nsm
    rw [← e, hI] at ho; cases ho
  · obtain ⟨_, _, _, v, o, ho, _⟩ := F.cel n I hm
    rw [hI] at ho; cases ho

inductive WhileI (B : Base) (C : Calls) (A : Around) (cx : Cx) (env : Env) (t' : Ex) (b' : Sts) (fl : Fl) (ρ' : REnv) (σ' : Store) (μ : List Addr) (s : Shared) (k : Nat) (s' : Shared) : Prop where
  | mk (ρ₁ : REnv) (μ₁ : List Addr) (σ₁ : Store) : exWhile (fun ρ σ => match ev B.T C ρ σ t' with | some (.bool x, σ') => some (x, σ') | _ => none) (fun ρ σ => exs B.T C ρ σ b') k ρ₁ σ₁ = some (fl, ρ', σ') → Sit B C A cx env ρ₁ μ₁ σ₁ s' → StpX (Own env) μ μ₁ s s' → WhileI B C A cx env t' b' fl ρ' σ' μ s k s'
theorem sndS_while {t : Expr} {t' : Ex} {b : List Stmt} {b' : Sts} (ht : Snd B cx t t') (hb : SndSs B cx b b') (p : Pos) : SndS B cx (.While t b [] p) (.while t' b') := fun {C A env ρ μ σ s} X {fl ρ' σ'} h {Q E} hQ => by
  simp only [ex] at h
  refine wpAny_While (codeAny_whileLoop (WhileI B C A cx env t' b' fl ρ' σ' μ s) ?_ TURNS ⟨ρ, μ, σ, h, X, .refl⟩)
  rintro k s' ⟨ρ₁, μ₁, σ₁, he, X', p'⟩
  cases k with
  | zero => cases he
  | succ k =>
    simp only [exWhile] at he
    split at he
    · rename_i σ₂ hc
      split at hc
      · rename_i bb σ₃ hc'
        cases hc
        refine ht.2 X' hc' fun s'' μ'' X'' p'' => ?_
        rw [if_pos rfl]
        split at he
        · rename_i ρ₂ σ₄ hb'
          refine hb X'' hb' fun f s₃ μ₃ X₃ p₃ r => ?_
          cases r
          exact ⟨k, Nat.lt_succ_self _, ρ₂, μ₃, σ₄, he, X₃, X₃.tr p' (X₃.tr p''.toX p₃)⟩
        · rename_i ρ₂ σ₄ hb'
          cases he
          refine hb X'' hb' fun f s₃ μ₃ X₃ p₃ r => ?_
          cases r
          exact hQ _ _ _ X₃ (X₃.tr p' (X₃.tr p''.toX p₃)) .next
        · rename_i v ρ₂ σ₄ hb'
          cases he
          refine hb X'' hb' fun f s₃ μ₃ X₃ p₃ r => ?_
          cases r with
          | ret r => exact hQ _ _ _ X₃ (X₃.tr p' (X₃.tr p''.toX p₃)) (.ret r)
        · first | exact noSome he | cases he
      · first | exact noSome hc | cases hc
    · rename_i σ₂ hc
      split at hc
      · rename_i bb σ₃ hc'
        cases hc
        cases he
        refine ht.2 X' hc' fun s'' μ'' X'' p'' => ?_
        rw [if_neg (by decide)]
        exact wpAny_execs_nil (hQ _ _ _ X'' (X''.tr p' p''.toX) .next)
      · first | exact noSome hc | cases hc
    · first | exact noSome he | cases he

inductive ForI (B : Base) (C : Calls) (A : Around) (cx : Cx) (env : Env) (Z : Src) (I : Addr) (i : Nat) (b' : Sts) (fl : Fl) (ρ' : REnv) (σ' : Store) (μ : List Addr) (s : Shared) (k : Nat) (s' : Shared) : Prop where
  | mk (j : Nat) (ρ₁ : REnv) (μ₂ : List Addr) (σ₂ : Store) : exLoop Z (fun v ρ σ => exs B.T C (ρ.set i (some v)) σ b') k j ρ₁ σ₂ = some (fl, ρ', σ') → IterAt B.h₀ I Z j μ₂ s'.heap → (∀ xs, Z = .fix xs → j ≤ xs.length) → Sit B C A cx env ρ₁ μ₂ σ₂ s' → StpX (Own env) μ μ₂ s s' → ForI B C A cx env Z I i b' fl ρ' σ' μ s k s'
theorem sndS_for (hok : CxOk cx) {n : Str} {i : Nat} (hn : cx.slot.lookup n = some i) {e : Expr} {e' : Ex} {b : List Stmt} {b' : Sts} (he : Snd B cx e e') (fld : ∀ env x, foldedSetIterable e env x = pure x) (hb : SndSs B cx b b') (q p : Pos) : SndS B cx (.For (.Name n q) e b [] p) (.forIn i e' b') := fun {C A env ρ μ σ s} X {fl ρ' σ'} h {Q E} hQ => by
  simp only [ex] at h
  split at h
  · rename_i xv σ₁ h1
    split at h
    · rename_i Z hz
      refine wpAny_For (he.1 X h1 fun x' s₁ μ₁ X₁ p₁ r₁ => iter_start X₁.S r₁ hz fun h₂ hk₂ hit₂ => ?_) (fld _)
      generalize hI : s₁.heap.objs.size = I at hit₂ ⊢
      have hfI : s₁.heap.get? I = none := hI ▸ free_size _
      have nO := fresh_own X₁.F hfI
      have hgI := X₁.S.free hfI
      refine codeAny_forLoop (ForI B C A cx env Z I i b' fl ρ' σ' μ₁ s₁) ?_ Z.fuel
        ⟨0, ρ, μ₁, σ₁, h, hit₂, fun _ _ => Nat.zero_le _, X₁.grown (t := s₁.toks) hk₂, (Stp.grown (t := s₁.toks) hk₂).toX⟩
      rintro k s' ⟨j, ρ₁, μ₂, σ₂, hl, hit, hjl, X', p'⟩
      obtain ⟨o, ho, hof, hol⟩ := hit.obj
      have WI : Loose B.h₀ (fun b => b = I) μ₂ s'.heap := ⟨fun b e => e ▸ hgI, fun b e => e ▸ hit.apart X'.S, fun b o' e h => by subst e; rw [ho] at h; cases h; exact hof⟩
      cases k with
      | zero => cases hl
      | succ k =>
        simp only [exLoop] at hl
        cases hget : Z.get j σ₂ with
        | none => rw [hget] at hl; cases hl
        | some r =>
          rw [hget] at hl
          refine iter_next X'.S hit hjl X.R.hd hgI hget fun h4 tk4 hk4 => ?_
          have X4 : Sit B C A cx env ρ₁ μ₂ σ₂ { s' with heap := h4, toks := tk4 } := ⟨X'.S.but hk4 WI, X'.F.but hk4 WI fun b e => e ▸ nO, X'.gens, X'.R, X'.calls⟩
          have p4 : StpX (Own env) μ₁ μ₂ s₁ { s' with heap := h4, toks := tk4 } := p'.thenBut hk4 fun b e => e ▸ hfI
          cases r with
          | none =>
            cases hl
            exact wpAny_execs_nil (hQ _ _ _ X4 (X4.tr p₁.toX p4) .next)
          | some y =>
            intro v rv hit4
            have hj1 : ∀ xs, Z = .fix xs → j + 1 ≤ xs.length := fun xs e => by
              subst e
              simp only [Src.get, Option.some.injEq] at hget
              exact (List.getElem?_eq_some_iff.mp hget).1
            refine wpAny_assign_Name (store_ok X4 hok hn rv fun s5 X5 p5 => ?_)
            have hit5 : IterAt B.h₀ I Z (j + 1) μ₂ s5.heap := IterAt.stepX (s := { s' with heap := h4, toks := tk4 }) hit4 X4.S p5 (fun b o hw h hf => X4.F.loose.firm b o hw h hf) nO
            simp only at hl
            split at hl
            · rename_i ρ₂ σ₄ hb'
              refine hb X5 hb' fun f s₃ μ₃ X₃ p₃ r => ?_
              cases r
              exact ⟨k, Nat.lt_succ_self _, j + 1, ρ₂, μ₃, σ₄, hl, hit5.stepX X5.S p₃ (fun b o hw h hf => X5.F.loose.firm b o hw h hf) nO, hj1, X₃, X₃.tr p4 (X₃.tr p5 p₃)⟩
            · rename_i ρ₂ σ₄ hb'
              cases hl
              refine hb X5 hb' fun f s₃ μ₃ X₃ p₃ r => ?_
              cases r
              exact hQ _ _ _ X₃ (X₃.tr p₁.toX (X₃.tr p4 (X₃.tr p5 p₃))) .next
            · rename_i v ρ₂ σ₄ hb'
              cases hl
              refine hb X5 hb' fun f s₃ μ₃ X₃ p₃ r => ?_
              cases r with
              | ret r => exact hQ _ _ _ X₃ (X₃.tr p₁.toX (X₃.tr p4 (X₃.tr p5 p₃))) (.ret r)
            · first | exact noSome hl | cases hl
    · first | exact noSome h | cases h
  · first | exact noSome h | cases h
end
end Mine
end

section
open PySem PySem.W PyProof.Rows PySem.Calls PySem.SeqAt
set_option Elab.async false
set_option linter.unusedVariables false
namespace Mine

section
variable {prog : Program} {w : World} {A : Around} {E : Value → Shared → Prop} {s : Shared}
theorem setItem_at {l : Addr} {items : List Value} {ep : Nat} {k : Int} {t : Tok} {v : Value} {Q : Unit → Shared → Prop} (g : s.heap.get? l = some { cls := .type "list", dict := none, data := .seq items.toArray ep, slots := #[] }) (h0 : 0 ≤ k) (hk : k.toNat < items.length) (hlen : items.length ≤ LIM)
    (hQ : Q () { s with heap := s.heap.update l (Obj.mapSeq (·.setIfInBounds k.toNat v)) }) : wpAny (model prog w) A (setItem (.ref l) (.int k t) v) Q E s := by
  have hl : s.heap.IsList l items.toArray := ⟨_, g, rfl, _, rfl⟩
  have hL : LIM = 16777216 := rfl
  have hfit : k < 2 ^ 63 := by (first | lia | omega)
  unfold setItem
  try with_reducible refine wpAny_holding ?_
  first | refine wpAny_bind (wpAny_pure ?_) | skip
  refine wpAny_bind (wpAny_sequenceKey hl.typeIs (by decide) ?_)
  refine wpAny_bind (wpAny_callSpecial?_slot (name := Str.ofString "__setitem__") hl.typeIs PySem.slot_list_setitem (wpAny_call_entry PySem.slot_list_setitem hl.typeIs PySem.entry_list_setitem ?_ (PySem.args_list_setitem _ _ _)))
  refine wpAny_bind (m := Builtin.List.listSubscript? (.int k t)) (wpAny_listSubscript_int (fitsIndex_of h0 hfit) ?_)
  obtain ⟨j, rfl⟩ := Int.eq_ofNat_of_zero_le h0
  have hj : j < items.length := hk
  have hx : items.toArray[j]? = some items[j] := by simp [hj]
  refine wpAny_bind (m := seqItemAt l j >>= fun r => pure (r.map (j, ·))) (wpAny_bind (wpAny_seqItemAt g rfl (wpAny_pure ?_)))
  rw [hx]
  refine wpAny_bind (m := setSeqItemAt l j v) (wpAny_setSeqItemAt g rfl ?_)
  first
    | exact wpAny_bind (wpAny_pure (wpAny_pure ⟨.none, rfl, wpAny_pure hQ⟩))
    | exact wpAny_pure ⟨.none, rfl, wpAny_pure hQ⟩
end

theorem Reps.stepX {h₀ : Heap} {W : Addr → Prop} {μ μ' : List Addr} {σ : Store} {s s' : Shared} {vs : List Value} {xs : List V} (r : Reps h₀ μ s.heap vs xs) (S : SOk h₀ μ σ s.heap) (p : StpX W μ μ' s s') (hW : ∀ b o, W b → s.heap.get? b = some o → ¬ Firm o) : Reps h₀ μ' s'.heap vs xs := by
  obtain ⟨ν, hν, _⟩ := p.pre
  rw [hν]
  refine r.mono fun b o h hf => p.keep b o h (fun hm => ?_) fun hw => hW b o hw h hf
  obtain ⟨o', h', hl⟩ := S.isList hm
  rw [h] at h'; cases h'
  exact hf.not_list hl
section
variable {B : Base} {cx : Cx}

theorem put_ok {C : Calls} {A : Around} {env : Env} {ρ : REnv} {μ : List Addr} {σ : Store} {s : Shared} (X : Sit B C A cx env ρ μ σ s) {n : Nat} {a : Addr} {xs : List V} {k : Int} {t : Tok} {v : Value} {x : V} (ha : μ[n]? = some a) (hx : σ[n]? = some xs) (h0 : 0 ≤ k) (hk : k.toNat < xs.length) (r : Rep B.h₀ μ s.heap v x) {Q : Unit → Shared → Prop} {E : Value → Shared → Prop}
    (hQ : ∀ s', Sit B C A cx env ρ μ (σ.set n (xs.set k.toNat x)) s' → Stp μ μ s s' → Q () s') : wpAny (model B.prog B.w) A (setItem (.ref a) (.int k t) v) Q E s := by
  obtain ⟨a', its, ep, e1, g1, l1, r1⟩ := X.S.cell hx
  rw [ha] at e1; cases e1
  refine setItem_at g1 h0 (by rw [r1.length]; exact hk) l1 ?_
  obtain ⟨S', q⟩ := SOk.put (t := s.toks) (items' := its.set k.toNat v) (f := (·.setIfInBounds k.toNat v)) X.S ha g1 (by simp) (r1.set _ r) (by rw [List.length_set]; exact l1)
  exact hQ _ (X.go S' q) q

theorem sndS_augItem {n : Str} {i : Nat} (hn : cx.slot.lookup n = some i) (hd : (n == ("__debug__" : Str)) = false) {k e : Expr} {k' e' : Ex} (hk : Snd B cx k k') (he : Snd B cx e e') (q q2 p : Pos) (hi : ∀ ov iv new, augStore k ov iv new = (do holding [new, ov, iv] (setItem ov iv new); release [new, ov, iv] []; pure .next)) : SndS B cx (.AugAssign (.Subscript (.Name n q) k q2) .Add e p) (.augItem i k' .add e') := fun X => fun h => fun hQ => by
  simp only [ex] at h
  split at h
  · rename_i m hm
    split at h
    · rename_i j σ₁ h1
      split at h
      · rename_i xs hx
        split at h
        · rename_i old hold
          split at h
          · rename_i v σ₂ h2
            split at h
            · rename_i r σ₃ h3
              split at h
              · rename_i ys hy
                split at h
                · rename_i hj
                  cases h
                  obtain ⟨j0, j1, j2⟩ := hj
                  refine wpAny_AugAssign_SubscriptAny ((snd_var hn hd q).1 X (v := .lst m) (by simp only [ev, hm]) fun o s₁ μ₁ X₁ p₁ r₁ => hk.1 X₁ h1 fun kv s₂ μ₂ X₂ p₂ r₂ => ?_) hi
                  obtain ⟨a, rfl, ha⟩ := r₁.inv_lst
                  obtain ⟨u, rfl⟩ := r₂.inv_int
                  have ha2 := p₂.at ha
                  obtain ⟨a', its, ep, e1, g1, l1, rr⟩ := X₂.S.cell hx
                  rw [ha2] at e1; cases e1
                  obtain ⟨oldv, ho, ro⟩ := rr.get hold
                  have hL : LIM = 16777216 := rfl
                  have hlen := rr.length
                  refine wpAny_getItem_list ⟨_, g1, rfl, _, rfl⟩ j0 (by (first | lia | omega)) (x := oldv) (by simpa using ho) ?_
                  refine he.1 X₂ h2 fun v' s₃ μ₃ X₃ p₃ r₃ => aug_add X₃.R X₃.S (ro.step X₂.S p₃) r₃ h3 fun w' s₄ μ₄ S₄ p₄ r₄ => ?_
                  exact put_ok (X₃.go S₄ p₄) (p₄.at (p₃.at ha2)) hy j0 j2 r₄ fun s₅ X₅ p₅ => hQ _ _ _ X₅ (p₁.trans (p₂.trans (p₃.trans (p₄.trans p₅)))).toX .next
                · first | exact noSome h | cases h
              · first | exact noSome h | cases h
            · first | exact noSome h | cases h
          · first | exact noSome h | cases h
        · first | exact noSome h | cases h
      · first | exact noSome h | cases h
    · first | exact noSome h | cases h
  · first | exact noSome h | cases h

/-- the targets of an unpacking -/
inductive NamesOf (cx : Cx) : List Expr → List Nat → Prop where
  | nil : NamesOf cx [] []
  | cons {n : Str} {p : Pos} {i : Nat} {es : List Expr} {is : List Nat} : cx.slot.lookup n = some i → NamesOf cx es is → NamesOf cx (.Name n p :: es) (i :: is)
theorem NamesOf.each {es : List Expr} {is : List Nat} (h : NamesOf cx es is) (env : Env) : (assignEach es env).length = is.length ∧ (assignEach es env).findIdx? (·.1) = none := by
  induction h with
  | nil => exact ⟨rfl, rfl⟩
  | @cons n p i es is hn h ih =>
    have e : assignEach (.Name n p :: es) env = (false, assign (.Name n p) env) :: assignEach es env := rfl
    rw [e, List.length_cons, List.length_cons, ih.1, List.findIdx?_cons]
    refine ⟨rfl, ?_⟩
    simp [ih.2]

theorem assign_all (hok : CxOk cx) {es : List Expr} {is : List Nat} (h : NamesOf cx es is) : ∀ {vs : List V} {vs' : List Value} {C : Calls} {A : Around} {env : Env} {ρ : REnv} {μ : List Addr} {σ : Store} {s : Shared}, Sit B C A cx env ρ μ σ s → Reps B.h₀ μ s.heap vs' vs → vs.length = is.length →
    ∀ {Q : Unit → Shared → Prop} {E : Value → Shared → Prop}, (∀ s', Sit B C A cx env (setAll ρ is vs) μ σ s' → StpX (Own env) μ μ s s' → Q () s') → wpAny (model B.prog B.w) A (assignInOrder ((assignEach es env).map (·.2)) vs') Q E s := by
  induction h with
  | nil =>
    intro vs vs' C A env ρ μ σ s X r hl Q E hQ
    cases vs with
    | cons _ _ => simp at hl
    | nil =>
    cases r
    exact wpAny_pure (hQ s (by simpa [setAll] using X) .refl)
  | @cons n p i es is hn h ih =>
    intro vs vs' C A env ρ μ σ s X r hl Q E hQ
    cases vs with
    | nil => simp at hl
    | cons v vs =>
    cases r with
    | @cons v' _ vs' _ r rr =>
    have e : assignEach (.Name n p :: es) env = (false, assign (.Name n p) env) :: assignEach es env := rfl
    rw [e, List.map_cons]
    show wpAny _ A (do holding vs' (assign (.Name n p) env v'); assignInOrder ((assignEach es env).map (·.2)) vs') Q E s
    refine wpAny_bind (wpAny_holding (wpAny_assign_Name (store_ok X hok hn r fun s' X' p' => ?_)))
    exact ih X' (rr.stepX X.S p' X.F.loose.firm) (by simpa using hl) fun s'' X'' p'' => hQ _ X'' (X''.tr p' p'')

theorem draw_ok {C : Calls} {A : Around} {env : Env} {ρ : REnv} {μ : List Addr} {σ : Store} {I : Addr} {Z : Src} (hI : B.h₀.get? I = none) (nO : ¬ Own env I) : ∀ (vs : List V) (j : Nat) {s : Shared}, Sit B C A cx env ρ μ σ s → IterAt B.h₀ I Z j μ s.heap → (∀ xs, Z = .fix xs → j + vs.length ≤ xs.length) → (∀ i (h : i < vs.length), Z.get (j + i) σ = some (some vs[i])) →
    ∀ {Q : List Value → Shared → Prop} {E : Value → Shared → Prop}, (∀ h' tk vs', Sit B C A cx env ρ μ σ { s with heap := h', toks := tk } → IterAt B.h₀ I Z (j + vs.length) μ h' → (∀ b o, s.heap.get? b = some o → ¬ b = I → h'.get? b = some o) → Reps B.h₀ μ h' vs' vs → Q vs' { s with heap := h', toks := tk }) →
    wpAny (model B.prog B.w) A (draw (.ref I) vs.length) Q E s
  | [], j, s, X, hit, hj, hg, Q, E, hQ => wpAny_pure (hQ s.heap s.toks [] X hit (fun _ _ h _ => h) .nil)
  | v :: vs, j, s, X, hit, hj, hg, Q, E, hQ => by
    obtain ⟨o, ho, hof, hol⟩ := hit.obj
    have WI : Loose B.h₀ (fun b => b = I) μ s.heap := ⟨fun b e => e ▸ hI, fun b e => e ▸ hit.apart X.S, fun b o' e h => by subst e; rw [ho] at h; cases h; exact hof⟩
    show wpAny _ A (do match ← pyNext (.ref I) with | none => pure [] | some v => return v :: (← holding [v] (draw (.ref I) vs.length))) Q E s
    refine wpAny_bind (iter_next X.S hit (fun xs e => by have := hj xs e; rw [List.length_cons] at this; (first | lia | omega)) X.R.hd hI (hg 0 (by simp)) fun h4 tk4 hk4 => ?_)
    intro v' rv hit4
    have X4 : Sit B C A cx env ρ μ σ { s with heap := h4, toks := tk4 } := ⟨X.S.but hk4 WI, X.F.but hk4 WI fun b e => e ▸ nO, X.gens, X.R, X.calls⟩
    refine wpAny_bind (wpAny_holding (draw_ok hI nO vs (j + 1) X4 hit4 (fun xs e => by have := hj xs e; rw [List.length_cons] at this; (first | lia | omega)) (fun i h => by have := hg (i + 1) (by simp; (first | lia | omega)); rw [show j + 1 + i = j + (i + 1) by (first | lia | omega)]; simpa using this) fun h5 tk5 vs' X5 hit5 hk5 r5 => wpAny_pure ?_))
    obtain ⟨o4, ho4, hof4, _⟩ := hit4.obj
    have WI4 : Loose B.h₀ (fun b => b = I) μ h4 := ⟨fun b e => e ▸ hI, fun b e => e ▸ IterAt.apart hit4 X4.S, fun b o' e h => by subst e; rw [ho4] at h; cases h; exact hof4⟩
    refine hQ h5 tk5 (v' :: vs') X5 ?_ (fun b o h hne => hk5 b o (hk4 b o h hne) hne) (.cons (rv.but hk5 WI4) r5)
    rw [List.length_cons, show j + (vs.length + 1) = j + 1 + vs.length by (first | lia | omega)]; exact hit5

theorem sndS_unpack (hok : CxOk cx) {es : List Expr} {is : List Nat} (hes : NamesOf cx es is) {e : Expr} {e' : Ex} (he : Snd B cx e e') (kd : Nat) (q p : Pos) (hs : ∀ env, swapsWithSole [.Tuple es kd q] e p.line env = pure false) (hw : ∀ env, swappedStores [.Tuple es kd q] e env = pure none) :
    SndS B cx (.Assign [.Tuple es kd q] e p) (.unpack is e') := fun {C A env ρ μ σ s} X {fl ρ' σ'} h {Q E} hQ => by
  simp only [ex] at h
  have main : ∀ {x : V} {σ₁ : Store} {vs : List V} {Z : Src} {T id : String}, ev B.T C ρ σ e' = some (x, σ₁) → srcOf x = some Z → (∀ i (h : i < vs.length), Z.get i σ₁ = some (some vs[i])) → Z.get vs.length σ₁ = some none → (∀ xs, Z = .fix xs → vs.length = xs.length) → vs.length = is.length →
      (∀ {μ : List Addr} {s : Shared} {v' : Value}, SOk B.h₀ μ σ₁ s.heap → Rep B.h₀ μ s.heap v' x → s.TypeIs v' T) → typeLookup (.type T) "__iter__" = pure (some (.builtin id)) →
      fl = .next → ρ' = setAll ρ is vs → σ' = σ₁ → wpAny (model B.prog B.w) A (exec (.Assign [.Tuple es kd q] e p) env) Q E s := by
    intro x σ₁ vs Z T id h1 hz hg hend hfix hlen hT hit0 e1 e2 e3
    subst e1; subst e2; subst e3
    refine Assign_Tuple (he.1 X h1 fun x' s₁ μ₁ X₁ p₁ r₁ => ?_) (hs _) (hw _)
    rw [arm_assign_Tuple]
    refine wpAny_bind (wpAny_standAt ?_)
    unfold unpack
    obtain ⟨n1, n2⟩ := hes.each env
    rw [n1, n2, ← hlen]
    refine wpAny_bind (wpAny_holding ?_)
    unfold unpackItems
    refine wpAny_bind (m := notIterableAtAll x') ?_
    unfold notIterableAtAll
    refine wpAny_bind (wpAny_specialOf (hT X₁.S r₁) hit0 ?_)
    refine wpAny_pure ?_
    simp only [Bool.false_eq_true, if_false]
    refine wpAny_bind (wpAny_holding (iter_start X₁.S r₁ hz fun h₂ hk₂ hit₂ => ?_))
    generalize hI : s₁.heap.objs.size = I at hit₂ ⊢
    have hfI : s₁.heap.get? I = none := hI ▸ free_size _
    have nO := fresh_own X₁.F hfI
    have hgI := X₁.S.free hfI
    refine wpAny_bind (wpAny_holding (draw_ok hgI nO vs 0 (X₁.grown (t := s₁.toks) hk₂) hit₂ (fun xs e => by rw [Nat.zero_add, hfix xs e]; exact Nat.le_refl _) (fun i h => by rw [Nat.zero_add]; exact hg i h) fun h3 tk3 vs' X3 hit3 hk3 r3 => ?_))
    rw [Nat.zero_add] at hit3
    rw [if_neg (by rw [r3.length]; exact Nat.lt_irrefl _)]
    refine wpAny_bind (wpAny_holding (iter_next X3.S hit3 (fun xs e => by rw [hfix xs e]; exact Nat.le_refl _) X.R.hd hgI hend fun h4 tk4 hk4 => ?_))
    simp only [Option.isSome_none, Bool.false_eq_true, if_false]
    obtain ⟨o3, ho3, hof3, _⟩ := hit3.obj
    have WI3 : Loose B.h₀ (fun b => b = I) μ₁ h3 := ⟨fun b e => e ▸ hgI, fun b e => e ▸ IterAt.apart hit3 X3.S, fun b o' e h => by subst e; rw [ho3] at h; cases h; exact hof3⟩
    have X4 : Sit B C A cx env ρ μ₁ _ { s₁ with heap := h4, toks := tk4 } := ⟨X3.S.but hk4 WI3, X3.F.but hk4 WI3 fun b e => e ▸ nO, X3.gens, X3.R, X3.calls⟩
    refine wpAny_pure (assign_all hok hes X4 (r3.but hk4 WI3) hlen fun s5 X5 p5 => hQ _ _ _ X5 (X5.tr p₁.toX (X5.tr (StpX.but (W := Own env) (s := s₁) (h' := h4) (t := tk4) fun b o h ho => ?_) p5)) .next)
    have hbI : ¬ b = I := fun e => by subst e; rw [hfI] at h; cases h
    exact hk4 b o (hk3 b o (hk₂ b o h) hbI) hbI
  split at h
  · rename_i vs σ₁ h1
    split at h
    · rename_i hl
      cases h
      refine main (vs := vs) (Z := .fix vs) (T := "tuple") h1 rfl (fun i h => by simp [Src.get, h]) (by simp [Src.get]) (fun xs e => by cases e; rfl) hl (fun S r => ?_) F.slot_tuple_iter.lookup rfl rfl rfl
      obtain ⟨a, _, _, rfl, g, _, _⟩ := r.inv_tup
      exact ⟨_, g, rfl⟩
    · first | exact noSome h | cases h
  · rename_i n σ₁ h1
    split at h
    · rename_i vs hv
      split at h
      · rename_i hl
        cases h
        refine main (vs := vs) (Z := .live n) (T := "list") h1 rfl (fun i h => by simp [Src.get, hv, h]) (by simp [Src.get, hv]) (fun xs e => by cases e) hl (fun S r => ?_) PySem.slot_list_iter.lookup rfl rfl rfl
        obtain ⟨a, rfl, ha⟩ := r.inv_lst
        obtain ⟨_, _, _, _, g, _⟩ := S.list ha
        exact ⟨_, g, rfl⟩
      · first | exact noSome h | cases h
    · first | exact noSome h | cases h
  · first | exact noSome h | cases h
end
end Mine
end

section
open PySem PySem.W PyProof.Rows PySem.Calls PySem.SeqAt
set_option Elab.async false
set_option linter.unusedVariables false
namespace Mine

structure FnOk (B : Base) (fd : FuncData) (a : Addr) (cx : Cx) (ps : List Str) (fn : Fn) (body : List Stmt) : Prop where
  obj : ∃ o, B.h₀.get? a = some o ∧ o.data = .func fd
  code : B.h₀.CodeRec fd.code fd.qualname
  hbody : fd.body = .stmts body
  clo : fd.closure = []
  gl : fd.globals = mainGlobals
  bi : fd.builtins = builtinsNs
  co : fd.scope.isCoroutine = false
  gen : fd.scope.isGenerator = false
  kind : fd.scope.kind = .function
  scope : fd.scope = cx.scope
  np : ps.length = fn.np
  bind : ∀ vals : List Value, vals.length = ps.length → bindArgs fd ⟨vals, []⟩ = pure (ps.zip vals)
  nd : ps.Nodup
  slot : ∀ (i : Nat) (h : i < ps.length), cx.slot.lookup ps[i] = some i
  n : cx.n = fn.nl
  le : fn.np ≤ fn.nl
  ok : CxOk cx
  names : (cx.scope.names.map (·.1)).Nodup
  snd : SndSs B cx body fn.body

theorem cellsFrom_mem : ∀ {names : List (Str × NameKind)} {k : Nat} {acc : List (Str × Addr)} {n : Str}, ((n, .cell) ∈ names ∨ ∃ c, (n, c) ∈ acc) → ∃ c, (n, c) ∈ cellsFrom k names acc
  | [], _, _, _, h => by
    rcases h with h | h
    · first | exact noSome h | cases h
    · exact h
  | (m, kd) :: r, k, acc, n, h => by
    unfold cellsFrom
    split
    · refine cellsFrom_mem ?_
      rcases h with h | ⟨c, h⟩
      · rcases List.mem_cons.mp h with e | h
        · cases e; exact .inr ⟨_, List.mem_cons_self⟩
        · exact .inl h
      · exact .inr ⟨c, List.mem_cons_of_mem _ h⟩
    · rename_i hk
      refine cellsFrom_mem ?_
      rcases h with h | h
      · rcases List.mem_cons.mp h with e | h
        · cases e; exact absurd rfl hk
        · exact .inl h
      · exact .inr h
theorem cellsFrom_names : ∀ {names : List (Str × NameKind)} {k : Nat} {acc : List (Str × Addr)}, (names.map (·.1)).Nodup → (acc.map (·.1)).Nodup → (∀ x ∈ acc, x.1 ∉ names.map (·.1)) → ((cellsFrom k names acc).map (·.1)).Nodup
  | [], _, _, _, h, _ => h
  | (m, kd) :: r, k, acc, h1, h2, h3 => by
    rw [List.map_cons, List.nodup_cons] at h1
    unfold cellsFrom
    split
    · refine cellsFrom_names h1.2 ?_ fun x hx => ?_
      · rw [List.map_cons, List.nodup_cons]
        refine ⟨fun hm => ?_, h2⟩
        obtain ⟨y, hy, e⟩ := List.mem_map.mp hm
        exact h3 y hy (by rw [List.map_cons]; exact e ▸ List.mem_cons_self)
      · rcases List.mem_cons.mp hx with e | hx
        · subst e; exact h1.1
        · exact fun hm => h3 x hx (by rw [List.map_cons]; exact List.mem_cons_of_mem _ hm)
    · exact cellsFrom_names h1.2 h2 fun x hx hm => h3 x hx (by rw [List.map_cons]; exact List.mem_cons_of_mem _ hm)
theorem lookup_nodup {α : Type} : ∀ {l : List (Str × α)} {n : Str} {c : α}, (l.map (·.1)).Nodup → (n, c) ∈ l → l.lookup n = some c
  | [], _, _, _, h => by cases h
  | (k, v) :: r, n, c, hn, h => by
    rw [List.map_cons, List.nodup_cons] at hn
    rw [List.lookup_cons]
    rcases List.mem_cons.mp h with e | h'
    · cases e; simp
    · have hne : (n == k) = false := by
        rw [beq_eq_false_iff_ne]
        intro e; subst e
        exact hn.1 (List.mem_map.mpr ⟨_, h', rfl⟩)
      rw [hne]
      exact lookup_nodup hn.2 h'

theorem bind_get (ko : Str → Option NameKind) : ∀ {ps : List Str} {vals : List Value} {m cm : Str → Option Value}, ps.Nodup → ∀ {i : Nat} {v : Value} (h : i < ps.length), vals[i]? = some v →
    (ko ps[i] = some .local → bindL ko (ps.zip vals) m ps[i] = some v) ∧ (ko ps[i] ≠ some .local → bindC ko (ps.zip vals) cm ps[i] = some v) := by
  have stay : ∀ {ps : List Str} {vals : List Value} {m cm : Str → Option Value} {n : Str}, n ∉ ps → bindL ko (ps.zip vals) m n = m n ∧ bindC ko (ps.zip vals) cm n = cm n := by
    intro ps
    induction ps with
    | nil => intro vals m cm n _; exact ⟨rfl, rfl⟩
    | cons p ps ih =>
      intro vals m cm n hn
      cases vals with
      | nil => exact ⟨rfl, rfl⟩
      | cons v vals =>
        have hne : ¬ n = p := fun e => hn (e ▸ List.mem_cons_self)
        have hn' : n ∉ ps := fun h => hn (List.mem_cons_of_mem _ h)
        rw [List.zip_cons_cons]
        unfold bindL bindC
        rw [(ih (cm := cm) hn').1, (ih (m := m) hn').2]
        constructor
        · split
          · exact if_neg hne
          · rfl
        · split
          · rfl
          · exact if_neg hne
  intro ps
  induction ps with
  | nil => intro vals m cm _ i v h; exact absurd h (Nat.not_lt_zero _)
  | cons p ps ih =>
    intro vals m cm hnd i v h hv
    rw [List.nodup_cons] at hnd
    cases vals with
    | nil => simp at hv
    | cons w vals =>
      rw [List.zip_cons_cons]
      unfold bindL bindC
      cases i with
      | zero =>
        simp only [List.getElem?_cons_zero, Option.some.injEq] at hv
        subst hv
        simp only [List.getElem_cons_zero]
        refine ⟨fun hk => ?_, fun hk => ?_⟩
        · rw [if_pos hk, (stay (cm := cm) hnd.1).1]; exact if_pos rfl
        · rw [if_neg hk, (stay (m := m) hnd.1).2]; exact if_pos rfl
      | succ i =>
        simp only [List.getElem_cons_succ]
        exact ih hnd.2 (Nat.lt_of_succ_lt_succ h) (by simpa using hv)

section
variable {B : Base}

theorem call_ok (hB : BOk B) {fd : FuncData} {a : Addr} {cx : Cx} {ps : List Str} {fn : Fn} {body : List Stmt} (K : FnOk B fd a cx ps fn body) {C : Calls} {d : Nat} (hC : CallsOk B C d) {A : Around} (R : Rm A (d + 1)) {μ : List Addr} {σ σ' : Store} {s : Shared} {vs : List V} {vs' : List Value} {fl : Fl} {ρ' : REnv}
    (S : SOk B.h₀ μ σ s.heap) (hg : s.gens = #[]) (r : Reps B.h₀ μ s.heap vs' vs) (hl : vs.length = fn.np) (he : exs B.T C (vs.map some ++ List.replicate (fn.nl - fn.np) none) σ fn.body = some (fl, ρ', σ')) {Q : Value → Shared → Prop} {E : Value → Shared → Prop}
    (hQ : ∀ v' s' μ', SOk B.h₀ μ' σ' s'.heap → Stp μ μ' s s' → (match fl with | .ret v => Rep B.h₀ μ' s'.heap v' v | _ => v' = .none) → Q v' s') : wpAny (model B.prog B.w) A (call (.ref a) vs') Q E s := by
  obtain ⟨o, ho, hd⟩ := K.obj
  have hlen : vs'.length = ps.length := by rw [r.length, hl, K.np]
  have hkof : ∀ n, (callEnvC fd s.heap.objs.size a).kindOf n = cx.scope.names.lookup n := fun n => by
    show fd.scope.names.lookup n = _
    rw [K.scope]
  have pk : ∀ p ∈ ps, cx.scope.names.lookup p = some .local ∨ cx.scope.names.lookup p = some .cell := fun p hp => by
    obtain ⟨i, hi, e⟩ := List.getElem_of_mem hp
    exact K.ok.kind (p, i) (mem_of_lookup (e ▸ K.slot i hi))
  have cHas : ∀ n, cx.scope.names.lookup n = some .cell → ∃ c, (cellsFrom (s.heap.objs.size + 1) fd.scope.names []).lookup n = some c := fun n hn => by
    rw [K.scope]
    obtain ⟨c, hc⟩ := cellsFrom_mem (k := s.heap.objs.size + 1) (acc := []) (.inl (mem_of_lookup hn))
    exact lookup_of_mem hc
  refine wpAny_call (codeAny_call_cells (binds := ps.zip vs') (by have := R.dep; (first | lia | omega)) (S.base _ _ ho) hd (hB.nolimit.keeps S.base) (K.code.keeps S.base) K.hbody (K.bind vs' hlen) K.clo (fun x hx => ?_) (fun s₁ x => ?_) K.co K.gen K.kind)
  · rw [K.scope]
    have hp : x.1 ∈ ps := (List.of_mem_zip (show (x.1, x.2) ∈ ps.zip vs' from hx)).1
    rcases pk _ hp with h | h
    · exact .inl h
    · refine .inr ⟨h, ?_⟩
      obtain ⟨c, hc⟩ := cHas _ h
      rw [K.scope] at hc
      rw [hc]; rfl
  · generalize hen : callEnvC fd s.heap.objs.size a = env at x hkof ⊢
    have eloc : env.locals = s.heap.objs.size := by rw [← hen]; rfl
    have ecel : env.cells = cellsFrom (s.heap.objs.size + 1) fd.scope.names [] := by rw [← hen]; rfl
    have hfL : s.heap.get? env.locals = none := eloc ▸ free_size _
    have hfC : ∀ n c, (n, c) ∈ env.cells → s.heap.get? c = none := fun n c hm => by
      cases e : s.heap.get? c with
      | none => rfl
      | some o' =>
        have h1 := Heap.lt_size e
        have h2 := x.above n c hm
        rw [eloc] at h2
        exact absurd (Nat.lt_trans h2 h1) (Nat.lt_irrefl _)
    have notμ : ∀ {b}, s.heap.get? b = none → b ∉ μ := fun {b} e hm => by
      obtain ⟨o, h, _⟩ := S.isList hm
      rw [e] at h; cases h
    have hk := x.toInCall.keep
    have S1 : SOk B.h₀ μ σ s₁.heap := S.grown hk
    have cnd : (env.cells.map (·.1)).Nodup := by
      rw [ecel, K.scope]
      exact cellsFrom_names K.names List.nodup_nil fun x hx => by cases hx
    obtain ⟨h₁, tk₁, es⟩ := x.toInCall.same
    have F1 : FrOk B.h₀ cx env (vs.map some ++ List.replicate (fn.nl - fn.np) none) μ s₁.heap := by
      refine ⟨by rw [← hen]; exact K.scope, K.scope ▸ K.kind, by rw [← hen]; exact K.gl, by rw [← hen]; exact K.bi, ?_, ⟨_, x.toInCall.ns, fun n i v hs hr => ?_⟩, ⟨notμ hfL, S.free hfL⟩, fun n c hm => ⟨notμ (hfC n c hm), S.free (hfC n c hm), ?_, _, x.cell n c (lookup_nodup cnd hm)⟩, fun n n' c h1 h2 => name_of_addr x.apart h1 h2, fun n hn => by rw [ecel]; exact cHas n hn⟩
      · rw [List.length_append, List.length_map, List.length_replicate, hl, K.n]; have := K.le; (first | lia | omega)
      · have hi : i < vs.length := by
          rcases Nat.lt_or_ge i vs.length with h | h
          · exact h
          · rw [List.getElem?_append_right (by rw [List.length_map]; exact h), List.getElem?_replicate] at hr
            split at hr <;> cases hr
        rw [List.getElem?_append_left (by rw [List.length_map]; exact hi), List.getElem?_map, List.getElem?_eq_getElem hi] at hr
        simp only [Option.map_some, Option.some.injEq] at hr
        have hip : i < ps.length := by rw [K.np, ← hl]; exact hi
        have en : n = ps[i] := (K.ok.inj _ (mem_of_lookup hs) _ (mem_of_lookup (K.slot i hip)) rfl)
        obtain ⟨v', hv', rv⟩ := (r.grown hk).get (List.getElem?_eq_getElem hi)
        rw [hr] at rv
        obtain ⟨b1, b2⟩ := bind_get env.kindOf (m := fun _ => none) (cm := fun _ => none) K.nd hip hv'
        rcases K.ok.kind _ (mem_of_lookup hs) with hkd | hkd
        · refine .loc hkd ?_ rv
          rw [en] at hkd ⊢
          exact b1 ((hkof _).trans hkd)
        · obtain ⟨c, hc⟩ := cHas n hkd
          rw [← ecel] at hc
          refine .cel hkd hc ?_ rv
          have := x.cell n c hc
          rw [en] at this hkd
          rw [b2 (by rw [hkof, hkd]; decide)] at this
          exact this
      · have h2 := x.above n c hm
        exact fun e => Nat.lt_irrefl _ (e ▸ h2)
    have X1 : Sit B C (A.deeper env) cx env (vs.map some ++ List.replicate (fn.nl - fn.np) none) μ σ s₁ := by
      have R' : Rm (A.deeper env) d := ⟨R.hd, by have := R.dep; show A.depth + 1 + d < _; (first | lia | omega), by have := R.un; rw [Around.deeper_units]; (first | lia | omega)⟩
      refine ⟨S1, F1, by rw [es]; exact hg, ⟨R'.hd, by have := R'.dep; (first | lia | omega), by have := R'.un; (first | lia | omega)⟩, fun f a vs σ v σ' hat hev μ s vs' hS hg hr Q E hq => hC f a vs σ v σ' hat hev _ μ s vs' R' hS hg hr Q E hq⟩
    refine K.snd X1 he fun f s' μ' X' p' rf => ?_
    have p0 : Stp μ μ s s₁ := by rw [es]; exact Stp.grown (by rw [es] at hk; exact hk)
    have p : Stp μ μ' s s' := (X'.tr p0.toX p').toStp fun b hb => by
      rcases hb with e | ⟨n, hm⟩
      · rw [e]; exact hfL
      · exact hfC n b hm
    cases rf with
    | next => exact hQ _ _ _ X'.S p rfl
    | brk => exact hQ _ _ _ X'.S p rfl
    | ret rr => exact hQ _ _ _ X'.S p rr

end

theorem SOk.nil {h₀ h : Heap} (hb : ∀ b o, h₀.get? b = some o → h.get? b = some o) : SOk h₀ [] [] h :=
  ⟨rfl, List.nodup_nil, fun a ha => (by cases ha), fun e => (by simp at e), hb⟩
theorem Stp.all {μ' : List Addr} {s s' : Shared} (p : Stp [] μ' s s') : ∀ b o, s.heap.get? b = some o → s'.heap.get? b = some o := fun b o h => p.keep b o h (by simp)

section
variable {B : Base}
theorem giveBack_ok {μ μ₁ : List Addr} {σ σ₁ σ' : Store} {s s' : Shared} {v v₁ : V} {v' : Value} (S : SOk B.h₀ μ σ s.heap) (p : Stp [] μ₁ s s') (S₁ : SOk B.h₀ μ₁ σ₁ s'.heap) (r : Rep B.h₀ μ₁ s'.heap v' v₁) (h : giveBack v₁ σ₁ σ = some (v, σ')) :
    ∃ μ', SOk B.h₀ μ' σ' s'.heap ∧ Stp μ μ' s s' ∧ Rep B.h₀ μ' s'.heap v' v := by
  have S2 : SOk B.h₀ μ σ s'.heap := S.grown p.all
  have p2 : Stp μ μ s s' := ⟨⟨[], by simp, by simp⟩, fun b o h _ => p.all b o h, fun b o h => ⟨o, p.all b o h⟩, p.gens, p.os⟩
  unfold giveBack at h
  split at h
  · rename_i n
    split at h
    · rename_i xs hx
      split at h
      · rename_i hn
        cases h
        obtain ⟨a, its, ep, rfl, ha, g1, l1, r1⟩ := r.at_list S₁ hx
        have hf : s.heap.get? a = none := by
          obtain ⟨ν, hν, hfr⟩ := p.pre
          exact hfr a (by rw [List.nil_append] at hν; rw [← hν]; exact List.mem_of_getElem? ha)
        have hna : a ∉ μ := fun hm => by
          obtain ⟨o, h, _⟩ := S.isList hm
          rw [hf] at h; cases h
        obtain ⟨S3, r3⟩ := S2.adopt hna (S.free hf) g1 (r1.noLst' hn) l1
        exact ⟨_, S3, p2.adopt hf, r3⟩
      · first | exact noSome h | cases h
    · first | exact noSome h | cases h
  · split at h
    · rename_i hn
      cases h
      exact ⟨μ, S2, p2, r.noLst' hn⟩
    · first | exact noSome h | cases h
end

section
variable {B : Base}
/-- all the functions -/
theorem calls_ok (hB : BOk B) {fns : List Fn} (h : ∀ (f : Nat) (fn : Fn) (a : Addr), fns[f]? = some fn → B.at' f = some a → ∃ fd cx ps body, FnOk B fd a cx ps fn body) : ∀ d, CallsOk B (callD B.T fns d) d
  | 0 => fun f a vs σ v σ' _ he => by cases he
  | d + 1 => fun f a vs σ v σ' hat he A μ s vs' R S hg r Q E hQ => by
    simp only [callD] at he
    split at he
    · rename_i fn hf
      obtain ⟨fd, cx, ps, body, K⟩ := h f fn a hf hat
      split at he
      · rename_i hl
        split at he
        · rename_i hn
          split at he
          · rename_i v₁ ρ₁ σ₁ hx
            refine call_ok hB K (calls_ok hB h d) R (SOk.nil S.base) hg (r.noLst' hn) hl hx fun v' s' μ' S' p r' => ?_
            obtain ⟨μ2, S2, p2, r2⟩ := giveBack_ok S p S' r' he
            exact hQ _ _ _ S2 p2 r2
          · rename_i ρ₁ σ₁ hx
            cases he
            refine call_ok hB K (calls_ok hB h d) R (SOk.nil S.base) hg (r.noLst' hn) hl hx fun v' s' μ' S' p r' => ?_
            exact hQ _ _ _ (S.grown p.all) ⟨⟨[], by simp, by simp⟩, fun b o h _ => p.all b o h, fun b o h => ⟨o, p.all b o h⟩, p.gens, p.os⟩ (r' ▸ .none)
          · first | exact noSome he | cases he
        · split at he
          · rename_i v₁ ρ₁ σ₁ hx
            cases he
            exact call_ok hB K (calls_ok hB h d) R S hg r hl hx fun v' s' μ' S' p r' => hQ _ _ _ S' p r'
          · rename_i ρ₁ σ₁ hx
            cases he
            exact call_ok hB K (calls_ok hB h d) R S hg r hl hx fun v' s' μ' S' p r' => hQ _ _ _ S' p (r' ▸ .none)
          · first | exact noSome he | cases he
      · first | exact noSome he | cases he
    · first | exact noSome he | cases he
end
end Mine
end

section
open PySem PySem.W PyProof.Rows PySem.Calls PySem.SeqAt
set_option Elab.async false
set_option linter.unusedVariables false
namespace Mine
end Mine
end

section
open PySem PySem.W PyProof.Rows PySem.Calls PySem.SeqAt
set_option Elab.async false
set_option linter.unusedVariables false
namespace Mine
/-! what is built of parts that may be lacking -/
noncomputable def gd {α : Type} (b : Bool) (o : Option α) : Option α := match b with
  | true => o
  | false => none
theorem gd_inv {α : Type} {b : Bool} {o : Option α} {r : α} (h : gd b o = some r) : b = true ∧ o = some r := by
  cases b with
  | true => exact ⟨rfl, h⟩
  | false => first | exact noSome h | exact nomatch h
noncomputable def both {α β γ : Type} (a : Option α) (b : Option β) (f : α → β → γ) : Option γ := a.bind fun x => b.map (f x)
theorem map_inv {α β : Type} {a : Option α} {f : α → β} {r : β} (h : a.map f = some r) : ∃ x, a = some x ∧ r = f x := by
  cases a with
  | none => first | exact noSome h | exact nomatch h
  | some x => exact ⟨x, rfl, (Option.some.inj h).symm⟩
theorem bind_inv {α β : Type} {a : Option α} {f : α → Option β} {r : β} (h : a.bind f = some r) : ∃ x, a = some x ∧ f x = some r := by
  cases a with
  | none => first | exact noSome h | exact nomatch h
  | some x => exact ⟨x, rfl, h⟩
inductive BothI {α β γ : Type} (a : Option α) (b : Option β) (f : α → β → γ) (r : γ) : Prop where
  | mk (x : α) (y : β) : a = some x → b = some y → r = f x y → BothI a b f r
inductive ThreeI {α β γ δ : Type} (a : Option α) (b : Option β) (c : Option γ) (f : α → β → γ → δ) (r : δ) : Prop where
  | mk (x : α) (y : β) (z : γ) : a = some x → b = some y → c = some z → r = f x y z → ThreeI a b c f r
theorem both_inv {α β γ : Type} {a : Option α} {b : Option β} {f : α → β → γ} {r : γ} (h : both a b f = some r) : BothI a b f r :=
  let ⟨x, h1, h2⟩ := bind_inv h
  let ⟨y, h3, h4⟩ := map_inv h2
  ⟨x, y, h1, h3, h4⟩
noncomputable def three {α β γ δ : Type} (a : Option α) (b : Option β) (c : Option γ) (f : α → β → γ → δ) : Option δ := a.bind fun x => both b c (f x)
theorem three_inv {α β γ δ : Type} {a : Option α} {b : Option β} {c : Option γ} {f : α → β → γ → δ} {r : δ} (h : three a b c f = some r) : ThreeI a b c f r :=
  let ⟨x, h1, h2⟩ := bind_inv h
  let ⟨y, z, h3, h4, h5⟩ := both_inv h2
  ⟨x, y, z, h1, h3, h4, h5⟩
theorem and_inv {a b : Bool} (h : (a && b) = true) : a = true ∧ b = true := by
  cases a with
  | true => exact ⟨rfl, h⟩
  | false => first | exact noSome h | exact nomatch h
theorem isEmpty_inv {α : Type} {l : List α} (h : l.isEmpty = true) : l = [] := by
  cases l with
  | nil => rfl
  | cons _ _ => first | exact noSome h | exact nomatch h
/-! looks at an expression -/
noncomputable def vName : Expr → Option (Str × Pos)
  | .Name n p => some (n, p)
  | _ => none
theorem vName_inv {e : Expr} {r : Str × Pos} (h : vName e = some r) : e = .Name r.1 r.2 := by
  cases e <;> first | (obtain rfl := Option.some.inj h; rfl) | exact noSome h | exact nomatch h
noncomputable def vAttr : Expr → Option (Expr × Str × Pos)
  | .Attribute o n p => some (o, n, p)
  | _ => none
theorem vAttr_inv {e : Expr} {r : Expr × Str × Pos} (h : vAttr e = some r) : e = .Attribute r.1 r.2.1 r.2.2 := by
  cases e <;> first | (obtain rfl := Option.some.inj h; rfl) | exact noSome h | exact nomatch h
noncomputable def vSlice : Expr → Option (Option Expr × Option Expr × Option Expr × Pos)
  | .Slice a b c p => some (a, b, c, p)
  | _ => none
theorem vSlice_inv {e : Expr} {r : Option Expr × Option Expr × Option Expr × Pos} (h : vSlice e = some r) : e = .Slice r.1 r.2.1 r.2.2.1 r.2.2.2 := by
  cases e <;> first | (obtain rfl := Option.some.inj h; rfl) | exact noSome h | exact nomatch h
end Mine
end

section
open PySem PySem.W PyProof.Rows PySem.Calls PySem.SeqAt
set_option Elab.async false
set_option linter.unusedVariables false
namespace Mine
end Mine
end

section
open PySem PySem.W PyProof.Rows PySem.Calls PySem.SeqAt
set_option Elab.async false
set_option linter.unusedVariables false
namespace Mine

inductive Gl where
  | int (i : Int) | fn (f : Nat)

/-- an expression of a plain kind -/
noncomputable def isGood : Expr → Bool
  | .Constant .. | .Name .. | .BinOp .. | .UnaryOp .. | .BoolOp .. | .IfExp .. | .Compare .. | .Call .. | .Subscript .. | .List .. | .Tuple .. | .ListComp .. => true
  | _ => false
structure Good (e : Expr) : Prop where
  plain : Plain e
  sub : ∀ o i, subscripted e false o i = operate [o, i] (getItem o i)
  fld : ∀ env x, foldedSetIterable e env x = pure x
  mark : ∀ op, behindInMarks op e = false
  aug : ∀ ov iv new, augStore e ov iv new = (do holding [new, ov, iv] (setItem ov iv new); release [new, ov, iv] []; pure .next)
theorem good_of {e : Expr} (h : isGood e = true) : Good e := by
  cases e <;> first | exact ⟨fun _ _ => rfl, fun _ _ => rfl, fun _ _ => rfl, fun _ => rfl, fun _ _ _ => rfl⟩ | cases h

noncomputable def isName : Expr → Bool
  | .Name .. => true
  | _ => false
theorem name_let {e : Expr} (h : isName e = true) : ∀ o r, letTemporaryGo e o r = pure () := by
  cases e <;> first | exact fun _ _ => rfl | cases h
noncomputable def noCall : Expr → Bool
  | .Name .. | .Constant .. => true
  | _ => false
theorem base_of {e : Expr} (h : noCall e = true) (n : Str) : ∀ env, attributeBase e n env (eval e env) = eval e env := by
  cases e <;> first | exact fun _ => rfl | cases h

noncomputable def bop : Operator → Option Bop
  | .Mult => some .mul
  | .Add => some .add | .Sub => some .sub | .FloorDiv => some .fdiv | .Mod => some .mod | .Pow => some .pow
  | _ => none
theorem bop_ok {B : Base} {op : Operator} {o : Bop} (h : bop op = some o) : OpB B o (binaryOp op) := by
  cases op <;> first | (obtain rfl := Option.some.inj h; first | exact opB_add | exact opB_sub | exact opB_mul | exact opB_mod | exact opB_pow | exact opB_fdiv) | first | exact noSome h | exact nomatch h
noncomputable def cop : CmpOp → Option Bop
  | .Eq => some .eq | .NotEq => some .ne | .Lt => some .lt | .LtE => some .le | .Gt => some .gt | .GtE => some .ge | .Is => some .is | .IsNot => some .isnot | .In => some .inn | .NotIn => some .notin
theorem cop_ok {B : Base} {op : CmpOp} {o : Bop} (h : cop op = some o) : OpB B o (compareOp op) := by
  cases op <;> obtain rfl := Option.some.inj h
  · exact opB_eq
  · exact opB_ne
  · exact opB_lt
  · exact opB_le
  · exact opB_gt
  · exact opB_ge
  · exact opB_is
  · exact opB_isnot
  · exact opB_in
  · exact opB_notin

noncomputable def isSubs : Expr → Bool
  | .Subscript .. => true
  | _ => false
theorem isSubs_ok {e : Expr} (h : isSubs e = true) : ∀ o i, subscripted e false o i = operate [o, i] (getItem o i) := by
  cases e <;> first | exact fun _ _ => rfl | first | exact noSome h | exact nomatch h

section
variable (G : List (Str × Gl)) (cx : Cx)

/-- a name of the world's -/
noncomputable def isGl (n : Str) : Bool := cx.scope.names.lookup n == some .globalImplicit && !(n == ("__debug__" : Str))
noncomputable def glInt : Gl → Option Int
  | .int i => some i
  | .fn _ => none
noncomputable def glFn : Gl → Option Nat
  | .int _ => none
  | .fn f => some f
noncomputable def cName (n : Str) : Option Ex := match cx.slot.lookup n with
  | some i => gd (!(n == ("__debug__" : Str))) (some (.var i))
  | none => gd (isGl cx n) (((G.lookup n).bind glInt).map .int)
noncomputable def cConst : Const → Option Ex
  | .none => some .none
  | .bool b => some (.bool b)
  | .int i => some (.int i)
  | .str s => gd (decide (s.cps.size ≤ LIM)) (some (.str s.cps.toList))
  | _ => none
noncomputable def cList (f : Expr → Option Ex) : List Expr → Option Exs
  | [] => some .nil
  | e :: es => gd (isGood e) (both (f e) (cList f es) .cons)
noncomputable def if1 {α : Type} (n m : Str) (a : α) : Option α := gd (decide (n = m)) (some a)
noncomputable def bu (n : Str) : Option Uop := orE (if1 n "len" .len) (orE (if1 n "ord" .ord) (orE (if1 n "chr" .chr) (orE (if1 n "range" .range) (
  none
  ))))
noncomputable def m1 (n : Str) : Option Bop := orE (if1 n "append" .append) (orE (if1 n "join" .join) (orE (
  if1 n "count" .count
  ) (
  none
  )))
noncomputable def m0 (n : Str) : Option Uop := orE (if1 n "lower" .lower) (
  none
  )
noncomputable def cCall2 (f : Expr → Option Ex) (n : Str) (a b : Expr) : Option Ex := gd (isGood a && isGood b) (orE (gd (decide (n = ("min" : Str))) (both (f a) (f b) (.bin .min))) (
  none
  ))
noncomputable def cBI (f : Expr → Option Ex) (n : Str) (args : List Expr) : Option Ex := match args with
  | [] => none
  | a :: r => match r with
    | [] => gd (isGood a) (both (bu n) (f a) .un)
    | b :: r => match r with
      | [] => cCall2 f n a b
      | _ :: _ => none
noncomputable def cDef (f : Expr → Option Ex) (i : Nat) (args : List Expr) : Option Ex := match args with
  | [] => none
  | e :: es => gd (isGood e) ((cList f (e :: es)).map (.call i))
/-- a call of a name -/
noncomputable def cCall (f : Expr → Option Ex) (n : Str) (args : List Expr) : Option Ex := gd (isGl cx n) (match G.lookup n with
  | some g => (glFn g).bind fun i => cDef f i args
  | none => cBI f n args)
noncomputable def cMeth (f : Expr → Option Ex) (o : Expr) (n : Str) (args : List Expr) : Option Ex := match args with
  | [] => gd (noCall o) (both (m0 n) (f o) .un)
  | a :: r => gd (r.isEmpty && isGood a) (orE (gd (decide (n = ("get" : Str))) ((vName o).bind fun t => gd (decide (t.1 = ("b3_exceptions" : Str)) && isGl cx t.1) ((f a).map (.un .getB3))))
      (gd (noCall o) (three (m1 n) (f o) (f a) .bin)))
noncomputable def isInOp : CmpOp → Bool
  | .In => true
  | _ => false
noncomputable def cCmp (f : Expr → Option Ex) (a : Expr) (op : CmpOp) (b : Expr) : Option Ex :=
  orE (gd (isInOp op) ((vName b).bind fun t => gd (isGl cx t.1) (both (orE (if1 t.1 "b1_set" Uop.inB1) (if1 t.1 "EXACT_TOKEN_TYPES" Uop.inTok)) (f a) .un)))
    (gd (isGood b) (three (cop op) (f a) (f b) .bin))
noncomputable def cSlice (f : Expr → Option Ex) (a : Expr) (lo hi : Option Expr) : Option Ex := match lo with
  | some l => match hi with
    | some h => three (f a) (f l) (f h) .slice
    | none => both (f a) (f l) (.bin .sliceF)
  | none => match hi with
    | some h => both (f a) (f h) (.bin .sliceT)
    | none => none
noncomputable def cSub (f : Expr → Option Ex) (a i : Expr) : Option Ex := match vSlice i with
  | some s => gd (isName a && s.2.2.1.isNone) (cSlice f a s.1 s.2.1)
  | none => orE ((vName a).bind fun t => gd (decide (t.1 = ("EXACT_TOKEN_TYPES" : Str)) && (isGl cx t.1 && isSubs i)) ((f i).map (.un .tok)))
    (orE (
  none
    )
    (gd (isGood i) (both (f a) (f i) (.bin .item))))
noncomputable def isAdd : Operator → Bool
  | .Add => true
  | _ => false
noncomputable def cUn (f : Expr → Option Ex) (op : UnaryOp) (a : Expr) : Option Ex := match op with
  | .Not => (f a).map .not
  | .USub => (f a).map (.un .neg)
  | _ => none
noncomputable def cBool (f : Expr → Option Ex) (op : BoolOp) (es : List Expr) (p : Pos) : Option Ex := match es with
  | [] => none
  | a :: r => match r with
    | [] => f a
    | b :: r => match op with
      | .And => both (f a) (f (.BoolOp .And (b :: r) p)) .and
      | .Or => both (f a) (f (.BoolOp .Or (b :: r) p)) .or
noncomputable def cCmps (f : Expr → Option Ex) (a : Expr) (ops : List CmpOp) (bs : List Expr) : Option Ex := match ops with
  | [] => none
  | op :: r => match r with
    | [] => match bs with
      | [] => none
      | b :: r => gd r.isEmpty (cCmp cx f a op b)
    | _ :: _ => none
noncomputable def cCallE (f : Expr → Option Ex) (g : Expr) (args : List Expr) (kws : List Keyword) (p : Pos) : Option Ex := gd kws.isEmpty (orE ((vName g).bind fun t => cCall G cx f t.1 args) ((vAttr g).bind fun r => gd (r.2.2.endLine == p.line) (cMeth cx f r.1 r.2.1 args)))
noncomputable def cxOf (scope : Scope) (x : Str) : Cx :=
  { scope := relab scope cx.scope, slot := (x, cx.n) :: scope.names.filterMap (fun p => if p.2 = .free then (cx.slot.lookup p.1).map (p.1, ·) else none), n := cx.n + 1 }
end

noncomputable def CxOkP (cx : Cx) : Prop := (∀ p ∈ cx.slot, ∀ q ∈ cx.slot, p.2 = q.2 → p.1 = q.1) ∧ (∀ p ∈ cx.slot, cx.scope.names.lookup p.1 = some .local ∨ cx.scope.names.lookup p.1 = some .cell) ∧ ∀ p ∈ cx.slot, p.2 < cx.n
noncomputable def decCxOk (cx : Cx) : Decidable (CxOkP cx) := by unfold CxOkP; infer_instance
theorem CxOkP.ok {cx : Cx} (h : CxOkP cx) : CxOk cx := ⟨h.1, h.2.1, h.2.2⟩
noncomputable def CompOkP (cx cxc : Cx) (scope : Scope) (x : Str) : Prop :=
  scope.kind = .function ∧ (∀ y ∈ scope.names, y.2 ≠ .cell) ∧ (∀ y ∈ scope.names, y.2 = .local → scope.names.lookup y.1 = some .local) ∧ scope.names.lookup x = some .local ∧
  (∀ y ∈ scope.names, y.2 = .free → cx.scope.names.lookup y.1 = some .cell) ∧
  (∀ p ∈ cxc.slot, p = (x, cx.n) ∨ (cx.slot.lookup p.1 = some p.2 ∧ (p.1, .free) ∈ scope.names ∧ cxc.scope.names.lookup p.1 = some .cell)) ∧
  cxc.slot.lookup x = some cx.n ∧ CxOkP cxc ∧ CxOkP cx ∧ ∀ y ∈ cxc.scope.names, y.2 = .cell → (y.1, .free) ∈ scope.names
noncomputable def decCompOk (cx cxc : Cx) (scope : Scope) (x : Str) : Decidable (CompOkP cx cxc scope x) := by
  have := decCxOk cx
  have := decCxOk cxc
  unfold CompOkP; infer_instance
noncomputable def compB (cx : Cx) (scope : Scope) (x : Str) : Bool := @decide (CompOkP cx (cxOf cx scope x) scope x) (decCompOk _ _ _ _)
theorem CompOkP.ok {cx : Cx} {scope : Scope} {x : Str} (h : CompOkP cx (cxOf cx scope x) scope x) : CompOk cx (cxOf cx scope x) scope x :=
  ⟨rfl, rfl, h.1, h.2.1, h.2.2.1, h.2.2.2.1, h.2.2.2.2.1, h.2.2.2.2.2.1, h.2.2.2.2.2.2.1, h.2.2.2.2.2.2.2.1.ok, h.2.2.2.2.2.2.2.2.1.ok, h.2.2.2.2.2.2.2.2.2⟩


noncomputable def cLC (f : Cx → Expr → Option Ex) (cx : Cx) (elt : Expr) (gens : List Comprehension) (scope : Scope) : Option Ex := match gens with
  | [] => none
  | g :: r => gd (r.isEmpty && decide (g.is_async = 0)) ((vName g.target).bind fun x => gd (isGood g.iter && compB cx scope x.1) (match g.ifs with
    | [] => both (f cx g.iter) (f (cxOf cx scope x.1) elt) .comp
    | c :: r => gd r.isEmpty (three (f cx g.iter) (f (cxOf cx scope x.1) c) (f (cxOf cx scope x.1) elt) .compIf)))
noncomputable def cE (G : List (Str × Gl)) : Nat → Cx → Expr → Option Ex
  | 0, _, _ => none
  | n + 1, cx, e => match e with
    | .Constant k _ _ => cConst k
    | .Name x _ => cName G cx x
    | .BinOp a op b _ => three (bop op) (cE G n cx a) (cE G n cx b) .bin
    | .UnaryOp op a _ => cUn (cE G n cx) op a
    | .BoolOp op es p => cBool (cE G n cx) op es p
    | .IfExp c a b _ => three (cE G n cx c) (cE G n cx a) (cE G n cx b) .ite
    | .Compare a ops bs _ => cCmps cx (cE G n cx) a ops bs
    | .Call g args kws p => cCallE G cx (cE G n cx) g args kws p
    | .Subscript a i _ => cSub cx (cE G n cx) a i
    | .List es _ => (cList (cE G n cx) es).map .list
    | .Tuple es _ _ => (cList (cE G n cx) es).map .tup
    | .ListComp elt gens scope _ => cLC (cE G n) cx elt gens scope
    | _ => none

/-- what the names mean -/
structure GlOk (B : Base) (G : List (Str × Gl)) : Prop where
  int : ∀ n i, G.lookup n = some (.int i) → ∃ t, B.mg n = some (.int i t)
  fn : ∀ n f, G.lookup n = some (.fn f) → ∃ a o fd, B.mg n = some (.ref a) ∧ B.at' f = some a ∧ B.h₀.get? a = some o ∧ o.data = .func fd
  free : ∀ n ∈ (["len", "ord", "chr", "range", "list", "min", "isinstance", "tuple", "sum", "sorted"] : List Str), G.lookup n = none → B.mg n = none

end Mine
end

section
open PySem PySem.W PyProof.Rows PySem.Calls PySem.SeqAt
set_option Elab.async false
set_option linter.unusedVariables false
namespace Mine
section
variable {B : Base} {G : List (Str × Gl)} {cx : Cx}
theorem isGl_ok {n : Str} (h : isGl cx n = true) : cx.scope.names.lookup n = some .globalImplicit ∧ (n == ("__debug__" : Str)) = false := by
  obtain ⟨h1, h2⟩ := and_inv h
  exact ⟨by simpa using h1, by simpa using h2⟩
theorem glInt_inv {g : Gl} {i : Int} (h : glInt g = some i) : g = .int i := by
  cases g with
  | int _ => rw [Option.some.inj h]
  | fn _ => first | exact noSome h | exact nomatch h
theorem glFn_inv {g : Gl} {i : Nat} (h : glFn g = some i) : g = .fn i := by
  cases g with
  | fn _ => rw [Option.some.inj h]
  | int _ => first | exact noSome h | exact nomatch h
theorem if1_inv {α : Type} {n m : Str} {a r : α} (h : if1 n m a = some r) : n = m ∧ r = a := by
  obtain ⟨h1, h2⟩ := gd_inv h
  exact ⟨of_decide_eq_true h1, (Option.some.inj h2).symm⟩
theorem cName_ok (hB : BOk B) (hG : GlOk B G) {n : Str} {c : Ex} (h : cName G cx n = some c) (p : Pos) : Snd B cx (.Name n p) c := by
  unfold cName at h
  split at h
  · rename_i i hs
    obtain ⟨hd, e⟩ := gd_inv h
    obtain rfl := Option.some.inj e
    exact snd_var hs (by simpa using hd) p
  · obtain ⟨hg, h2⟩ := gd_inv h
    obtain ⟨h1, h2'⟩ := isGl_ok hg
    obtain ⟨i, h3, rfl⟩ := map_inv h2
    obtain ⟨g, h4, h5⟩ := bind_inv h3
    obtain rfl := glInt_inv h5
    obtain ⟨t, ht⟩ := hG.int n i h4
    exact snd_glob hB h1 ht h2' p
theorem cConst_ok {k : Const} {c : Ex} (h : cConst k = some c) (m : Nat) (p : Pos) : Snd B cx (.Constant k m p) c := by
  unfold cConst at h
  split at h
  · obtain rfl := Option.some.inj h; exact snd_none m p
  · obtain rfl := Option.some.inj h; exact snd_bool _ m p
  · obtain rfl := Option.some.inj h; exact snd_int _ m p
  · obtain ⟨hl, h2⟩ := gd_inv h
    obtain rfl := Option.some.inj h2
    exact snd_str _ (of_decide_eq_true hl) m p
  · first | exact noSome h | exact nomatch h
theorem cList_ok {f : Expr → Option Ex} (hf : ∀ e c, f e = some c → Snd B cx e c) : ∀ {es : List Expr} {cs : Exs}, cList f es = some cs → SndL B cx es cs
  | [], cs, h => by obtain rfl := Option.some.inj h; exact sndL_nil
  | e :: es, cs, h => by
    obtain ⟨hg, h2⟩ := gd_inv h
    obtain ⟨c, cs', h3, h4, rfl⟩ := both_inv h2
    exact sndL_cons (hf _ _ h3) (cList_ok hf h4) fun env => (good_of hg).plain es env
theorem nostar1 {b : Expr} (h : Good b) : NoStars [b] := fun pos env => by
  rw [h.plain [] env]; rfl
theorem nostar2 {b c : Expr} (h : Good b) (h' : Good c) : NoStars [b, c] := fun pos env => by
  rw [h.plain [c] env, h'.plain [] env]; rfl
/-- a call of a builtin with one argument -/
theorem bu_ok (hB : BOk B) (hG : GlOk B G) {n : Str} {o : Uop} (h : bu n = some o) (g1 : cx.scope.names.lookup n = some .globalImplicit) (g2 : (n == ("__debug__" : Str)) = false) (hnone : G.lookup n = none) {a : Expr} {a' : Ex} (ha : Snd B cx a a') (ga : Plain a) (q p : Pos) : Snd B cx (.Call (.Name n q) [a] [] p) (.un o a') := by
  rcases orE_inv h with h | h
  · obtain ⟨rfl, rfl⟩ := if1_inv h
    exact snd_call1 hB g1 (hG.free _ (by decide) hnone) Boot.«len» (by decide) g2 opU_len ha ga q p
  rcases orE_inv h with h | h
  · obtain ⟨rfl, rfl⟩ := if1_inv h
    exact snd_call1 hB g1 (hG.free _ (by decide) hnone) Boot.«ord» (by decide) g2 opU_ord ha ga q p
  rcases orE_inv h with h | h
  · obtain ⟨rfl, rfl⟩ := if1_inv h
    exact snd_call1 hB g1 (hG.free _ (by decide) hnone) Boot.«chr» (by decide) g2 opU_chr ha ga q p
  rcases orE_inv h with h | h
  · obtain ⟨rfl, rfl⟩ := if1_inv h
    exact snd_type1 hB g1 (hG.free _ (by decide) hnone) Boot.«range» (by decide) g2 opU_range ha ga q p
  · exact noSome h
theorem cCall2_ok (hB : BOk B) (hG : GlOk B G) {f : Expr → Option Ex} (hf : ∀ e c, f e = some c → Snd B cx e c) {n : Str} {a b : Expr} {c : Ex} (h : cCall2 f n a b = some c) (g1 : cx.scope.names.lookup n = some .globalImplicit) (g2 : (n == ("__debug__" : Str)) = false) (hnone : G.lookup n = none) (q p : Pos) : Snd B cx (.Call (.Name n q) [a, b] [] p) c := by
  obtain ⟨hab, h2⟩ := gd_inv h
  obtain ⟨ha, hb⟩ := and_inv hab
  have ga := good_of ha
  have gb := good_of hb
  rcases orE_inv h2 with h3 | h3
  · obtain ⟨e, h4⟩ := gd_inv h3
    obtain rfl := of_decide_eq_true e
    obtain ⟨a', b', h5, h6, rfl⟩ := both_inv h4
    exact snd_call2 hB g1 (hG.free _ (by decide) hnone) Boot.«min» (by decide) g2 opB_min (hf _ _ h5) (hf _ _ h6) ga.plain gb.plain (nostar1 gb) q p
  · exact noSome h3
theorem cBI_ok (hB : BOk B) (hG : GlOk B G) {f : Expr → Option Ex} (hf : ∀ e c, f e = some c → Snd B cx e c) {n : Str} {args : List Expr} {c : Ex} (h : cBI f n args = some c) (g1 : cx.scope.names.lookup n = some .globalImplicit) (g2 : (n == ("__debug__" : Str)) = false) (hnone : G.lookup n = none) (q p : Pos) : Snd B cx (.Call (.Name n q) args [] p) c := by
  match args, h with
  | [], h => first | exact noSome h | exact nomatch h
  | [a], h =>
    obtain ⟨ha, h2⟩ := gd_inv (show gd (isGood a) (both (bu n) (f a) .un) = some c from h)
    obtain ⟨o, a', h3, h4, rfl⟩ := both_inv h2
    exact bu_ok hB hG h3 g1 g2 hnone (hf _ _ h4) (good_of ha).plain q p
  | [a, b], h => exact cCall2_ok hB hG hf h g1 g2 hnone q p
  | _ :: _ :: _ :: _, h => exact noSome h
theorem cCall_ok (hB : BOk B) (hG : GlOk B G) {f : Expr → Option Ex} (hf : ∀ e c, f e = some c → Snd B cx e c) {n : Str} {args : List Expr} {c : Ex} (h : cCall G cx f n args = some c) (q p : Pos) : Snd B cx (.Call (.Name n q) args [] p) c := by
  obtain ⟨hg, h2⟩ := gd_inv h
  obtain ⟨g1, g2⟩ := isGl_ok hg
  split at h2
  · rename_i g hi
    obtain ⟨i, h3, h4⟩ := bind_inv h2
    obtain rfl := glFn_inv h3
    match args, h4 with
    | [], h4 => first | exact noSome h4 | exact nomatch h4
    | e :: es, h4 =>
      obtain ⟨hge, h5⟩ := gd_inv (show gd (isGood e) ((cList f (e :: es)).map (.call i)) = some c from h4)
      obtain ⟨cs, hcs, rfl⟩ := map_inv h5
      obtain ⟨a, o, fd, b1, b2, b3, b4⟩ := hG.fn n i hi
      exact snd_def hB g1 b1 b2 b3 b4 g2 (cList_ok hf hcs) (good_of hge).plain q p
  · rename_i hnone
    exact cBI_ok hB hG hf h2 g1 g2 hnone q p

theorem m0_ok {n : Str} {u : Uop} (h : m0 n = some u) {o : Expr} {o' : Ex} (ho : Snd B cx o o') (hn : noCall o = true) {ap p : Pos} (hl : (ap.endLine == p.line) = true) : Snd B cx (.Call (.Attribute o n ap) [] [] p) (.un u o') := by
  rcases orE_inv h with h | h
  · obtain ⟨rfl, rfl⟩ := if1_inv h
    exact snd_lower ho (base_of hn _) hl
  · exact noSome h
theorem m1_ok {n : Str} {u : Bop} (h : m1 n = some u) {o a : Expr} {o' a' : Ex} (ho : Snd B cx o o') (ha : Snd B cx a a') (hn : noCall o = true) (ga : Plain a) {ap p : Pos} (hl : (ap.endLine == p.line) = true) : Snd B cx (.Call (.Attribute o n ap) [a] [] p) (.bin u o' a') := by
  rcases orE_inv h with h | h
  · obtain ⟨rfl, rfl⟩ := if1_inv h
    exact snd_append ho ha (base_of hn _) ga hl
  rcases orE_inv h with h | h
  · obtain ⟨rfl, rfl⟩ := if1_inv h
    exact snd_join ho ha (base_of hn _) ga hl
  rcases orE_inv h with h | h
  · obtain ⟨rfl, rfl⟩ := if1_inv h
    exact snd_count ho ha (base_of hn _) ga hl
  · exact noSome h
theorem cMeth_ok (hB : BOk B) (hT : TabOk B) {f : Expr → Option Ex} (hf : ∀ e c, f e = some c → Snd B cx e c) {o : Expr} {n : Str} {args : List Expr} {c : Ex} (h : cMeth cx f o n args = some c) {ap p : Pos} (hl : (ap.endLine == p.line) = true) : Snd B cx (.Call (.Attribute o n ap) args [] p) c := by
  match args, h with
  | [], h =>
    obtain ⟨hn, h2⟩ := gd_inv (show gd (noCall o) (both (m0 n) (f o) .un) = some c from h)
    obtain ⟨u, o', h3, h4, rfl⟩ := both_inv h2
    exact m0_ok h3 (hf _ _ h4) hn hl
  | a :: r, h =>
    obtain ⟨k, h2⟩ := gd_inv h
    obtain ⟨k0, k1⟩ := and_inv k
    obtain rfl := isEmpty_inv k0
    have ga := good_of k1
    rcases orE_inv h2 with h3 | h3
    · obtain ⟨e, h4⟩ := gd_inv h3
      obtain rfl := of_decide_eq_true e
      obtain ⟨t, h5, h6⟩ := bind_inv h4
      obtain rfl := vName_inv h5
      obtain ⟨k, h7⟩ := gd_inv h6
      obtain ⟨k2, k3⟩ := and_inv k
      obtain ⟨a', h8, rfl⟩ := map_inv h7
      have e := of_decide_eq_true k2
      rw [e] at k3 ⊢
      exact snd_getB3 hB hT (isGl_ok k3).1 (hf _ _ h8) ga.plain hl
    · obtain ⟨hn, h4⟩ := gd_inv h3
      obtain ⟨u, o', a', h5, h6, h7, rfl⟩ := three_inv h4
      exact m1_ok h5 (hf _ _ h6) (hf _ _ h7) hn ga.plain hl

theorem isInOp_inv {op : CmpOp} (h : isInOp op = true) : op = .In := by
  unfold isInOp at h
  split at h
  · rfl
  · first | exact noSome h | cases h
theorem cCmp_ok (hB : BOk B) (hT : TabOk B) {f : Expr → Option Ex} (hf : ∀ e c, f e = some c → Snd B cx e c) {a b : Expr} {op : CmpOp} {c : Ex} (h : cCmp cx f a op b = some c) (p : Pos) : Snd B cx (.Compare a [op] [b] p) c := by
  rcases orE_inv h with h2 | h2
  · obtain ⟨k, h3⟩ := gd_inv h2
    obtain rfl := isInOp_inv k
    obtain ⟨t, h4, h5⟩ := bind_inv h3
    obtain rfl := vName_inv h4
    obtain ⟨hg, h6⟩ := gd_inv h5
    obtain ⟨u, a', h7, h8, rfl⟩ := both_inv h6
    rcases orE_inv h7 with h9 | h9
    · obtain ⟨e, rfl⟩ := if1_inv h9
      rw [e] at hg ⊢
      exact snd_inB1 hB hT (isGl_ok hg).1 (hf _ _ h8) _ p
    · obtain ⟨e, rfl⟩ := if1_inv h9
      rw [e] at hg ⊢
      exact snd_inTok hB hT (isGl_ok hg).1 (hf _ _ h8) _ p
  · obtain ⟨hb, h3⟩ := gd_inv h2
    obtain ⟨o, a', b', h4, h5, h6, rfl⟩ := three_inv h3
    exact snd_cmp (hf _ _ h5) (hf _ _ h6) (cop_ok h4) ((good_of hb).mark op) p

theorem cSlice_ok {f : Expr → Option Ex} (hf : ∀ e c, f e = some c → Snd B cx e c) {a : Expr} {lo hi : Option Expr} {c : Ex} (ha : isName a = true) (h : cSlice f a lo hi = some c) (q p : Pos) : Snd B cx (.Subscript a (.Slice lo hi none q) p) c := by
  unfold cSlice at h
  split at h
  · split at h
    · obtain ⟨a', l, hh, h1, h2, h3, rfl⟩ := three_inv h
      exact snd_slice (hf _ _ h1) (hf _ _ h2) (hf _ _ h3) (name_let ha) p _
    · obtain ⟨a', l, h1, h2, rfl⟩ := both_inv h
      exact snd_sliceF (hf _ _ h1) (hf _ _ h2) (name_let ha) p _
  · split at h
    · obtain ⟨a', l, h1, h2, rfl⟩ := both_inv h
      exact snd_sliceT (hf _ _ h1) (hf _ _ h2) (name_let ha) p _
    · first | exact noSome h | exact nomatch h
theorem cSub_ok (hB : BOk B) (hT : TabOk B) {f : Expr → Option Ex} (hf : ∀ e c, f e = some c → Snd B cx e c) {a i : Expr} {c : Ex} (h : cSub cx f a i = some c) (p : Pos) : Snd B cx (.Subscript a i p) c := by
  unfold cSub at h
  split at h
  · rename_i s hs
    obtain rfl := vSlice_inv hs
    obtain ⟨k, h2⟩ := gd_inv h
    obtain ⟨k1, k2⟩ := and_inv k
    obtain ⟨lo, hi, st, q⟩ := s
    cases st with
    | some _ => exact nomatch k2
    | none => exact cSlice_ok hf k1 h2 _ p
  · rcases orE_inv h with h2 | h2
    · obtain ⟨t, h3, h4⟩ := bind_inv h2
      obtain rfl := vName_inv h3
      obtain ⟨k, h5⟩ := gd_inv h4
      obtain ⟨k1, k2⟩ := and_inv k
      obtain ⟨k2, k3⟩ := and_inv k2
      obtain ⟨i', h6, rfl⟩ := map_inv h5
      have e := of_decide_eq_true k1
      rw [e] at k2 ⊢
      exact snd_tok hB hT (isGl_ok k2).1 (hf _ _ h6) (isSubs_ok k3) _ p
    rcases orE_inv h2 with h3 | h3
    · exact noSome h3
    · obtain ⟨hi, h4⟩ := gd_inv h3
      obtain ⟨a', i', h5, h6, rfl⟩ := both_inv h4
      exact snd_item (hf _ _ h5) (hf _ _ h6) (good_of hi).sub p
theorem isAdd_inv {op : Operator} (h : isAdd op = true) : op = .Add := by
  unfold isAdd at h
  split at h
  · rfl
  · first | exact noSome h | cases h
theorem cUn_ok {f : Expr → Option Ex} (hf : ∀ e c, f e = some c → Snd B cx e c) {op : UnaryOp} {a : Expr} {c : Ex} (h : cUn f op a = some c) (p : Pos) : Snd B cx (.UnaryOp op a p) c := by
  unfold cUn at h
  split at h
  · obtain ⟨a', h1, rfl⟩ := map_inv h
    exact snd_not (hf _ _ h1) _
  · obtain ⟨a', h1, rfl⟩ := map_inv h
    exact snd_unop (hf _ _ h1) opU_neg _ (by decide)
  · first | exact noSome h | exact nomatch h
theorem cBool_ok {f : Expr → Option Ex} (hf : ∀ e c, f e = some c → Snd B cx e c) {op : BoolOp} {es : List Expr} {p : Pos} {c : Ex} (h : cBool f op es p = some c) : Snd B cx (.BoolOp op es p) c := by
  match es, op, h with
  | [], _, h => first | exact noSome h | exact nomatch h
  | [a], _, h => exact snd_boolOne (hf _ _ h) _
  | a :: b :: r, .And, h =>
    obtain ⟨a', b', h1, h2, rfl⟩ := both_inv (show both (f a) (f (.BoolOp .And (b :: r) p)) .and = some c from h)
    exact snd_and (hf _ _ h1) (hf _ _ h2)
  | a :: b :: r, .Or, h =>
    obtain ⟨a', b', h1, h2, rfl⟩ := both_inv (show both (f a) (f (.BoolOp .Or (b :: r) p)) .or = some c from h)
    exact snd_or (hf _ _ h1) (hf _ _ h2)
theorem cCmps_ok (hB : BOk B) (hT : TabOk B) {f : Expr → Option Ex} (hf : ∀ e c, f e = some c → Snd B cx e c) {a : Expr} {ops : List CmpOp} {bs : List Expr} {c : Ex} (h : cCmps cx f a ops bs = some c) (p : Pos) : Snd B cx (.Compare a ops bs p) c := by
  match ops, bs, h with
  | [], _, h => first | exact noSome h | exact nomatch h
  | _ :: _ :: _, _, h => first | exact noSome h | exact nomatch h
  | [_], [], h => first | exact noSome h | exact nomatch h
  | [op], b :: r, h =>
    obtain ⟨k, h2⟩ := gd_inv (show gd r.isEmpty (cCmp cx f a op b) = some c from h)
    obtain rfl := isEmpty_inv k
    exact cCmp_ok hB hT hf h2 p
theorem cCallE_ok (hB : BOk B) (hT : TabOk B) (hG : GlOk B G) {f : Expr → Option Ex} (hf : ∀ e c, f e = some c → Snd B cx e c) {g : Expr} {args : List Expr} {kws : List Keyword} {p : Pos} {c : Ex} (h : cCallE G cx f g args kws p = some c) : Snd B cx (.Call g args kws p) c := by
  obtain ⟨k, h2⟩ := gd_inv h
  obtain rfl := isEmpty_inv k
  rcases orE_inv h2 with h3 | h3
  · obtain ⟨t, h4, h5⟩ := bind_inv h3
    obtain rfl := vName_inv h4
    exact cCall_ok hB hG hf h5 _ _
  · obtain ⟨t, h4, h5⟩ := bind_inv h3
    obtain rfl := vAttr_inv h4
    obtain ⟨k, h6⟩ := gd_inv h5
    exact cMeth_ok hB hT hf h6 k
theorem compB_ok {scope : Scope} {x : Str} (h : compB cx scope x = true) : CompOk cx (cxOf cx scope x) scope x := (@of_decide_eq_true _ (decCompOk _ _ _ _) h).ok
theorem cLC_ok {f : Cx → Expr → Option Ex} (hf : ∀ cx e c, f cx e = some c → Snd B cx e c) {elt : Expr} {gens : List Comprehension} {scope : Scope} {c : Ex} (h : cLC f cx elt gens scope = some c) (p : Pos) : Snd B cx (.ListComp elt gens scope p) c := by
  match gens, h with
  | [], h => first | exact noSome h | exact nomatch h
  | ⟨target, iter, ifs, as⟩ :: r, h =>
    obtain ⟨k, h2⟩ := gd_inv h
    obtain ⟨k1, k2⟩ := and_inv k
    obtain rfl := isEmpty_inv k1
    have e := of_decide_eq_true k2
    dsimp only at e h2
    subst e
    obtain ⟨x, h3, h4⟩ := bind_inv h2
    obtain rfl := vName_inv h3
    obtain ⟨k, h5⟩ := gd_inv h4
    obtain ⟨k3, k4⟩ := and_inv k
    match ifs, h5 with
    | [], h5 =>
      obtain ⟨i', e', h6, h7, rfl⟩ := both_inv h5
      exact snd_comp (compB_ok k4) (hf _ _ _ h6) (good_of k3).fld (hf _ _ _ h7)
    | d :: r, h5 =>
      obtain ⟨k5, h6⟩ := gd_inv h5
      obtain rfl := isEmpty_inv k5
      obtain ⟨i', d', e', h7, h8, h9, rfl⟩ := three_inv h6
      exact snd_compIf (compB_ok k4) (hf _ _ _ h7) (good_of k3).fld (hf _ _ _ h8) (hf _ _ _ h9)
theorem cE_ok (hB : BOk B) (hT : TabOk B) (hG : GlOk B G) : ∀ (n : Nat) (cx : Cx) (e : Expr) (c : Ex), cE G n cx e = some c → Snd B cx e c
  | 0, _, _, _, h => by first | exact noSome h | exact nomatch h
  | n + 1, cx, e, c, h => by
    have ih := cE_ok hB hT hG n
    cases e
    case Constant k m p => exact cConst_ok h _ _
    case Name x p => exact cName_ok hB hG h _
    case BinOp a op b p =>
      obtain ⟨o, a', b', h3, h4, h5, rfl⟩ := three_inv (show three (bop op) (cE G n cx a) (cE G n cx b) .bin = some c from h)
      exact snd_binop (ih _ _ _ h4) (ih _ _ _ h5) (bop_ok h3) _
    case UnaryOp op a p => exact cUn_ok (ih cx) h _
    case BoolOp op es p => exact cBool_ok (ih cx) h
    case IfExp t a b p =>
      obtain ⟨c', a', b', h1, h2, h3, rfl⟩ := three_inv (show three (cE G n cx t) (cE G n cx a) (cE G n cx b) .ite = some c from h)
      exact snd_ite (ih _ _ _ h1) (ih _ _ _ h2) (ih _ _ _ h3) _
    case Compare a ops bs p => exact cCmps_ok hB hT (ih cx) h _
    case Call g args kws p => exact cCallE_ok hB hT hG (ih cx) h
    case Subscript a i p => exact cSub_ok hB hT (ih cx) h _
    case List es p =>
      obtain ⟨cs, h1, rfl⟩ := map_inv (show (cList (cE G n cx) es).map .list = some c from h)
      exact snd_list (cList_ok (ih cx) h1) _
    case Tuple es k p =>
      obtain ⟨cs, h1, rfl⟩ := map_inv (show (cList (cE G n cx) es).map .tup = some c from h)
      exact snd_tup (cList_ok (ih cx) h1) _ _
    case ListComp elt gens scope p => exact cLC_ok ih h _
    all_goals first | exact noSome h | exact nomatch h
end

/-! statements -/
/-- does the list of a comprehension go to a name of its own line? -/
noncomputable def swB (cx : Cx) (t : Str) (tl : Nat) (scope : Scope) (vl : Nat) : Bool := cx.scope.names.lookup t == some .local && tl == vl && !(scope.names.any fun (n, k) => n == t && (k == .local || k == .cell))
theorem swB_ok {cx : Cx} (hf : cx.scope.kind = .function) {env : Env} (he : env.scope = cx.scope) {elt : Expr} {gens : List Comprehension} {scope : Scope} {pos q : Pos} {t : Str} {l : Nat} :
    swapsWith (.ListComp elt gens scope pos) (some (.Name t q)) l env = pure (swB cx t q.line scope pos.line) := by
  have h : env.kindOf t = cx.scope.names.lookup t := by show env.scope.names.lookup t = _; rw [he]
  have hb : (env.blockKind == ScopeKind.function) = true := by unfold Env.blockKind; rw [he, hf]; rfl
  unfold swapsWith swB
  simp only [h, hb, Bool.true_and]
  rfl
noncomputable def isComp : Expr → Bool
  | .ListComp .. | .SetComp .. | .DictComp .. => true
  | _ => false
theorem noComp_ok {e : Expr} (h : isComp e = false) (t : Option Expr) (l : Nat) (env : Env) : swapsWith e t l env = pure false := by
  cases e <;> first | rfl | cases h
theorem noComp_sole {e t : Expr} (h : isComp e = false) (l : Nat) (env : Env) : swapsWithSole [t] e l env = pure false := noComp_ok h _ _ _
noncomputable def isTupE : Expr → Bool
  | .Tuple .. => true
  | _ => false
theorem noTup_ok {e : Expr} (h : isTupE e = false) (es : List Expr) (k : Nat) (q : Pos) (env : Env) : swappedStores [.Tuple es k q] e env = pure none := by
  cases e <;> first | rfl | cases h


noncomputable def cNames (cx : Cx) : List Expr → Option (List Nat)
  | [] => some []
  | e :: es => (vName e).bind fun x => both (cx.slot.lookup x.1) (cNames cx es) .cons
theorem cNames_ok {cx : Cx} : ∀ {es : List Expr} {is : List Nat}, cNames cx es = some is → NamesOf cx es is
  | [], is, h => by obtain rfl := Option.some.inj h; exact .nil
  | e :: es, is, h => by
    obtain ⟨x, h1, h2⟩ := bind_inv h
    obtain rfl := vName_inv h1
    obtain ⟨i, is', h3, h4, rfl⟩ := both_inv h2
    exact .cons h3 (cNames_ok h4)
noncomputable def vComp : Expr → Option (Expr × List Comprehension × Scope × Pos)
  | .ListComp a b c d => some (a, b, c, d)
  | _ => none
theorem vComp_inv {e : Expr} {r : Expr × List Comprehension × Scope × Pos} (h : vComp e = some r) : e = .ListComp r.1 r.2.1 r.2.2.1 r.2.2.2 := by
  cases e <;> first | (obtain rfl := Option.some.inj h; rfl) | exact noSome h | exact nomatch h
noncomputable def vTup : Expr → Option (List Expr × Nat × Pos)
  | .Tuple a b c => some (a, b, c)
  | _ => none
theorem vTup_inv {e : Expr} {r : List Expr × Nat × Pos} (h : vTup e = some r) : e = .Tuple r.1 r.2.1 r.2.2 := by
  cases e <;> first | (obtain rfl := Option.some.inj h; rfl) | exact noSome h | exact nomatch h
noncomputable def vSubs : Expr → Option (Expr × Expr × Pos)
  | .Subscript a b c => some (a, b, c)
  | _ => none
theorem vSubs_inv {e : Expr} {r : Expr × Expr × Pos} (h : vSubs e = some r) : e = .Subscript r.1 r.2.1 r.2.2 := by
  cases e <;> first | (obtain rfl := Option.some.inj h; rfl) | exact noSome h | exact nomatch h

noncomputable def cList' (f : Stmt → Option St) : List Stmt → Option Sts
  | [] => some .nil
  | s :: ss => both (f s) (cList' f ss) .cons
/-- a name bound -/
noncomputable def cSet (f : Cx → Expr → Option Ex) (cx : Cx) (x : Str × Pos) (e : Expr) (p : Pos) : Option St := (cx.slot.lookup x.1).bind fun i => match vComp e with
  | some k => match swB cx x.1 x.2.line k.2.2.1 k.2.2.2.line with
    | true => (cLC f cx k.1 k.2.1 k.2.2.1).map (.set i)
    | false => (f cx e).map (.set i)
  | none => gd (!isComp e) ((f cx e).map (.set i))
noncomputable def cAssign (f : Cx → Expr → Option Ex) (cx : Cx) (t : Expr) (e : Expr) (p : Pos) : Option St := orE ((vName t).bind fun x => cSet f cx x e p) (orE (
  (vTup t).bind fun es => gd (!isComp e && !isTupE e) (both (cNames cx es.1) (f cx e) .unpack)
  ) (
  none
  ))
noncomputable def cAug (f : Cx → Expr → Option Ex) (cx : Cx) (t : Expr) (e : Expr) : Option St := orE ((vName t).bind fun x => both (cx.slot.lookup x.1) (f cx e) (.aug · .add))
  ((vSubs t).bind fun s => (vName s.1).bind fun x => gd (isGood s.2.1 && !(x.1 == ("__debug__" : Str))) (three (cx.slot.lookup x.1) (f cx s.2.1) (f cx e) fun i k e => .augItem i k .add e))
noncomputable def one? {α : Type} (l : List α) : Option α := match l with
  | [] => none
  | a :: r => gd r.isEmpty (some a)
theorem one?_inv {α : Type} {l : List α} {a : α} (h : one? l = some a) : l = [a] := by
  cases l with
  | nil => first | exact noSome h | exact nomatch h
  | cons x l =>
    obtain ⟨h1, h2⟩ := gd_inv h
    obtain rfl := isEmpty_inv h1
    obtain rfl := Option.some.inj h2
    rfl
noncomputable def cS (f : Cx → Expr → Option Ex) (cx : Cx) : Nat → Stmt → Option St
  | 0, _ => none
  | n + 1, s => match s with
    | .Expr e _ => gd (!isComp e) ((f cx e).map .expr)
    | .Assign ts e p => (one? ts).bind fun t => cAssign f cx t e p
    | .AugAssign t op e _ => gd (isAdd op) (cAug f cx t e)
    | .If t a b _ => three (f cx t) (cList' (cS f cx n) a) (cList' (cS f cx n) b) .ite
    | .While t b o _ => gd o.isEmpty (both (f cx t) (cList' (cS f cx n) b) .while)
    | .For t e b o _ => gd (isGood e && o.isEmpty) ((vName t).bind fun x => three (cx.slot.lookup x.1) (f cx e) (cList' (cS f cx n) b) .forIn)
    | .Return (some e) _ => (f cx e).map .ret
    | .Break _ => some .brk
    | .Raise .. => some .fail
    | _ => none

section
variable {B : Base} {G : List (Str × Gl)} {cx : Cx}
theorem cList'_ok {f : Stmt → Option St} (hf : ∀ s c, f s = some c → SndS B cx s c) : ∀ {ss : List Stmt} {cs : Sts}, cList' f ss = some cs → SndSs B cx ss cs
  | [], cs, h => by obtain rfl := Option.some.inj h; exact sndSs_nil
  | s :: ss, cs, h => by
    obtain ⟨c, cs', h1, h2, rfl⟩ := both_inv h
    exact sndSs_cons (hf _ _ h1) (cList'_ok hf h2)
theorem not_inv {b : Bool} (h : (!b) = true) : b = false := by
  cases b with
  | true => first | exact noSome h | exact nomatch h
  | false => rfl
theorem cSet_ok {f : Cx → Expr → Option Ex} (hf : ∀ cx e c, f cx e = some c → Snd B cx e c) (hk : cx.scope.kind = .function) (hok : CxOk cx) {x : Str × Pos} {e : Expr} {p : Pos} {c : St} (h : cSet f cx x e p = some c) (hp : ∀ k, vComp e = some k → True) : SndS B cx (.Assign [.Name x.1 x.2] e p) c := by
  obtain ⟨i, hx, h2⟩ := bind_inv h
  split at h2
  · rename_i k hv
    obtain rfl := vComp_inv hv
    obtain ⟨elt, gens, scope, cp⟩ := k
    split at h2
    · rename_i hsw
      obtain ⟨c', h3, rfl⟩ := map_inv h2
      dsimp only at h3 hsw ⊢
      match gens, h3 with
      | [], h3 => first | exact noSome h3 | exact nomatch h3
      | ⟨target, iter, ifs, as⟩ :: r, h3 =>
        obtain ⟨k, h4⟩ := gd_inv h3
        obtain ⟨k1, k2⟩ := and_inv k
        obtain rfl := isEmpty_inv k1
        have e := of_decide_eq_true k2
        dsimp only at e h4
        subst e
        obtain ⟨y, h5, h6⟩ := bind_inv h4
        obtain rfl := vName_inv h5
        obtain ⟨k, h7⟩ := gd_inv h6
        obtain ⟨k3, k4⟩ := and_inv k
        match ifs, h7 with
        | [], h7 =>
          obtain ⟨i', e', h8, h9, rfl⟩ := both_inv h7
          exact @fun C A env ρ μ σ s X fl ρ' σ' h Q E hQ => sndS_comp (px := y.2) (py := x.2) (pos := cp) (spos := p) (compB_ok k4) hx (hf _ _ _ h8) (good_of k3).fld (hf _ _ _ h9) (fun env he => by rw [swB_ok hk he]; exact congrArg pure hsw) X h hQ
        | d :: r, h7 =>
          obtain ⟨k5, h8⟩ := gd_inv h7
          obtain rfl := isEmpty_inv k5
          obtain ⟨i', d', e', h9, h10, h11, rfl⟩ := three_inv h8
          exact @fun C A env ρ μ σ s X fl ρ' σ' h Q E hQ => sndS_compIf (px := y.2) (py := x.2) (pos := cp) (spos := p) (compB_ok k4) hx (hf _ _ _ h9) (good_of k3).fld (hf _ _ _ h10) (hf _ _ _ h11) (fun env he => by rw [swB_ok hk he]; exact congrArg pure hsw) X h hQ
    · rename_i hsw
      obtain ⟨e', h3, rfl⟩ := map_inv h2
      exact sndS_set hok hx (hf _ _ _ h3) _ _ fun env he => by rw [swB_ok hk he]; exact congrArg pure hsw
  · obtain ⟨hc, h3⟩ := gd_inv h2
    obtain ⟨e', h4, rfl⟩ := map_inv h3
    exact sndS_set hok hx (hf _ _ _ h4) _ _ fun env _ => noComp_ok (not_inv hc) _ _ _
theorem cAssign_ok {f : Cx → Expr → Option Ex} (hf : ∀ cx e c, f cx e = some c → Snd B cx e c) (hk : cx.scope.kind = .function) (hok : CxOk cx) {t : Expr} {e : Expr} {p : Pos} {c : St} (h : cAssign f cx t e p = some c) : SndS B cx (.Assign [t] e p) c := by
  rcases orE_inv h with h2 | h2
  · obtain ⟨x, h3, h4⟩ := bind_inv h2
    obtain rfl := vName_inv h3
    exact cSet_ok hf hk hok h4 fun _ _ => trivial
  rcases orE_inv h2 with h3 | h3
  · obtain ⟨es, h4, h5⟩ := bind_inv h3
    obtain rfl := vTup_inv h4
    obtain ⟨k, h6⟩ := gd_inv h5
    obtain ⟨k1, k2⟩ := and_inv k
    obtain ⟨is, e', h7, h8, rfl⟩ := both_inv h6
    exact sndS_unpack hok (cNames_ok h7) (hf _ _ _ h8) _ _ _ (fun env => noComp_sole (not_inv k1) _ _) fun env => noTup_ok (not_inv k2) _ _ _ _
  · exact noSome h3
theorem cAug_ok {f : Cx → Expr → Option Ex} (hf : ∀ cx e c, f cx e = some c → Snd B cx e c) (hok : CxOk cx) {t : Expr} {e : Expr} {c : St} (h : cAug f cx t e = some c) (p : Pos) : SndS B cx (.AugAssign t .Add e p) c := by
  rcases orE_inv h with h2 | h2
  · obtain ⟨x, h3, h4⟩ := bind_inv h2
    obtain rfl := vName_inv h3
    obtain ⟨i, e', h5, h6, rfl⟩ := both_inv h4
    exact sndS_aug hok h5 (hf _ _ _ h6) aug_add _ _
  · obtain ⟨s, h4, h5⟩ := bind_inv h2
    obtain rfl := vSubs_inv h4
    obtain ⟨x, h6, h7⟩ := bind_inv h5
    rw [vName_inv h6]
    obtain ⟨k, h8⟩ := gd_inv h7
    obtain ⟨k1, k2⟩ := and_inv k
    obtain ⟨i, k', e', h9, h10, h11, rfl⟩ := three_inv h8
    exact sndS_augItem h9 (not_inv k2) (hf _ _ _ h10) (hf _ _ _ h11) _ _ _ (good_of k1).aug
theorem cS_ok {f : Cx → Expr → Option Ex} (hf : ∀ cx e c, f cx e = some c → Snd B cx e c) (hk : cx.scope.kind = .function) (hok : CxOk cx) : ∀ (n : Nat) (s : Stmt) (c : St), cS f cx n s = some c → SndS B cx s c
  | 0, _, _, h => by first | exact noSome h | exact nomatch h
  | n + 1, s, c, h => by
    have ih := cS_ok hf hk hok n
    cases s
    case Expr e p =>
      obtain ⟨hc, h2⟩ := gd_inv (show gd (!isComp e) ((f cx e).map .expr) = some c from h)
      obtain ⟨e', h3, rfl⟩ := map_inv h2
      exact sndS_expr (hf _ _ _ h3) p fun env _ => noComp_ok (not_inv hc) _ _ _
    case Assign ts e p =>
      obtain ⟨t, h2, h3⟩ := bind_inv (show ((one? ts).bind fun t => cAssign f cx t e p) = some c from h)
      obtain rfl := one?_inv h2
      exact cAssign_ok hf hk hok h3
    case AugAssign t op e p =>
      obtain ⟨k, h2⟩ := gd_inv (show gd (isAdd op) (cAug f cx t e) = some c from h)
      obtain rfl := isAdd_inv k
      exact cAug_ok hf hok h2 p
    case If t a b p =>
      obtain ⟨t', a', b', h1, h2, h3, rfl⟩ := three_inv (show three (f cx t) (cList' (cS f cx n) a) (cList' (cS f cx n) b) .ite = some c from h)
      exact sndS_if (hf _ _ _ h1) (cList'_ok ih h2) (cList'_ok ih h3) _
    case While t b o p =>
      obtain ⟨k, h2⟩ := gd_inv (show gd o.isEmpty (both (f cx t) (cList' (cS f cx n) b) .while) = some c from h)
      obtain rfl := isEmpty_inv k
      obtain ⟨t', b', h3, h4, rfl⟩ := both_inv h2
      exact sndS_while (hf _ _ _ h3) (cList'_ok ih h4) _
    case For t e b o p =>
      obtain ⟨k, h2⟩ := gd_inv (show gd (isGood e && o.isEmpty) ((vName t).bind fun x => three (cx.slot.lookup x.1) (f cx e) (cList' (cS f cx n) b) .forIn) = some c from h)
      obtain ⟨k1, k2⟩ := and_inv k
      obtain rfl := isEmpty_inv k2
      obtain ⟨x, h3, h4⟩ := bind_inv h2
      obtain rfl := vName_inv h3
      obtain ⟨i, e', b', h5, h6, h7, rfl⟩ := three_inv h4
      exact sndS_for hok h5 (hf _ _ _ h6) (good_of k1).fld (cList'_ok ih h7) _ _
    case Return v p =>
      cases v with
      | none => first | exact noSome h | exact nomatch h
      | some e =>
        obtain ⟨e', h1, rfl⟩ := map_inv (show (f cx e).map .ret = some c from h)
        exact sndS_ret (hf _ _ _ h1) _
    case Break p =>
      obtain rfl := Option.some.inj h
      exact sndS_brk _
    case Raise =>
      obtain rfl := Option.some.inj h
      exact sndS_fail _
    all_goals first | exact noSome h | exact nomatch h
end
end Mine
end

section
open PySem PySem.W PyProof.Rows PySem.Calls PySem.SeqAt
set_option Elab.async false
set_option linter.unusedVariables false
namespace Mine

noncomputable def ownNames (ps : List Str) (scope : Scope) : List Str := ps ++ (scope.names.filter fun p => (p.2 == .local || p.2 == .cell) && !ps.contains p.1).map (·.1)
noncomputable def cxF (ps : List Str) (scope : Scope) : Cx := { scope, slot := (ownNames ps scope).zipIdx, n := (ownNames ps scope).length }
noncomputable def psOf (fd : FuncData) : List Str := fd.params.args.map (·.arg)
noncomputable def cFn (G : List (Str × Gl)) (fd : FuncData) : Option Fn := match fd.body with
  | .stmts body => (cList' (cS (cE G 40) (cxF (psOf fd) fd.scope) 40) body).map fun b => ⟨(psOf fd).length, (cxF (psOf fd) fd.scope).n, b⟩
  | _ => none
noncomputable def FdP (fd : FuncData) : Prop := fd.scope.isCoroutine = false ∧ fd.scope.isGenerator = false ∧ fd.scope.kind = .function ∧ (psOf fd).Nodup ∧
  (∀ i (h : i < (psOf fd).length), (cxF (psOf fd) fd.scope).slot.lookup (psOf fd)[i] = some i) ∧ (psOf fd).length ≤ (cxF (psOf fd) fd.scope).n ∧ CxOkP (cxF (psOf fd) fd.scope) ∧ (fd.scope.names.map (·.1)).Nodup
noncomputable def decFdP (fd : FuncData) : Decidable (FdP fd) := by
  have := decCxOk (cxF (psOf fd) fd.scope)
  unfold FdP; infer_instance

theorem fnOk_of {B : Base} {G : List (Str × Gl)} (hB : BOk B) (hT : TabOk B) (hG : GlOk B G) {fd : FuncData} {a : Addr} {fn : Fn} (hobj : ∃ o, B.h₀.get? a = some o ∧ o.data = .func fd) (hcode : B.h₀.CodeRec fd.code fd.qualname)
    (hclo : fd.closure = []) (hgl : fd.globals = mainGlobals) (hbi : fd.builtins = builtinsNs) (hfn : cFn G fd = some fn) (hP : FdP fd) (hbind : ∀ vals : List Value, vals.length = (psOf fd).length → bindArgs fd ⟨vals, []⟩ = pure ((psOf fd).zip vals)) :
    ∃ fd cx ps body, FnOk B fd a cx ps fn body := by
  unfold cFn at hfn
  split at hfn
  · rename_i body hb
    rw [Option.map_eq_some_iff] at hfn
    obtain ⟨b, hb', rfl⟩ := hfn
    obtain ⟨p1, p2, p3, p4, p5, p6, p7, p8⟩ := hP
    exact ⟨fd, cxF (psOf fd) fd.scope, psOf fd, body, hobj, hcode, hb, hclo, hgl, hbi, p1, p2, p3, rfl, rfl, hbind, p4, p5, rfl, p6, p7.ok, p8, cList'_ok (cS_ok (cE_ok hB hT hG 40) p3 p7.ok 40) hb'⟩
  · first | exact noSome hfn | cases hfn
end Mine
end

section
open PySem PySem.W PyProof.Rows PySem.Calls PySem.SeqAt
set_option Elab.async false
set_option linter.unusedVariables false
namespace Mine
theorem bind_of1 {fd : FuncData} {p : Str} (hp : psOf fd = [p]) (h : ∀ v, bindArgs fd ⟨[v], []⟩ = pure [(p, v)]) (vals : List Value) (hl : vals.length = (psOf fd).length) : bindArgs fd ⟨vals, []⟩ = pure ((psOf fd).zip vals) := by
  rw [hp] at hl ⊢
  match vals, hl with
  | [v], _ => exact h v
theorem bind_of2 {fd : FuncData} {p q : Str} (hp : psOf fd = [p, q]) (h : ∀ v u, bindArgs fd ⟨[v, u], []⟩ = pure [(p, v), (q, u)]) (vals : List Value) (hl : vals.length = (psOf fd).length) : bindArgs fd ⟨vals, []⟩ = pure ((psOf fd).zip vals) := by
  rw [hp] at hl ⊢
  match vals, hl with
  | [v, u], _ => exact h v u
theorem bind_of3 {fd : FuncData} {p q r : Str} (hp : psOf fd = [p, q, r]) (h : ∀ v u x, bindArgs fd ⟨[v, u, x], []⟩ = pure [(p, v), (q, u), (r, x)]) (vals : List Value) (hl : vals.length = (psOf fd).length) : bindArgs fd ⟨vals, []⟩ = pure ((psOf fd).zip vals) := by
  rw [hp] at hl ⊢
  match vals, hl with
  | [v, u, x], _ => exact h v u x
noncomputable def b1L : List Int := [65024, 65025, 65026, 65027, 65028, 65029, 6150, 65030, 65031, 65032, 65033, 6155, 6156, 6157, 8203, 8204, 8205, 65034, 65035, 65036, 65037, 65038, 65039, 173, 847, 8288, 65279]
noncomputable def tokL : List (List Nat × Int) := [([33], 54), ([33, 61], 28), ([37], 24), ([37, 61], 40), ([38], 19), ([38, 61], 41), ([40], 7), ([41], 8), ([42], 16), ([42, 42], 35), ([42, 42, 61], 46), ([42, 61], 38), ([43], 14), ([43, 61], 36), ([44], 12), ([45], 15), ([45, 61], 37), ([45, 62], 51), ([46], 23), ([46, 46, 46], 52), ([47], 17), ([47, 47], 47), ([47, 47, 61], 48), ([47, 61], 39), ([58], 11), ([58, 61], 53), ([59], 13), ([60], 20), ([60, 60], 33), ([60, 60, 61], 44), ([60, 61], 29), ([61], 22), ([61, 61], 27), ([62], 21), ([62, 61], 30), ([62, 62], 34), ([62, 62, 61], 45), ([64], 49), ([64, 61], 50), ([91], 9), ([93], 10), ([94], 32), ([94, 61], 43), ([123], 25), ([124], 18), ([124, 61], 42), ([125], 26), ([126], 31)]
noncomputable def T0 (L : List (Int × Str)) : Tabs := ⟨b1L, L.map fun p => (p.1, p.2.cps.toList), tokL⟩

noncomputable def setEs (o : Obj) : List (Int × Value) := match o.data with
  | .set es _ _ => es.toList
  | _ => []
noncomputable def setFit (o : Obj) : Bool := match o.data with
  | .set es _ t => decide (es.size < scanBound) && t.fits es.size
  | _ => false
noncomputable def intKeys : List (Int × Value) → List (Int × Tok)
  | [] => []
  | (_, .int i t) :: r => (i, t) :: intKeys r
  | _ :: r => intKeys r
theorem set_ok {prog : Program} {w : World} {h : Heap} {a : Addr} {o : Obj} {L : List Int} (ho : h.get? a = some o) (he : o.ExactSet) (hs : setEs o = (intKeys (setEs o)).map fun p => (hashInt p.1, .int p.1 p.2)) (hL : (intKeys (setEs o)).map (·.1) = L) (hf : setFit o = true) :
    ∃ n, h.SetOf (intKind prog w) a (fun k => L.contains k) n := by
  obtain ⟨c, d, data, sl⟩ := o
  cases data <;> simp [setFit] at hf
  case set es ep t =>
    have e : setEs ⟨c, d, .set es ep t, sl⟩ = es.toList := rfl
    rw [e] at hs hL
    refine ⟨es.size, _, es, ep, t, ho, he, rfl, fun x hx => ?_, fun k => ?_, hf.1, hf.2, rfl⟩
    · rw [hs] at hx
      obtain ⟨p, hp, rfl⟩ := List.mem_map.mp hx
      exact ⟨⟨p.1, by simp [intKind, Value.isInt], rfl⟩, rfl⟩
    · constructor
      · intro hk
        have hm : k ∈ L := by simpa using hk
        rw [← hL] at hm
        obtain ⟨p, hp, rfl⟩ := List.mem_map.mp hm
        refine ⟨(hashInt p.1, .int p.1 p.2), ?_, by simp [intKind, Value.isInt]⟩
        rw [hs]
        exact List.mem_map.mpr ⟨p, hp, rfl⟩
      · rintro ⟨x, hx, hk⟩
        rw [hs] at hx
        obtain ⟨p, hp, rfl⟩ := List.mem_map.mp hx
        have : p.1 = k := by simpa [intKind, Value.isInt] using hk
        subst this
        rw [← hL]
        simpa using ⟨p.2, hp⟩

noncomputable def dictEs (o : Obj) : List DictEntry := match o.data with
  | .dict es _ => es.toList
  | _ => []
noncomputable def isDict (o : Obj) : Bool := match o.data with
  | .dict .. => true
  | _ => false
noncomputable def strKeys : List DictEntry → List (Str × Tok × Int × Tok)
  | [] => []
  | ⟨_, .str k t, .int i u⟩ :: r => (k, t, i, u) :: strKeys r
  | _ :: r => strKeys r
theorem tok_ok {prog : Program} {w : World} {h : Heap} {a : Addr} {o : Obj} {L : List (List Nat × Int)} (ho : h.get? a = some o) (he : o.ExactDict) (hd : isDict o = true) (hs : dictEs o = (strKeys (dictEs o)).map fun p => ⟨hashStr w p.1, .str p.1 p.2.1, .int p.2.2.1 p.2.2.2⟩)
    (hL : (strKeys (dictEs o)).map (fun p => (p.1.cps.toList, p.2.2.1)) = L) :
    ∃ f, h.MapOf (PySem.strKind prog w) a f ∧ ∀ k : List Nat, match L.lookup k with
      | none => f ⟨k.toArray⟩ = none
      | some i => ∃ t, f ⟨k.toArray⟩ = some (.int i t) := by
  obtain ⟨c, d, data, sl⟩ := o
  cases data <;> simp [isDict] at hd
  case dict es ep =>
    have e : dictEs ⟨c, d, .dict es ep, sl⟩ = es.toList := rfl
    rw [e] at hs hL
    refine ⟨fun k => findBy Value.isStrOf es k, ⟨_, es, ep, ho, he, rfl, fun x hx => ?_, fun _ => rfl⟩, fun k => ?_⟩
    · have hx' : x ∈ es.toList := Array.mem_toList_iff.mpr hx
      rw [hs] at hx'
      obtain ⟨p, hp, rfl⟩ := List.mem_map.mp hx'
      exact ⟨p.1, by simp [PySem.strKind, Value.isStrOf], rfl⟩
    · have hfind : findBy Value.isStrOf es ⟨k.toArray⟩ = (es.toList.find? fun e => Value.isStrOf ⟨k.toArray⟩ e.key).map (·.val) := by
        unfold findBy
        rw [← Array.find?_toList]
      dsimp only
      rw [hfind, hs, ← hL]
      generalize strKeys es.toList = K
      induction K with
      | nil => simp
      | cons p K ih =>
        obtain ⟨⟨⟨ps⟩⟩, t, i, u⟩ := p
        rw [List.map_cons, List.map_cons, List.lookup_cons, List.find?_cons]
        have hb : Value.isStrOf ⟨k.toArray⟩ (.str ⟨⟨ps⟩⟩ t) = (k == ps) := by
          have := strBeq ps k
          show ((⟨⟨ps⟩⟩ : Str) == ⟨k.toArray⟩) = _
          rw [show (⟨⟨ps⟩⟩ : Str) = ⟨ps.toArray⟩ from rfl, this]
          exact Bool.beq_comm ..
        simp only [hb]
        cases hk : k == ps with
        | true => simp
        | false => simpa using ih

theorem ers_find {es : List DictEntry} {L : List (Int × Str)} (h : ERs es L) (hl : L.all (fun p => decide (p.2.cps.size ≤ LIM)) = true) (k : Int) : match (L.map fun p => (p.1, p.2.cps.toList)).lookup k with
      | none => (es.find? fun e => Value.isInt k e.key).map (·.val) = none
      | some l => l.length ≤ LIM ∧ ∃ t, (es.find? fun e => Value.isInt k e.key).map (·.val) = some (.str ⟨l.toArray⟩ t) := by
  induction h with
  | nil => simp
  | @cons e x es xs he _ ih =>
    obtain ⟨t, u, rfl⟩ := he
    obtain ⟨i, ⟨⟨s⟩⟩⟩ := x
    rw [List.all_cons, Bool.and_eq_true] at hl
    rw [List.map_cons, List.lookup_cons, List.find?_cons]
    have hb : Value.isInt k (.int i t) = (k == i) := by
      show (i == k) = _
      exact Bool.beq_comm ..
    simp only [hb]
    cases hk : k == i with
    | true => exact ⟨by simpa using hl.1, u, rfl⟩
    | false => exact ih hl.2
theorem b3_ok {prog : Program} {w : World} {h : Heap} {a : Addr} {o : Obj} {L : List (Int × Str)} (ho : h.get? a = some o) (hD : DObj o L) (hl : L.all (fun p => decide (p.2.cps.size ≤ LIM)) = true) :
    ∃ f, h.MapOf (intKind prog w) a f ∧ ∀ k : Int, match (L.map fun p => (p.1, p.2.cps.toList)).lookup k with
      | none => f k = none
      | some l => l.length ≤ LIM ∧ ∃ t, f k = some (.str ⟨l.toArray⟩ t) := by
  obtain ⟨es, ep, rfl, hE⟩ := hD
  refine ⟨fun k => findBy Value.isInt es k, ⟨_, es, ep, ho, ⟨rfl, rfl, rfl⟩, rfl, fun x hx => ?_, fun _ => rfl⟩, fun k => ?_⟩
  · obtain ⟨p, _, t, u, rfl⟩ := hE.mem (Array.mem_toList_iff.mpr hx)
    exact ⟨p.1, by simp [intKind, Value.isInt], rfl⟩
  · have hfind : findBy Value.isInt es k = (es.toList.find? fun e => Value.isInt k e.key).map (·.val) := by
      unfold findBy
      rw [← Array.find?_toList]
    dsimp only
    rw [hfind]
    exact ers_find hE hl k

noncomputable def bnames : List Str := ["len", "ord", "chr", "range", "list", "min", "isinstance", "tuple", "sum", "sorted"]
/-- do the world's names say what the table says? -/
noncomputable def glB (G : List (Str × Gl)) (es : Array DictEntry) (addrs : List Addr) : Bool := G.all fun p => match p.2, nsFind es p.1 with
  | .int i, some (.int j _) => i == j
  | .fn f, some (.ref a) => addrs[f]? == some a
  | _, _ => false
theorem gl_of {B : Base} {G : List (Str × Gl)} {es : Array DictEntry} {addrs : List Addr} (hm : ∀ n, B.mg n = nsFind es n) (hat : B.at' = fun f => addrs[f]?) (hG : glB G es addrs = true) (hb : bnames.all (fun n => (nsFind es n).isNone) = true)
    (ho : ∀ (f : Nat) (a : Addr), addrs[f]? = some a → ∃ o fd, B.h₀.get? a = some o ∧ o.data = .func fd) : GlOk B G := by
  have key : ∀ n g, G.lookup n = some g → (match g, nsFind es n with
    | .int i, some (.int j _) => i == j
    | .fn f, some (.ref a) => addrs[f]? == some a
    | _, _ => false) = true := fun n g h => List.all_eq_true.mp hG (n, g) (mem_of_lookup h)
  refine ⟨fun n i h => ?_, fun n f h => ?_, fun n hn _ => ?_⟩
  · have := key n _ h
    rw [hm]
    split at this
    · rename_i i' j t e1 e2
      cases e1
      have : i = j := by simpa using this
      subst this
      exact ⟨t, e2⟩
    · rename_i f a e1 e2; cases e1
    · cases this
  · have := key n _ h
    rw [hm]
    split at this
    · rename_i i' j t e1 e2; cases e1
    · rename_i f' a e1 e2
      cases e1
      have ha : addrs[f]? = some a := by simpa using this
      obtain ⟨o, fd, h1, h2⟩ := ho _ _ ha
      exact ⟨a, o, fd, e2, by rw [hat]; exact ha, h1, h2⟩
    · cases this
  · rw [hm]
    have := List.all_eq_true.mp hb n hn
    simpa using this
noncomputable def codeB (o : Option Obj) (q : Str) : Bool := match o with
  | some o => match o.data with
    | .fields vs => match (vs[1]? : Option Value) with
      | some (Value.str x _) => x == q
      | _ => false
    | _ => false
  | none => false
theorem codeB_ok {h h' : Heap} {c : Addr} {q : Str} (hc : codeB (h.get? c) q = true) (hy : ∀ b o, h.get? b = some o → h'.get? b = some o) : h'.CodeRec (.ref c) q := by
  unfold codeB at hc
  split at hc
  · rename_i o ho
    split at hc
    · rename_i vs hd
      split at hc
      · rename_i x t hx
        have : x = q := by simpa using hc
        subst this
        exact ⟨c, o, vs, t, rfl, hy _ _ ho, hd, hx⟩
      · first | exact noSome hc | cases hc
    · first | exact noSome hc | cases hc
  · first | exact noSome hc | cases hc
end Mine
end

section
set_option Elab.async false
set_option linter.unusedVariables false
set_option linter.unusedSimpArgs false
namespace Mine
section
variable {σ : Store} {n : Nat} {xs : List V}
theorem uLst_of {f : Nat → List V → Option (V × Store)} (h : σ[n]? = some xs) : uLst σ f (.lst n) = f n xs := by rw [uLst_lst, h]
theorem evB_join {sep : List Nat} (h : σ[n]? = some xs) (h1 : xs.all isStr = true) (h2 : ((xs.map strOf).map List.length).sum + xs.length * sep.length ≤ LIM) : evB .join (.str sep) (.lst n) σ = some (.str (joinL sep (xs.map strOf)), σ) := by
  refine Eq.trans (b := orE none (uLst σ (fun _ xs => if xs.all isStr ∧ ((xs.map strOf).map List.length).sum + xs.length * sep.length ≤ LIM then some (.str (joinL sep (xs.map strOf)), σ) else none) (.lst n))) rfl ?_
  rw [orE_none, uLst_of h, if_pos ⟨h1, h2⟩]
theorem evU_range {T : Tabs} {k : Nat} (h : k ≤ 1000000) : evU T .range (.int (k : Int)) σ = some (.rng 0 1 k, σ) := by
  have hc : (-1000000 : Int) ≤ (k : Int) ∧ (k : Int) ≤ 1000000 := ⟨by (first | lia | omega), by (first | lia | omega)⟩
  show (if (-1000000 : Int) ≤ (k : Int) ∧ (k : Int) ≤ 1000000 then some (V.rng 0 1 (k : Int).toNat, σ) else none) = _
  rw [if_pos hc, Int.toNat_natCast]
theorem evU_chrN {T : Tabs} {k : Nat} (h : k < 1114112) : evU T .chr (.int (k : Int)) σ = some (.str [k], σ) := by
  have hc : (0 : Int) ≤ (k : Int) ∧ (k : Int) < 1114112 := ⟨Int.natCast_nonneg k, by (first | lia | omega)⟩
  have e : ∀ i : Int, 0 ≤ i ∧ i < 1114112 → evU T .chr (.int i) σ = some (.str [i.toNat], σ) := fun i h => by
    unfold evU
    dsimp only
    rw [uInt_int, if_pos h]
  rw [e _ hc, Int.toNat_natCast]
theorem ev_un2 {T : Tabs} {C : Calls} {ρ : REnv} {σ σ₁ : Store} {o : Uop} {a : Ex} {x : V} (h1 : ev T C ρ σ a = some (x, σ₁)) : ev T C ρ σ (.un o a) = evU T o x σ₁ := by
  rw [ev, h1]
theorem ev_bin2 {T : Tabs} {C : Calls} {ρ : REnv} {σ σ₁ σ₂ : Store} {o : Bop} {a b : Ex} {x y : V} (h1 : ev T C ρ σ a = some (x, σ₁)) (h2 : ev T C ρ σ₁ b = some (y, σ₂)) : ev T C ρ σ (.bin o a b) = evB o x y σ₂ := by
  rw [ev, h1]; simp only [h2]
end
/-- turns over known items, none of which breaks off -/
theorem exLoop_fix {xs : List V} {f : V → REnv → Store → Option (Fl × REnv × Store)} (I : Nat → REnv → Store → Prop)
    (step : ∀ (j : Nat) (x : V) (ρ : REnv) (σ : Store), xs[j]? = some x → I j ρ σ → ∃ ρ' σ', f x ρ σ = some (.next, ρ', σ') ∧ I (j + 1) ρ' σ') :
    ∀ (m j : Nat) (ρ : REnv) (σ : Store), j + m = xs.length → I j ρ σ → ∃ ρ' σ', exLoop (.fix xs) f (m + 1) j ρ σ = some (.next, ρ', σ') ∧ I xs.length ρ' σ'
  | 0, j, ρ, σ, hj, h => by
    have e : j = xs.length := by (first | lia | omega)
    subst e
    exact ⟨ρ, σ, by simp [exLoop, Src.get], h⟩
  | m + 1, j, ρ, σ, hj, h => by
    have hx : xs[j]? = some (xs[j]'(by (first | lia | omega))) := List.getElem?_eq_getElem _
    obtain ⟨ρ₁, σ₁, h1, h2⟩ := step j _ ρ σ hx h
    obtain ⟨ρ₂, σ₂, h3, h4⟩ := exLoop_fix I step m (j + 1) ρ₁ σ₁ (by (first | lia | omega)) h2
    refine ⟨ρ₂, σ₂, ?_, h4⟩
    rw [exLoop]
    simp only [Src.get, hx, h1]
    exact h3
theorem for_range {n : Nat} {f : V → REnv → Store → Option (Fl × REnv × Store)} (I : Nat → REnv → Store → Prop) {ρ : REnv} {σ : Store} (h0 : I 0 ρ σ)
    (step : ∀ (j : Nat) (ρ : REnv) (σ : Store), j < n → I j ρ σ → ∃ ρ' σ', f (.int j) ρ σ = some (.next, ρ', σ') ∧ I (j + 1) ρ' σ') :
    ∃ ρ' σ', exLoop (.fix (rangeL 0 1 n)) f ((rangeL 0 1 n).length + 1) 0 ρ σ = some (.next, ρ', σ') ∧ I n ρ' σ' := by
  have hl : (rangeL 0 1 n).length = n := by simp [rangeL]
  obtain ⟨ρ', σ', h1, h2⟩ := exLoop_fix (xs := rangeL 0 1 n) I (fun j x ρ σ hx h => by
    have hj : j < n := by rw [← hl]; exact (List.getElem?_eq_some_iff.mp hx).1
    have : x = .int j := by simpa [rangeL, hj] using hx.symm
    subst this
    exact step j ρ σ hj h) n 0 ρ σ (by (first | lia | omega)) h0
  rw [hl] at h2 ⊢
  exact ⟨ρ', σ', h1, h2⟩
/-- a comprehension whose turns leave the store alone -/
theorem evLoop_fix {xs : List V} {f : V → Store → Option (Option V × Store)} {σ : Store} (g : Nat → V → Option V) (step : ∀ (j : Nat) (x : V), xs[j]? = some x → f x σ = some (g j x, σ)) :
    ∀ (m j : Nat) (acc : List V), j + m = xs.length → evLoop (.fix xs) f (m + 1) j acc σ = some (acc ++ ((xs.zipIdx).drop j).filterMap (fun p => g p.2 p.1), σ)
  | 0, j, acc, hj => by
    have hd : (xs.zipIdx).drop j = [] := by simp; (first | lia | omega)
    simp [evLoop, Src.get, show xs[j]? = none by simp; (first | lia | omega), hd]
  | m + 1, j, acc, hj => by
    have hlt : j < xs.length := by (first | lia | omega)
    have hx : xs[j]? = some xs[j] := List.getElem?_eq_getElem _
    have hd : (xs.zipIdx).drop j = (xs[j], j) :: (xs.zipIdx).drop (j + 1) := by
      rw [List.drop_eq_getElem_cons (by simpa using hlt)]
      simp
    rw [evLoop]
    simp only [Src.get, hx, step j _ hx, hd, List.filterMap_cons]
    cases hg : g j xs[j] with
    | none => simp only [hg]; exact evLoop_fix g step m (j + 1) acc (by (first | lia | omega))
    | some v => simp only [hg]; rw [evLoop_fix g step m (j + 1) _ (by (first | lia | omega))]; simp
theorem comp_range {n : Nat} {f : V → Store → Option (Option V × Store)} {σ : Store} (g : Nat → Option V) (step : ∀ j, j < n → f (.int j) σ = some (g j, σ)) :
    evLoop (.fix (rangeL 0 1 n)) f ((rangeL 0 1 n).length + 1) 0 [] σ = some ((List.range n).filterMap g, σ) := by
  have hl : (rangeL 0 1 n).length = n := by simp [rangeL]
  rw [evLoop_fix (fun j _ => g j) (fun j x hx => by
    have hj : j < n := by rw [← hl]; exact (List.getElem?_eq_some_iff.mp hx).1
    have : x = .int j := by simpa [rangeL, hj] using hx.symm
    subst this
    exact step j hj) _ 0 [] (by (first | lia | omega))]
  simp only [List.nil_append, List.drop_zero]
  congr 2
  have : ((rangeL 0 1 n).zipIdx).map (fun p => p.2) = List.range n := by
    rw [List.zipIdx_map_snd]; simp [hl, List.range_eq_range']
  rw [← this, List.filterMap_map]
  rfl
theorem ev_comp_intro {T : Tabs} {C : Calls} {ρ : REnv} {σ σ₁ σ₂ : Store} {src elt : Ex} {xv : V} {Z : Src} {vs : List V} (h1 : ev T C ρ σ src = some (xv, σ₁)) (h2 : srcOf xv = some Z) (h3 : evLoop Z (cF T C ρ elt) Z.fuel 0 [] σ₁ = some (vs, σ₂)) (h4 : vs.length ≤ LIM) :
    ev T C ρ σ (.comp src elt) = some (.lst σ₂.length, σ₂ ++ [vs]) := by
  rw [ev, h1]
  simp only [h2]
  show (match evLoop Z (cF T C ρ elt) Z.fuel 0 [] σ₁ with | some (vs, σ'') => if vs.length ≤ LIM then some (V.lst σ''.length, σ'' ++ [vs]) else none | none => none) = _
  rw [h3]
  simp [h4]
theorem ev_compIf_intro {T : Tabs} {C : Calls} {ρ : REnv} {σ σ₁ σ₂ : Store} {src cond elt : Ex} {xv : V} {Z : Src} {vs : List V} (h1 : ev T C ρ σ src = some (xv, σ₁)) (h2 : srcOf xv = some Z) (h3 : evLoop Z (cIf T C ρ cond elt) Z.fuel 0 [] σ₁ = some (vs, σ₂)) (h4 : vs.length ≤ LIM) :
    ev T C ρ σ (.compIf src cond elt) = some (.lst σ₂.length, σ₂ ++ [vs]) := by
  rw [ev, h1]
  simp only [h2]
  show (match evLoop Z (cIf T C ρ cond elt) Z.fuel 0 [] σ₁ with | some (vs, σ'') => if vs.length ≤ LIM then some (V.lst σ''.length, σ'' ++ [vs]) else none | none => none) = _
  rw [h3]
  simp [h4]
theorem cIf_true {T : Tabs} {C : Calls} {ρ : REnv} {τ τ₁ τ₂ : Store} {cond elt : Ex} {v y : V} (h1 : ev T C (ρ ++ [some v]) τ cond = some (.bool true, τ₁)) (h2 : ev T C (ρ ++ [some v]) τ₁ elt = some (y, τ₂)) : cIf T C ρ cond elt v τ = some (some y, τ₂) := by
  unfold cIf; rw [h1]; simp [h2]
theorem cIf_false {T : Tabs} {C : Calls} {ρ : REnv} {τ τ₁ : Store} {cond elt : Ex} {v : V} (h1 : ev T C (ρ ++ [some v]) τ cond = some (.bool false, τ₁)) : cIf T C ρ cond elt v τ = some (none, τ₁) := by
  unfold cIf; rw [h1]
theorem cF_some {T : Tabs} {C : Calls} {ρ : REnv} {τ τ₁ : Store} {elt : Ex} {v y : V} (h1 : ev T C (ρ ++ [some v]) τ elt = some (y, τ₁)) : cF T C ρ elt v τ = some (some y, τ₁) := by
  unfold cF; rw [h1]
theorem exs_next {T : Tabs} {C : Calls} {ρ ρ' : REnv} {σ σ' : Store} {s : St} {r : Sts} (h : ex T C ρ σ s = some (.next, ρ', σ')) : exs T C ρ σ (.cons s r) = exs T C ρ' σ' r := by
  rw [exs, h]
theorem ex_set {T : Tabs} {C : Calls} {ρ : REnv} {σ σ' : Store} {i : Nat} {e : Ex} {v : V} (h : ev T C ρ σ e = some (v, σ')) : ex T C ρ σ (.set i e) = some (.next, ρ.set i (some v), σ') := by
  rw [ex, h]
theorem ex_for {T : Tabs} {C : Calls} {ρ ρ' : REnv} {σ σ₁ σ' : Store} {i : Nat} {e : Ex} {b : Sts} {x : V} {Z : Src} {fl : Fl} (h : ev T C ρ σ e = some (x, σ₁)) (hz : srcOf x = some Z) (hl : exLoop Z (fun v ρ σ => exs T C (ρ.set i (some v)) σ b) Z.fuel 0 ρ σ₁ = some (fl, ρ', σ')) : ex T C ρ σ (.forIn i e b) = some (fl, ρ', σ') := by
  rw [ex, h]
  simp only [hz]
  exact hl
theorem exs_ret {T : Tabs} {C : Calls} {ρ : REnv} {σ σ' : Store} {e : Ex} {r : Sts} {v : V} (h : ev T C ρ σ e = some (v, σ')) : exs T C ρ σ (.cons (.ret e) r) = some (.ret v, ρ, σ') := by
  rw [exs, ex, h]

end Mine
end

section
set_option Elab.async false
namespace Mine
namespace W1
noncomputable def fn0 : Fn := ⟨1, 1, Sts.cons (St.ret (Ex.un (Uop.inB1) (Ex.un (Uop.ord) (Ex.var 0)))) (Sts.nil)⟩
noncomputable def fn1 : Fn := ⟨1, 2, Sts.cons (St.set 1 (Ex.un (Uop.getB3) (Ex.un (Uop.ord) (Ex.var 0)))) (Sts.cons (St.ite (Ex.bin (Bop.isnot) (Ex.var 1) (Ex.none)) (Sts.cons (St.ret (Ex.var 1)) (Sts.nil)) (Sts.nil)) (Sts.cons (St.ret (Ex.un (Uop.lower) (Ex.var 0))) (Sts.nil)))⟩
noncomputable def fn2 : Fn := ⟨1, 5, Sts.cons (St.ite (Ex.bin (Bop.ne) (Ex.bin (Bop.sliceT) (Ex.var 0) (Ex.int 3)) (Ex.str [50, 53, 55])) (Sts.cons (St.fail) (Sts.nil)) (Sts.nil)) (Sts.cons (St.ite (Ex.bin (Bop.ne) (Ex.slice (Ex.var 0) (Ex.int 3) (Ex.int 5)) (Ex.str [32, 34])) (Sts.cons (St.ret (Ex.str [])) (Sts.nil)) (Sts.nil)) (Sts.cons (St.set 1 (Ex.str [])) (Sts.cons (St.set 2 (Ex.int 5)) (Sts.cons (St.set 3 (Ex.un (Uop.len) (Ex.var 0))) (Sts.cons (St.while (Ex.bin (Bop.lt) (Ex.var 2) (Ex.var 3)) (Sts.cons (St.set 4 (Ex.bin (Bop.item) (Ex.var 0) (Ex.var 2))) (Sts.cons (St.set 2 (Ex.bin (Bop.add) (Ex.var 2) (Ex.int 1))) (Sts.cons (St.ite (Ex.bin (Bop.eq) (Ex.var 4) (Ex.str [34])) (Sts.cons (St.ite (Ex.or (Ex.bin (Bop.ge) (Ex.var 2) (Ex.var 3)) (Ex.bin (Bop.ne) (Ex.bin (Bop.item) (Ex.var 0) (Ex.var 2)) (Ex.str [34]))) (Sts.cons (St.brk) (Sts.nil)) (Sts.nil)) (Sts.cons (St.set 2 (Ex.bin (Bop.add) (Ex.var 2) (Ex.int 1))) (Sts.nil))) (Sts.nil)) (Sts.cons (St.set 1 (Ex.bin (Bop.add) (Ex.var 1) (Ex.var 4))) (Sts.nil)))))) (Sts.cons (St.ret (Ex.var 1)) (Sts.nil)))))))⟩
noncomputable def fn3 : Fn := ⟨1, 1, Sts.cons (St.ret (Ex.bin (Bop.lt) (Ex.var 0) (Ex.int 256))) (Sts.nil)⟩
noncomputable def fn4 : Fn := ⟨1, 1, Sts.cons (St.ret (Ex.bin (Bop.ge) (Ex.var 0) (Ex.int 256))) (Sts.nil)⟩
noncomputable def fn5 : Fn := ⟨1, 1, Sts.cons (St.ret (Ex.bin (Bop.eq) (Ex.var 0) (Ex.int 0))) (Sts.nil)⟩
noncomputable def fn6 : Fn := ⟨1, 3, Sts.cons (St.set 1 (Ex.list (Exs.cons (Ex.int 3) (Exs.cons (Ex.int 6) (Exs.cons (Ex.int 43) (Exs.nil)))))) (Sts.cons (St.forIn 2 (Ex.un (Uop.range) (Ex.bin (Bop.min) (Ex.int 60) (Ex.un (Uop.len) (Ex.var 0)))) (Sts.cons (St.augItem 1 (Ex.bin (Bop.mod) (Ex.var 2) (Ex.int 3)) (Bop.add) (Ex.bin (Bop.mod) (Ex.bin (Bop.item) (Ex.var 0) (Ex.var 2)) (Ex.bin (Bop.pow) (Ex.int 10) (Ex.int 6)))) (Sts.nil))) (Sts.cons (St.ret (Ex.var 1)) (Sts.nil)))⟩
noncomputable def fn7 : Fn := ⟨3, 3, Sts.cons (St.ite (Ex.bin (Bop.eq) (Ex.var 2) (Ex.int 0)) (Sts.cons (St.ret (Ex.ite (Ex.bin (Bop.eq) (Ex.var 0) (Ex.str [104])) (Ex.str [13259]) (Ex.str [13271]))) (Sts.nil)) (Sts.nil)) (Sts.cons (St.ite (Ex.bin (Bop.eq) (Ex.var 0) (Ex.str [104])) (Sts.cons (St.ret (Ex.bin (Bop.add) (Ex.bin (Bop.add) (Ex.str [72]) (Ex.un (Uop.chr) (Ex.bin (Bop.add) (Ex.int 65024) (Ex.var 1)))) (Ex.str [119823]))) (Sts.nil)) (Sts.nil)) (Sts.cons (St.ret (Ex.bin (Bop.add) (Ex.bin (Bop.add) (Ex.str [80]) (Ex.un (Uop.chr) (Ex.bin (Bop.add) (Ex.int 65024) (Ex.var 1)))) (Ex.str [119815]))) (Sts.nil)))⟩
noncomputable def fn8 : Fn := ⟨2, 6, Sts.cons (St.set 2 (Ex.int 0)) (Sts.cons (St.while (Ex.and (Ex.bin (Bop.le) (Ex.un (Uop.len) (Ex.var 0)) (Ex.int 6)) (Ex.bin (Bop.lt) (Ex.var 2) (Ex.int 3))) (Sts.cons (St.set 3 (Ex.str [])) (Sts.cons (St.forIn 4 (Ex.un (Uop.range) (Ex.un (Uop.len) (Ex.var 0))) (Sts.cons (St.forIn 5 (Ex.call 7 (Exs.cons (Ex.bin (Bop.item) (Ex.var 0) (Ex.var 4)) (Exs.cons (Ex.var 4) (Exs.cons (Ex.bin (Bop.mod) (Ex.bin (Bop.fdiv) (Ex.var 1) (Ex.bin (Bop.pow) (Ex.int 2) (Ex.var 4))) (Ex.int 2)) (Exs.nil))))) (Sts.cons (St.ite (Ex.bin (Bop.is) (Ex.call 0 (Exs.cons (Ex.var 5) (Exs.nil))) (Ex.bool false)) (Sts.cons (St.aug 3 (Bop.add) (Ex.call 1 (Exs.cons (Ex.var 5) (Exs.nil)))) (Sts.nil)) (Sts.nil)) (Sts.nil))) (Sts.nil))) (Sts.cons (St.set 0 (Ex.var 3)) (Sts.cons (St.aug 2 (Bop.add) (Ex.int 1)) (Sts.nil)))))) (Sts.cons (St.ret (Ex.tup (Exs.cons (Ex.var 0) (Exs.cons (Ex.var 2) (Exs.nil))))) (Sts.nil)))⟩
noncomputable def fn9 : Fn := ⟨3, 3, Sts.cons (St.ite (Ex.bin (Bop.eq) (Ex.slice (Ex.var 0) (Ex.var 1) (Ex.bin (Bop.add) (Ex.var 1) (Ex.int 1))) (Ex.str [112])) (Sts.cons (St.aug 2 (Bop.add) (Ex.int 1)) (Sts.nil)) (Sts.nil)) (Sts.cons (St.ret (Ex.bin (Bop.item) (Ex.str [104, 112]) (Ex.bin (Bop.mod) (Ex.var 2) (Ex.int 2)))) (Sts.nil))⟩
noncomputable def fn10 : Fn := ⟨3, 6, Sts.cons (St.set 3 (Ex.int 0)) (Sts.cons (St.forIn 4 (Ex.un (Uop.range) (Ex.var 1)) (Sts.cons (St.set 5 (Ex.call 2 (Exs.cons (Ex.bin (Bop.add) (Ex.bin (Bop.add) (Ex.str [50, 53, 55, 32, 34]) (Ex.bin (Bop.mul) (Ex.str [34]) (Ex.var 2))) (Ex.str [104])) (Exs.nil)))) (Sts.cons (St.ite (Ex.bin (Bop.eq) (Ex.bin (Bop.sliceF) (Ex.var 5) (Ex.un (Uop.neg) (Ex.int 1))) (Ex.str [104])) (Sts.cons (St.set 5 (Ex.bin (Bop.sliceT) (Ex.var 5) (Ex.un (Uop.neg) (Ex.int 1)))) (Sts.nil)) (Sts.cons (St.aug 3 (Bop.add) (Ex.int 1)) (Sts.nil))) (Sts.cons (St.set 2 (Ex.un (Uop.len) (Ex.var 5))) (Sts.cons (St.ite (Ex.bin (Bop.ne) (Ex.var 5) (Ex.bin (Bop.mul) (Ex.str [34]) (Ex.var 2))) (Sts.cons (St.ret (Ex.str [])) (Sts.nil)) (Sts.nil)) (Sts.nil)))))) (Sts.cons (St.ret (Ex.call 9 (Exs.cons (Ex.var 0) (Exs.cons (Ex.var 2) (Exs.cons (Ex.var 3) (Exs.nil)))))) (Sts.nil)))⟩
noncomputable def fn11 : Fn := ⟨1, 3, Sts.cons (St.set 1 (Ex.list (Exs.nil))) (Sts.cons (St.while (Ex.bin (Bop.ne) (Ex.var 0) (Ex.str [])) (Sts.cons (St.forIn 2 (Ex.tup (Exs.cons (Ex.int 3) (Exs.cons (Ex.int 2) (Exs.cons (Ex.int 1) (Exs.nil))))) (Sts.cons (St.ite (Ex.un (Uop.inTok) (Ex.bin (Bop.sliceT) (Ex.var 0) (Ex.var 2))) (Sts.cons (St.brk) (Sts.nil)) (Sts.nil)) (Sts.nil))) (Sts.cons (St.expr (Ex.bin (Bop.append) (Ex.var 1) (Ex.un (Uop.tok) (Ex.bin (Bop.sliceT) (Ex.var 0) (Ex.var 2))))) (Sts.cons (St.set 0 (Ex.bin (Bop.sliceF) (Ex.var 0) (Ex.var 2))) (Sts.nil))))) (Sts.cons (St.ret (Ex.var 1)) (Sts.nil)))⟩
noncomputable def fn12 : Fn := ⟨3, 6, Sts.cons (St.set 3 (Ex.int 0)) (Sts.cons (St.forIn 4 (Ex.un (Uop.range) (Ex.var 1)) (Sts.cons (St.set 5 (Ex.call 11 (Exs.cons (Ex.bin (Bop.add) (Ex.bin (Bop.mul) (Ex.str [42]) (Ex.var 2)) (Ex.str [61])) (Exs.nil)))) (Sts.cons (St.set 2 (Ex.bin (Bop.sub) (Ex.un (Uop.len) (Ex.var 5)) (Ex.int 1))) (Sts.cons (St.ite (Ex.bin (Bop.eq) (Ex.bin (Bop.item) (Ex.var 5) (Ex.un (Uop.neg) (Ex.int 1))) (Ex.int 46)) (Sts.cons (St.aug 2 (Bop.add) (Ex.int 1)) (Sts.nil)) (Sts.nil)) (Sts.cons (St.ite (Ex.bin (Bop.eq) (Ex.bin (Bop.item) (Ex.var 5) (Ex.un (Uop.neg) (Ex.int 1))) (Ex.int 38)) (Sts.cons (St.aug 3 (Bop.add) (Ex.int 1)) (Sts.nil)) (Sts.nil)) (Sts.cons (St.ite (Ex.bin (Bop.notin) (Ex.var 5) (Ex.tup (Exs.cons (Ex.list (Exs.cons (Ex.int 22) (Exs.nil))) (Exs.cons (Ex.bin (Bop.add) (Ex.bin (Bop.mul) (Ex.list (Exs.cons (Ex.int 35) (Exs.nil))) (Ex.var 2)) (Ex.list (Exs.cons (Ex.int 38) (Exs.nil)))) (Exs.cons (Ex.bin (Bop.add) (Ex.bin (Bop.mul) (Ex.list (Exs.cons (Ex.int 35) (Exs.nil))) (Ex.bin (Bop.sub) (Ex.var 2) (Ex.int 1))) (Ex.list (Exs.cons (Ex.int 46) (Exs.nil)))) (Exs.nil)))))) (Sts.cons (St.ret (Ex.str [])) (Sts.nil)) (Sts.nil)) (Sts.nil))))))) (Sts.cons (St.ret (Ex.call 9 (Exs.cons (Ex.var 0) (Exs.cons (Ex.var 2) (Exs.cons (Ex.var 3) (Exs.nil)))))) (Sts.nil)))⟩
noncomputable def fn13 : Fn := ⟨1, 2, Sts.cons (St.set 1 (Ex.int 0)) (Sts.cons (St.while (Ex.bin (Bop.gt) (Ex.var 0) (Ex.int 0)) (Sts.cons (St.aug 1 (Bop.add) (Ex.bin (Bop.mod) (Ex.var 0) (Ex.int 2))) (Sts.cons (St.set 0 (Ex.bin (Bop.fdiv) (Ex.var 0) (Ex.int 2))) (Sts.nil)))) (Sts.cons (St.ret (Ex.var 1)) (Sts.nil)))⟩
noncomputable def fn14 : Fn := ⟨2, 9, Sts.cons (St.set 3 (Ex.compIf (Ex.un (Uop.range) (Ex.un (Uop.len) (Ex.var 0))) (Ex.bin (Bop.eq) (Ex.bin (Bop.item) (Ex.var 0) (Ex.var 9)) (Ex.var 1)) (Ex.var 9))) (Sts.cons (St.set 4 (Ex.bin (Bop.add) (Ex.bin (Bop.item) (Ex.var 3) (Ex.un (Uop.neg) (Ex.int 2))) (Ex.bin (Bop.item) (Ex.var 3) (Ex.un (Uop.neg) (Ex.int 1))))) (Sts.cons (St.set 5 (Ex.comp (Ex.un (Uop.range) (Ex.un (Uop.len) (Ex.var 0))) (Ex.ite (Ex.bin (Bop.eq) (Ex.bin (Bop.item) (Ex.var 0) (Ex.var 9)) (Ex.var 1)) (Ex.var 9) (Ex.bin (Bop.add) (Ex.var 9) (Ex.var 4))))) (Sts.cons (St.set 6 (Ex.list (Exs.nil))) (Sts.cons (St.forIn 2 (Ex.un (Uop.range) (Ex.un (Uop.len) (Ex.var 5))) (Sts.cons (St.forIn 7 (Ex.un (Uop.range) (Ex.var 2)) (Sts.cons (St.set 8 (Ex.bin (Bop.sub) (Ex.bin (Bop.add) (Ex.bin (Bop.add) (Ex.bin (Bop.item) (Ex.var 5) (Ex.var 7)) (Ex.bin (Bop.item) (Ex.var 5) (Ex.var 2))) (Ex.int 255)) (Ex.var 4))) (Sts.cons (St.ite (Ex.and (Ex.bin (Bop.eq) (Ex.var 1) (Ex.str [104])) (Ex.bin (Bop.is) (Ex.call 3 (Exs.cons (Ex.var 8) (Exs.nil))) (Ex.bool true))) (Sts.cons (St.expr (Ex.bin (Bop.append) (Ex.var 6) (Ex.bin (Bop.add) (Ex.var 7) (Ex.var 2)))) (Sts.nil)) (Sts.nil)) (Sts.cons (St.ite (Ex.and (Ex.bin (Bop.eq) (Ex.var 1) (Ex.str [112])) (Ex.bin (Bop.is) (Ex.call 4 (Exs.cons (Ex.var 8) (Exs.nil))) (Ex.bool false))) (Sts.cons (St.expr (Ex.bin (Bop.append) (Ex.var 6) (Ex.bin (Bop.add) (Ex.var 7) (Ex.var 2)))) (Sts.nil)) (Sts.nil)) (Sts.nil))))) (Sts.nil))) (Sts.cons (St.ret (Ex.var 6)) (Sts.nil))))))⟩
noncomputable def fn15 : Fn := ⟨1, 6, Sts.cons (St.set 1 (Ex.call 14 (Exs.cons (Ex.var 0) (Exs.cons (Ex.str [104]) (Exs.nil))))) (Sts.cons (St.set 2 (Ex.call 14 (Exs.cons (Ex.var 0) (Exs.cons (Ex.str [112]) (Exs.nil))))) (Sts.cons (St.set 3 (Ex.list (Exs.nil))) (Sts.cons (St.forIn 4 (Ex.bin (Bop.add) (Ex.var 1) (Ex.var 2)) (Sts.cons (St.set 5 (Ex.bin (Bop.sub) (Ex.bin (Bop.count) (Ex.var 1) (Ex.var 4)) (Ex.bin (Bop.count) (Ex.var 2) (Ex.var 4)))) (Sts.cons (St.ite (Ex.and (Ex.bin (Bop.is) (Ex.call 5 (Exs.cons (Ex.var 5) (Exs.nil))) (Ex.bool false)) (Ex.bin (Bop.is) (Ex.call 5 (Exs.cons (Ex.un (Uop.neg) (Ex.var 5)) (Exs.nil))) (Ex.bool false))) (Sts.cons (St.expr (Ex.bin (Bop.append) (Ex.var 3) (Ex.var 4))) (Sts.nil)) (Sts.nil)) (Sts.nil)))) (Sts.cons (St.ret (Ex.var 3)) (Sts.nil)))))⟩
noncomputable def fn16 : Fn := ⟨1, 11, Sts.cons (St.unpack [1, 2, 3] (Ex.call 6 (Exs.cons (Ex.var 0) (Exs.nil)))) (Sts.cons (St.set 4 (Ex.bin (Bop.join) (Ex.str []) (Ex.comp (Ex.un (Uop.range) (Ex.bin (Bop.add) (Ex.bin (Bop.mod) (Ex.var 1) (Ex.int 6)) (Ex.int 1))) (Ex.bin (Bop.item) (Ex.str [104, 112]) (Ex.bin (Bop.mod) (Ex.bin (Bop.fdiv) (Ex.var 2) (Ex.bin (Bop.pow) (Ex.int 2) (Ex.var 11))) (Ex.int 2)))))) (Sts.cons (St.unpack [5, 6] (Ex.call 8 (Exs.cons (Ex.var 4) (Exs.cons (Ex.var 3) (Exs.nil))))) (Sts.cons (St.set 7 (Ex.str [])) (Sts.cons (St.set 8 (Ex.str [])) (Sts.cons (St.set 9 (Ex.str [])) (Sts.cons (St.forIn 10 (Ex.un (Uop.range) (Ex.bin (Bop.mul) (Ex.un (Uop.len) (Ex.var 4)) (Ex.bin (Bop.pow) (Ex.int 2) (Ex.var 6)))) (Sts.cons (St.aug 7 (Bop.add) (Ex.call 9 (Exs.cons (Ex.var 4) (Exs.cons (Ex.bin (Bop.fdiv) (Ex.var 10) (Ex.bin (Bop.pow) (Ex.int 2) (Ex.var 6))) (Exs.cons (Ex.call 13 (Exs.cons (Ex.bin (Bop.mod) (Ex.var 10) (Ex.bin (Bop.pow) (Ex.int 2) (Ex.var 6))) (Exs.nil))) (Exs.nil)))))) (Sts.cons (St.aug 8 (Bop.add) (Ex.call 10 (Exs.cons (Ex.var 4) (Exs.cons (Ex.var 6) (Exs.cons (Ex.var 10) (Exs.nil)))))) (Sts.cons (St.aug 9 (Bop.add) (Ex.call 12 (Exs.cons (Ex.var 4) (Exs.cons (Ex.var 6) (Exs.cons (Ex.var 10) (Exs.nil)))))) (Sts.nil))))) (Sts.cons (St.ite (Ex.or (Ex.bin (Bop.ne) (Ex.var 5) (Ex.var 7)) (Ex.or (Ex.bin (Bop.ne) (Ex.var 8) (Ex.var 7)) (Ex.bin (Bop.ne) (Ex.var 9) (Ex.var 7)))) (Sts.cons (St.ret (Ex.bool false)) (Sts.nil)) (Sts.nil)) (Sts.cons (St.ret (Ex.bin (Bop.eq) (Ex.bin (Bop.eq) (Ex.call 15 (Exs.cons (Ex.var 5) (Exs.nil))) (Ex.list (Exs.nil))) (Ex.bin (Bop.inn) (Ex.var 4) (Ex.tup (Exs.cons (Ex.str [104]) (Exs.cons (Ex.str [112]) (Exs.cons (Ex.str [104, 112]) (Exs.cons (Ex.str [112, 104]) (Exs.cons (Ex.str [104, 112, 112, 104]) (Exs.cons (Ex.str [112, 104, 104, 112]) (Exs.nil))))))))))) (Sts.nil)))))))))⟩
noncomputable def fns : List Fn := [fn0, fn1, fn2, fn3, fn4, fn5, fn6, fn7, fn8, fn9, fn10, fn11, fn12, fn13, fn14, fn15, fn16]
end W1
end Mine
end

section
open PySem PySem.W PyProof.Rows PySem.Calls PySem.SeqAt
set_option Elab.async false
set_option linter.unusedVariables false
set_option maxRecDepth 100000
namespace Mine
noncomputable section
namespace P1

theorem main_at (P : Params) (u : Nat → Obj) : (HF P u).get? 3 = some (o3_11 P) := by kernel_rfl
noncomputable def G : List (Str × Gl) := [(S "in_table_b1", .fn 0), (S "map_table_b3", .fn 1), (S "parse257", .fn 2), (S "ISTERMINAL", .fn 3), (S "ISNONTERMINAL", .fn 4), (S "ISEOF", .fn 5), (S "_law_numbers", .fn 6), (S "_law_spelled", .fn 7), (S "_law_grown", .fn 8), (S "_law_letter", .fn 9), (S "_law_by_quotes", .fn 10), (S "_law_cut", .fn 11), (S "_law_by_stars", .fn 12), (S "_law_ones", .fn 13), (S "_law_sums", .fn 14), (S "_law_unlike", .fn 15), (S "law", .fn 16), (S "NT_OFFSET", .int 256), (S "ENDMARKER", .int 0)]
noncomputable def addrs : List Addr := [32, 78, 110, 120, 127, 134, 141, 148, 155, 162, 169, 176, 183, 190, 195, 202, 207]
theorem glb (P : Params) : glB G (e3_11 P).toArray addrs = true := by kernel_rfl
theorem b1_at (P : Params) (u : Nat → Obj) : (HF P u).get? 22 = some (((HF P u).get? 22).getD default) := by kernel_rfl
theorem b1_sh (P : Params) (u : Nat → Obj) : setEs (((HF P u).get? 22).getD default) = (intKeys (setEs (((HF P u).get? 22).getD default))).map (fun p => (hashInt p.1, .int p.1 p.2)) := by kernel_rfl
theorem b1_keys (P : Params) (u : Nat → Obj) : (intKeys (setEs (((HF P u).get? 22).getD default))).map (·.1) = b1L := by kernel_rfl
theorem b1_fit (P : Params) (u : Nat → Obj) : setFit (((HF P u).get? 22).getD default) = true := by kernel_rfl
theorem b1_ex (P : Params) (u : Nat → Obj) : (((HF P u).get? 22).getD default).ExactSet := ⟨by kernel_rfl, by kernel_rfl, by kernel_rfl⟩
theorem tk_at (P : Params) (u : Nat → Obj) : (HF P u).get? 111 = some (((HF P u).get? 111).getD default) := by kernel_rfl
theorem tk_is (P : Params) (u : Nat → Obj) : isDict (((HF P u).get? 111).getD default) = true := by kernel_rfl
theorem tk_sh (w : World) (u : Nat → Obj) : dictEs (((HF w.params u).get? 111).getD default) = (strKeys (dictEs (((HF w.params u).get? 111).getD default))).map (fun p => ⟨hashStr w p.1, .str p.1 p.2.1, .int p.2.2.1 p.2.2.2⟩) := by kernel_rfl
theorem tk_keys (P : Params) (u : Nat → Obj) : (strKeys (dictEs (((HF P u).get? 111).getD default))).map (fun p => (p.1.cps.toList, p.2.2.1)) = tokL := by kernel_rfl
theorem tk_ex (P : Params) (u : Nat → Obj) : (((HF P u).get? 111).getD default).ExactDict := ⟨by kernel_rfl, by kernel_rfl, by kernel_rfl⟩
theorem b3_get (P : Params) (u : Nat → Obj) : (HF P u).objs[33]? = some (u 33) := by kernel_rfl
theorem b3_size : L3.all (fun p => decide (p.2.cps.size ≤ LIM)) = true := by kernel_rfl
theorem n_b1_set (P : Params) : nsFind (e3_11 P).toArray (S "b1_set") = some (.ref 22) := by kernel_rfl
theorem n_b3_exceptions (P : Params) : nsFind (e3_11 P).toArray (S "b3_exceptions") = some (.ref 33) := by kernel_rfl
theorem n_EXACT_TOKEN_TYPES (P : Params) : nsFind (e3_11 P).toArray (S "EXACT_TOKEN_TYPES") = some (.ref 111) := by kernel_rfl
theorem n_law (P : Params) : nsFind (e3_11 P).toArray (S "law") = some (.ref 207) := by kernel_rfl
theorem bare (P : Params) : bnames.all (fun n => (nsFind (e3_11 P).toArray n).isNone) = true := by kernel_rfl
theorem f0_at (P : Params) (u : Nat → Obj) : (HF P u).get? 32 = some (o32_0 P) := by kernel_rfl
theorem f0_code (P : Params) (u : Nat → Obj) : codeB ((HF P u).get? 31) (fdOf 2 3 (.str (S "cpy313.stringprep") 187) (.ref 31) 0).qualname = true := by kernel_rfl
theorem f0_fn : cFn G (fdOf 2 3 (.str (S "cpy313.stringprep") 187) (.ref 31) 0) = some W1.fn0 := by kernel_rfl
theorem f0_p : FdP (fdOf 2 3 (.str (S "cpy313.stringprep") 187) (.ref 31) 0) := @of_decide_eq_true _ (decFdP _) (by kernel_rfl)
theorem f0_ps : psOf (fdOf 2 3 (.str (S "cpy313.stringprep") 187) (.ref 31) 0) = [S "code"] := by kernel_rfl
theorem f0_b (v0 : Value) : bindArgs (fdOf 2 3 (.str (S "cpy313.stringprep") 187) (.ref 31) 0) ⟨[v0], []⟩ = pure [(S "code", v0)] := by kernel_rfl
theorem f1_at (P : Params) (u : Nat → Obj) : (HF P u).get? 78 = some (o78_0 P) := by kernel_rfl
theorem f1_code (P : Params) (u : Nat → Obj) : codeB ((HF P u).get? 77) (fdOf 4 3 (.str (S "cpy313.stringprep") 187) (.ref 77) 0).qualname = true := by kernel_rfl
theorem f1_fn : cFn G (fdOf 4 3 (.str (S "cpy313.stringprep") 187) (.ref 77) 0) = some W1.fn1 := by kernel_rfl
theorem f1_p : FdP (fdOf 4 3 (.str (S "cpy313.stringprep") 187) (.ref 77) 0) := @of_decide_eq_true _ (decFdP _) (by kernel_rfl)
theorem f1_ps : psOf (fdOf 4 3 (.str (S "cpy313.stringprep") 187) (.ref 77) 0) = [S "code"] := by kernel_rfl
theorem f1_b (v0 : Value) : bindArgs (fdOf 4 3 (.str (S "cpy313.stringprep") 187) (.ref 77) 0) ⟨[v0], []⟩ = pure [(S "code", v0)] := by kernel_rfl
theorem f2_at (P : Params) (u : Nat → Obj) : (HF P u).get? 110 = some (o110_0 P) := by kernel_rfl
theorem f2_code (P : Params) (u : Nat → Obj) : codeB ((HF P u).get? 109) (fdOf 8 3 (.str (S "cpy313.ftplib") 2215) (.ref 109) 0).qualname = true := by kernel_rfl
theorem f2_fn : cFn G (fdOf 8 3 (.str (S "cpy313.ftplib") 2215) (.ref 109) 0) = some W1.fn2 := by kernel_rfl
theorem f2_p : FdP (fdOf 8 3 (.str (S "cpy313.ftplib") 2215) (.ref 109) 0) := @of_decide_eq_true _ (decFdP _) (by kernel_rfl)
theorem f2_ps : psOf (fdOf 8 3 (.str (S "cpy313.ftplib") 2215) (.ref 109) 0) = [S "resp"] := by kernel_rfl
theorem f2_b (v0 : Value) : bindArgs (fdOf 8 3 (.str (S "cpy313.ftplib") 2215) (.ref 109) 0) ⟨[v0], []⟩ = pure [(S "resp", v0)] := by kernel_rfl
theorem f3_at (P : Params) (u : Nat → Obj) : (HF P u).get? 120 = some (o120_0 P) := by kernel_rfl
theorem f3_code (P : Params) (u : Nat → Obj) : codeB ((HF P u).get? 119) (fdOf 61 3 (.str (S "cpy313.token") 2264) (.ref 119) 0).qualname = true := by kernel_rfl
theorem f3_fn : cFn G (fdOf 61 3 (.str (S "cpy313.token") 2264) (.ref 119) 0) = some W1.fn3 := by kernel_rfl
theorem f3_p : FdP (fdOf 61 3 (.str (S "cpy313.token") 2264) (.ref 119) 0) := @of_decide_eq_true _ (decFdP _) (by kernel_rfl)
theorem f3_ps : psOf (fdOf 61 3 (.str (S "cpy313.token") 2264) (.ref 119) 0) = [S "x"] := by kernel_rfl
theorem f3_b (v0 : Value) : bindArgs (fdOf 61 3 (.str (S "cpy313.token") 2264) (.ref 119) 0) ⟨[v0], []⟩ = pure [(S "x", v0)] := by kernel_rfl
theorem f4_at (P : Params) (u : Nat → Obj) : (HF P u).get? 127 = some (o127_0 P) := by kernel_rfl
theorem f4_code (P : Params) (u : Nat → Obj) : codeB ((HF P u).get? 126) (fdOf 62 3 (.str (S "cpy313.token") 2264) (.ref 126) 0).qualname = true := by kernel_rfl
theorem f4_fn : cFn G (fdOf 62 3 (.str (S "cpy313.token") 2264) (.ref 126) 0) = some W1.fn4 := by kernel_rfl
theorem f4_p : FdP (fdOf 62 3 (.str (S "cpy313.token") 2264) (.ref 126) 0) := @of_decide_eq_true _ (decFdP _) (by kernel_rfl)
theorem f4_ps : psOf (fdOf 62 3 (.str (S "cpy313.token") 2264) (.ref 126) 0) = [S "x"] := by kernel_rfl
theorem f4_b (v0 : Value) : bindArgs (fdOf 62 3 (.str (S "cpy313.token") 2264) (.ref 126) 0) ⟨[v0], []⟩ = pure [(S "x", v0)] := by kernel_rfl
theorem f5_at (P : Params) (u : Nat → Obj) : (HF P u).get? 134 = some (o134_0 P) := by kernel_rfl
theorem f5_code (P : Params) (u : Nat → Obj) : codeB ((HF P u).get? 133) (fdOf 63 3 (.str (S "cpy313.token") 2264) (.ref 133) 0).qualname = true := by kernel_rfl
theorem f5_fn : cFn G (fdOf 63 3 (.str (S "cpy313.token") 2264) (.ref 133) 0) = some W1.fn5 := by kernel_rfl
theorem f5_p : FdP (fdOf 63 3 (.str (S "cpy313.token") 2264) (.ref 133) 0) := @of_decide_eq_true _ (decFdP _) (by kernel_rfl)
theorem f5_ps : psOf (fdOf 63 3 (.str (S "cpy313.token") 2264) (.ref 133) 0) = [S "x"] := by kernel_rfl
theorem f5_b (v0 : Value) : bindArgs (fdOf 63 3 (.str (S "cpy313.token") 2264) (.ref 133) 0) ⟨[v0], []⟩ = pure [(S "x", v0)] := by kernel_rfl
theorem f6_at (P : Params) (u : Nat → Obj) : (HF P u).get? 141 = some (o141_0 P) := by kernel_rfl
theorem f6_code (P : Params) (u : Nat → Obj) : codeB ((HF P u).get? 140) (fdOf 65 3 (.str (S "law_wf0082_01") 2484) (.ref 140) 0).qualname = true := by kernel_rfl
theorem f6_fn : cFn G (fdOf 65 3 (.str (S "law_wf0082_01") 2484) (.ref 140) 0) = some W1.fn6 := by kernel_rfl
theorem f6_p : FdP (fdOf 65 3 (.str (S "law_wf0082_01") 2484) (.ref 140) 0) := @of_decide_eq_true _ (decFdP _) (by kernel_rfl)
theorem f6_ps : psOf (fdOf 65 3 (.str (S "law_wf0082_01") 2484) (.ref 140) 0) = [S "script"] := by kernel_rfl
theorem f6_b (v0 : Value) : bindArgs (fdOf 65 3 (.str (S "law_wf0082_01") 2484) (.ref 140) 0) ⟨[v0], []⟩ = pure [(S "script", v0)] := by kernel_rfl
theorem f7_at (P : Params) (u : Nat → Obj) : (HF P u).get? 148 = some (o148_0 P) := by kernel_rfl
theorem f7_code (P : Params) (u : Nat → Obj) : codeB ((HF P u).get? 147) (fdOf 66 3 (.str (S "law_wf0082_01") 2484) (.ref 147) 0).qualname = true := by kernel_rfl
theorem f7_fn : cFn G (fdOf 66 3 (.str (S "law_wf0082_01") 2484) (.ref 147) 0) = some W1.fn7 := by kernel_rfl
theorem f7_p : FdP (fdOf 66 3 (.str (S "law_wf0082_01") 2484) (.ref 147) 0) := @of_decide_eq_true _ (decFdP _) (by kernel_rfl)
theorem f7_ps : psOf (fdOf 66 3 (.str (S "law_wf0082_01") 2484) (.ref 147) 0) = [S "letter", S "place", S "figure"] := by kernel_rfl
theorem f7_b (v0 v1 v2 : Value) : bindArgs (fdOf 66 3 (.str (S "law_wf0082_01") 2484) (.ref 147) 0) ⟨[v0, v1, v2], []⟩ = pure [(S "letter", v0), (S "place", v1), (S "figure", v2)] := by kernel_rfl
theorem f8_at (P : Params) (u : Nat → Obj) : (HF P u).get? 155 = some (o155_0 P) := by kernel_rfl
theorem f8_code (P : Params) (u : Nat → Obj) : codeB ((HF P u).get? 154) (fdOf 67 3 (.str (S "law_wf0082_01") 2484) (.ref 154) 0).qualname = true := by kernel_rfl
theorem f8_fn : cFn G (fdOf 67 3 (.str (S "law_wf0082_01") 2484) (.ref 154) 0) = some W1.fn8 := by kernel_rfl
theorem f8_p : FdP (fdOf 67 3 (.str (S "law_wf0082_01") 2484) (.ref 154) 0) := @of_decide_eq_true _ (decFdP _) (by kernel_rfl)
theorem f8_ps : psOf (fdOf 67 3 (.str (S "law_wf0082_01") 2484) (.ref 154) 0) = [S "word", S "seed"] := by kernel_rfl
theorem f8_b (v0 v1 : Value) : bindArgs (fdOf 67 3 (.str (S "law_wf0082_01") 2484) (.ref 154) 0) ⟨[v0, v1], []⟩ = pure [(S "word", v0), (S "seed", v1)] := by kernel_rfl
theorem f9_at (P : Params) (u : Nat → Obj) : (HF P u).get? 162 = some (o162_0 P) := by kernel_rfl
theorem f9_code (P : Params) (u : Nat → Obj) : codeB ((HF P u).get? 161) (fdOf 68 3 (.str (S "law_wf0082_01") 2484) (.ref 161) 0).qualname = true := by kernel_rfl
theorem f9_fn : cFn G (fdOf 68 3 (.str (S "law_wf0082_01") 2484) (.ref 161) 0) = some W1.fn9 := by kernel_rfl
theorem f9_p : FdP (fdOf 68 3 (.str (S "law_wf0082_01") 2484) (.ref 161) 0) := @of_decide_eq_true _ (decFdP _) (by kernel_rfl)
theorem f9_ps : psOf (fdOf 68 3 (.str (S "law_wf0082_01") 2484) (.ref 161) 0) = [S "word", S "place", S "turned"] := by kernel_rfl
theorem f9_b (v0 v1 v2 : Value) : bindArgs (fdOf 68 3 (.str (S "law_wf0082_01") 2484) (.ref 161) 0) ⟨[v0, v1, v2], []⟩ = pure [(S "word", v0), (S "place", v1), (S "turned", v2)] := by kernel_rfl
theorem f10_at (P : Params) (u : Nat → Obj) : (HF P u).get? 169 = some (o169_0 P) := by kernel_rfl
theorem f10_code (P : Params) (u : Nat → Obj) : codeB ((HF P u).get? 168) (fdOf 69 3 (.str (S "law_wf0082_01") 2484) (.ref 168) 0).qualname = true := by kernel_rfl
theorem f10_fn : cFn G (fdOf 69 3 (.str (S "law_wf0082_01") 2484) (.ref 168) 0) = some W1.fn10 := by kernel_rfl
theorem f10_p : FdP (fdOf 69 3 (.str (S "law_wf0082_01") 2484) (.ref 168) 0) := @of_decide_eq_true _ (decFdP _) (by kernel_rfl)
theorem f10_ps : psOf (fdOf 69 3 (.str (S "law_wf0082_01") 2484) (.ref 168) 0) = [S "word", S "rounds", S "place"] := by kernel_rfl
theorem f10_b (v0 v1 v2 : Value) : bindArgs (fdOf 69 3 (.str (S "law_wf0082_01") 2484) (.ref 168) 0) ⟨[v0, v1, v2], []⟩ = pure [(S "word", v0), (S "rounds", v1), (S "place", v2)] := by kernel_rfl
theorem f11_at (P : Params) (u : Nat → Obj) : (HF P u).get? 176 = some (o176_0 P) := by kernel_rfl
theorem f11_code (P : Params) (u : Nat → Obj) : codeB ((HF P u).get? 175) (fdOf 70 3 (.str (S "law_wf0082_01") 2484) (.ref 175) 0).qualname = true := by kernel_rfl
theorem f11_fn : cFn G (fdOf 70 3 (.str (S "law_wf0082_01") 2484) (.ref 175) 0) = some W1.fn11 := by kernel_rfl
theorem f11_p : FdP (fdOf 70 3 (.str (S "law_wf0082_01") 2484) (.ref 175) 0) := @of_decide_eq_true _ (decFdP _) (by kernel_rfl)
theorem f11_ps : psOf (fdOf 70 3 (.str (S "law_wf0082_01") 2484) (.ref 175) 0) = [S "text"] := by kernel_rfl
theorem f11_b (v0 : Value) : bindArgs (fdOf 70 3 (.str (S "law_wf0082_01") 2484) (.ref 175) 0) ⟨[v0], []⟩ = pure [(S "text", v0)] := by kernel_rfl
theorem f12_at (P : Params) (u : Nat → Obj) : (HF P u).get? 183 = some (o183_0 P) := by kernel_rfl
theorem f12_code (P : Params) (u : Nat → Obj) : codeB ((HF P u).get? 182) (fdOf 71 3 (.str (S "law_wf0082_01") 2484) (.ref 182) 0).qualname = true := by kernel_rfl
theorem f12_fn : cFn G (fdOf 71 3 (.str (S "law_wf0082_01") 2484) (.ref 182) 0) = some W1.fn12 := by kernel_rfl
theorem f12_p : FdP (fdOf 71 3 (.str (S "law_wf0082_01") 2484) (.ref 182) 0) := @of_decide_eq_true _ (decFdP _) (by kernel_rfl)
theorem f12_ps : psOf (fdOf 71 3 (.str (S "law_wf0082_01") 2484) (.ref 182) 0) = [S "word", S "rounds", S "place"] := by kernel_rfl
theorem f12_b (v0 v1 v2 : Value) : bindArgs (fdOf 71 3 (.str (S "law_wf0082_01") 2484) (.ref 182) 0) ⟨[v0, v1, v2], []⟩ = pure [(S "word", v0), (S "rounds", v1), (S "place", v2)] := by kernel_rfl
theorem f13_at (P : Params) (u : Nat → Obj) : (HF P u).get? 190 = some (o190_0 P) := by kernel_rfl
theorem f13_code (P : Params) (u : Nat → Obj) : codeB ((HF P u).get? 189) (fdOf 72 3 (.str (S "law_wf0082_01") 2484) (.ref 189) 0).qualname = true := by kernel_rfl
theorem f13_fn : cFn G (fdOf 72 3 (.str (S "law_wf0082_01") 2484) (.ref 189) 0) = some W1.fn13 := by kernel_rfl
theorem f13_p : FdP (fdOf 72 3 (.str (S "law_wf0082_01") 2484) (.ref 189) 0) := @of_decide_eq_true _ (decFdP _) (by kernel_rfl)
theorem f13_ps : psOf (fdOf 72 3 (.str (S "law_wf0082_01") 2484) (.ref 189) 0) = [S "number"] := by kernel_rfl
theorem f13_b (v0 : Value) : bindArgs (fdOf 72 3 (.str (S "law_wf0082_01") 2484) (.ref 189) 0) ⟨[v0], []⟩ = pure [(S "number", v0)] := by kernel_rfl
theorem f14_at (P : Params) (u : Nat → Obj) : (HF P u).get? 195 = some (o195_0 P) := by kernel_rfl
theorem f14_code (P : Params) (u : Nat → Obj) : codeB ((HF P u).get? 194) (fdOf 73 3 (.str (S "law_wf0082_01") 2484) (.ref 194) 0).qualname = true := by kernel_rfl
theorem f14_fn : cFn G (fdOf 73 3 (.str (S "law_wf0082_01") 2484) (.ref 194) 0) = some W1.fn14 := by kernel_rfl
theorem f14_p : FdP (fdOf 73 3 (.str (S "law_wf0082_01") 2484) (.ref 194) 0) := @of_decide_eq_true _ (decFdP _) (by kernel_rfl)
theorem f14_ps : psOf (fdOf 73 3 (.str (S "law_wf0082_01") 2484) (.ref 194) 0) = [S "grown", S "letter"] := by kernel_rfl
theorem f14_b (v0 v1 : Value) : bindArgs (fdOf 73 3 (.str (S "law_wf0082_01") 2484) (.ref 194) 0) ⟨[v0, v1], []⟩ = pure [(S "grown", v0), (S "letter", v1)] := by kernel_rfl
theorem f15_at (P : Params) (u : Nat → Obj) : (HF P u).get? 202 = some (o202_0 P) := by kernel_rfl
theorem f15_code (P : Params) (u : Nat → Obj) : codeB ((HF P u).get? 201) (fdOf 74 3 (.str (S "law_wf0082_01") 2484) (.ref 201) 0).qualname = true := by kernel_rfl
theorem f15_fn : cFn G (fdOf 74 3 (.str (S "law_wf0082_01") 2484) (.ref 201) 0) = some W1.fn15 := by kernel_rfl
theorem f15_p : FdP (fdOf 74 3 (.str (S "law_wf0082_01") 2484) (.ref 201) 0) := @of_decide_eq_true _ (decFdP _) (by kernel_rfl)
theorem f15_ps : psOf (fdOf 74 3 (.str (S "law_wf0082_01") 2484) (.ref 201) 0) = [S "grown"] := by kernel_rfl
theorem f15_b (v0 : Value) : bindArgs (fdOf 74 3 (.str (S "law_wf0082_01") 2484) (.ref 201) 0) ⟨[v0], []⟩ = pure [(S "grown", v0)] := by kernel_rfl
theorem f16_at (P : Params) (u : Nat → Obj) : (HF P u).get? 207 = some (o207_0 P) := by kernel_rfl
theorem f16_code (P : Params) (u : Nat → Obj) : codeB ((HF P u).get? 206) (fdOf 75 3 (.str (S "law_wf0082_01") 2484) (.ref 206) 0).qualname = true := by kernel_rfl
theorem f16_fn : cFn G (fdOf 75 3 (.str (S "law_wf0082_01") 2484) (.ref 206) 0) = some W1.fn16 := by kernel_rfl
theorem f16_p : FdP (fdOf 75 3 (.str (S "law_wf0082_01") 2484) (.ref 206) 0) := @of_decide_eq_true _ (decFdP _) (by kernel_rfl)
theorem f16_ps : psOf (fdOf 75 3 (.str (S "law_wf0082_01") 2484) (.ref 206) 0) = [S "script"] := by kernel_rfl
theorem f16_b (v0 : Value) : bindArgs (fdOf 75 3 (.str (S "law_wf0082_01") 2484) (.ref 206) 0) ⟨[v0], []⟩ = pure [(S "script", v0)] := by kernel_rfl

variable {w : World} {h : Heap} {mg mb : Str → Option Value} {u : Nat → Obj}
noncomputable def base (w : World) (h : Heap) (mg mb : Str → Option Value) : Base := { prog := pw, w, T := T0 L3, h₀ := h, mg, mb, at' := fun f => addrs[f]? }
theorem mg_is (hg : h.Ns mainGlobals mg) (hy : ∀ b o, (HF w.params u).get? b = some o → h.get? b = some o) (n : Str) : mg n = nsFind (e3_11 w.params).toArray n := by
  obtain ⟨o, es, ep, ho, hd, _, hf⟩ := hg
  have := hy 3 _ (main_at w.params u)
  rw [show mainGlobals = 3 from rfl, this] at ho
  cases ho
  cases hd
  exact (hf n).symm
theorem base_ok (hg : h.Ns mainGlobals mg) (hb : h.Ns builtinsNs mb) (hbu : ∀ x : Str, x ≠ "__name__" → mb x = bootBuiltins x) (hnl : h.NoLimit) : BOk (base w h mg mb) := ⟨hg, hb, hbu, hnl⟩
theorem tab_ok (hg : h.Ns mainGlobals mg) (hu : DObj (u b3lo) L3) (hy : ∀ b o, (HF w.params u).get? b = some o → h.get? b = some o) : TabOk (base w h mg mb) := by
  refine ⟨?_, ?_, ?_⟩
  · obtain ⟨n, hS⟩ := set_ok (prog := pw) (w := w) (hy _ _ (b1_at w.params u)) (b1_ex w.params u) (b1_sh w.params u) (b1_keys w.params u) (b1_fit w.params u)
    exact ⟨22, n, (mg_is hg hy _).trans (n_b1_set w.params), hS⟩
  · have hget : (HF w.params u).get? 33 = some (u b3lo) := by
      obtain ⟨es, ep, e, _⟩ := hu
      have e' := b3_get w.params u
      rw [show u 33 = u b3lo from rfl] at e'
      rw [e] at e' ⊢
      unfold Heap.get?
      rw [e']
    obtain ⟨f, hM, hf⟩ := b3_ok (prog := pw) (w := w) (hy _ _ hget) hu b3_size
    exact ⟨33, f, (mg_is hg hy _).trans (n_b3_exceptions w.params), rfl, hM, hf⟩
  · obtain ⟨f, hM, hf⟩ := tok_ok (prog := pw) (w := w) (hy _ _ (tk_at w.params u)) (tk_ex w.params u) (tk_is w.params u) (tk_sh w u) (tk_keys w.params u)
    exact ⟨111, f, (mg_is hg hy _).trans (n_EXACT_TOKEN_TYPES w.params), rfl, hM, hf⟩
theorem gl_ok (hg : h.Ns mainGlobals mg) (hy : ∀ b o, (HF w.params u).get? b = some o → h.get? b = some o) : GlOk (base w h mg mb) G := by
  refine gl_of (es := (e3_11 w.params).toArray) (addrs := addrs) (fun n => mg_is hg hy n) rfl (glb w.params) (bare w.params) fun f a ha => ?_
  match f, ha with

  | 0, ha => cases ha; exact ⟨_, _, hy _ _ (f0_at w.params u), rfl⟩
  | 1, ha => cases ha; exact ⟨_, _, hy _ _ (f1_at w.params u), rfl⟩
  | 2, ha => cases ha; exact ⟨_, _, hy _ _ (f2_at w.params u), rfl⟩
  | 3, ha => cases ha; exact ⟨_, _, hy _ _ (f3_at w.params u), rfl⟩
  | 4, ha => cases ha; exact ⟨_, _, hy _ _ (f4_at w.params u), rfl⟩
  | 5, ha => cases ha; exact ⟨_, _, hy _ _ (f5_at w.params u), rfl⟩
  | 6, ha => cases ha; exact ⟨_, _, hy _ _ (f6_at w.params u), rfl⟩
  | 7, ha => cases ha; exact ⟨_, _, hy _ _ (f7_at w.params u), rfl⟩
  | 8, ha => cases ha; exact ⟨_, _, hy _ _ (f8_at w.params u), rfl⟩
  | 9, ha => cases ha; exact ⟨_, _, hy _ _ (f9_at w.params u), rfl⟩
  | 10, ha => cases ha; exact ⟨_, _, hy _ _ (f10_at w.params u), rfl⟩
  | 11, ha => cases ha; exact ⟨_, _, hy _ _ (f11_at w.params u), rfl⟩
  | 12, ha => cases ha; exact ⟨_, _, hy _ _ (f12_at w.params u), rfl⟩
  | 13, ha => cases ha; exact ⟨_, _, hy _ _ (f13_at w.params u), rfl⟩
  | 14, ha => cases ha; exact ⟨_, _, hy _ _ (f14_at w.params u), rfl⟩
  | 15, ha => cases ha; exact ⟨_, _, hy _ _ (f15_at w.params u), rfl⟩
  | 16, ha => cases ha; exact ⟨_, _, hy _ _ (f16_at w.params u), rfl⟩
  | n + 17, ha => exact absurd ha (by simp [addrs])
theorem fn_ok (hg : h.Ns mainGlobals mg) (hb : h.Ns builtinsNs mb) (hbu : ∀ x : Str, x ≠ "__name__" → mb x = bootBuiltins x) (hnl : h.NoLimit) (hu : DObj (u b3lo) L3) (hy : ∀ b o, (HF w.params u).get? b = some o → h.get? b = some o) :
    ∀ (f : Nat) (fn : Fn) (a : Addr), W1.fns[f]? = some fn → (base w h mg mb).at' f = some a → ∃ fd cx ps body, FnOk (base w h mg mb) fd a cx ps fn body := fun f fn a hf ha => by
  have hB := base_ok (w := w) hg hb hbu hnl
  have hT := tab_ok (w := w) (mb := mb) hg hu hy
  have hG := gl_ok (w := w) (mb := mb) hg hy
  match f, hf, ha with
  | 0, hf, ha => cases hf; cases ha; exact fnOk_of hB hT hG ⟨_, hy _ _ (f0_at w.params u), rfl⟩ (codeB_ok (f0_code w.params u) hy) rfl rfl rfl f0_fn f0_p (bind_of1 f0_ps f0_b)
  | 1, hf, ha => cases hf; cases ha; exact fnOk_of hB hT hG ⟨_, hy _ _ (f1_at w.params u), rfl⟩ (codeB_ok (f1_code w.params u) hy) rfl rfl rfl f1_fn f1_p (bind_of1 f1_ps f1_b)
  | 2, hf, ha => cases hf; cases ha; exact fnOk_of hB hT hG ⟨_, hy _ _ (f2_at w.params u), rfl⟩ (codeB_ok (f2_code w.params u) hy) rfl rfl rfl f2_fn f2_p (bind_of1 f2_ps f2_b)
  | 3, hf, ha => cases hf; cases ha; exact fnOk_of hB hT hG ⟨_, hy _ _ (f3_at w.params u), rfl⟩ (codeB_ok (f3_code w.params u) hy) rfl rfl rfl f3_fn f3_p (bind_of1 f3_ps f3_b)
  | 4, hf, ha => cases hf; cases ha; exact fnOk_of hB hT hG ⟨_, hy _ _ (f4_at w.params u), rfl⟩ (codeB_ok (f4_code w.params u) hy) rfl rfl rfl f4_fn f4_p (bind_of1 f4_ps f4_b)
  | 5, hf, ha => cases hf; cases ha; exact fnOk_of hB hT hG ⟨_, hy _ _ (f5_at w.params u), rfl⟩ (codeB_ok (f5_code w.params u) hy) rfl rfl rfl f5_fn f5_p (bind_of1 f5_ps f5_b)
  | 6, hf, ha => cases hf; cases ha; exact fnOk_of hB hT hG ⟨_, hy _ _ (f6_at w.params u), rfl⟩ (codeB_ok (f6_code w.params u) hy) rfl rfl rfl f6_fn f6_p (bind_of1 f6_ps f6_b)
  | 7, hf, ha => cases hf; cases ha; exact fnOk_of hB hT hG ⟨_, hy _ _ (f7_at w.params u), rfl⟩ (codeB_ok (f7_code w.params u) hy) rfl rfl rfl f7_fn f7_p (bind_of3 f7_ps f7_b)
  | 8, hf, ha => cases hf; cases ha; exact fnOk_of hB hT hG ⟨_, hy _ _ (f8_at w.params u), rfl⟩ (codeB_ok (f8_code w.params u) hy) rfl rfl rfl f8_fn f8_p (bind_of2 f8_ps f8_b)
  | 9, hf, ha => cases hf; cases ha; exact fnOk_of hB hT hG ⟨_, hy _ _ (f9_at w.params u), rfl⟩ (codeB_ok (f9_code w.params u) hy) rfl rfl rfl f9_fn f9_p (bind_of3 f9_ps f9_b)
  | 10, hf, ha => cases hf; cases ha; exact fnOk_of hB hT hG ⟨_, hy _ _ (f10_at w.params u), rfl⟩ (codeB_ok (f10_code w.params u) hy) rfl rfl rfl f10_fn f10_p (bind_of3 f10_ps f10_b)
  | 11, hf, ha => cases hf; cases ha; exact fnOk_of hB hT hG ⟨_, hy _ _ (f11_at w.params u), rfl⟩ (codeB_ok (f11_code w.params u) hy) rfl rfl rfl f11_fn f11_p (bind_of1 f11_ps f11_b)
  | 12, hf, ha => cases hf; cases ha; exact fnOk_of hB hT hG ⟨_, hy _ _ (f12_at w.params u), rfl⟩ (codeB_ok (f12_code w.params u) hy) rfl rfl rfl f12_fn f12_p (bind_of3 f12_ps f12_b)
  | 13, hf, ha => cases hf; cases ha; exact fnOk_of hB hT hG ⟨_, hy _ _ (f13_at w.params u), rfl⟩ (codeB_ok (f13_code w.params u) hy) rfl rfl rfl f13_fn f13_p (bind_of1 f13_ps f13_b)
  | 14, hf, ha => cases hf; cases ha; exact fnOk_of hB hT hG ⟨_, hy _ _ (f14_at w.params u), rfl⟩ (codeB_ok (f14_code w.params u) hy) rfl rfl rfl f14_fn f14_p (bind_of2 f14_ps f14_b)
  | 15, hf, ha => cases hf; cases ha; exact fnOk_of hB hT hG ⟨_, hy _ _ (f15_at w.params u), rfl⟩ (codeB_ok (f15_code w.params u) hy) rfl rfl rfl f15_fn f15_p (bind_of1 f15_ps f15_b)
  | 16, hf, ha => cases hf; cases ha; exact fnOk_of hB hT hG ⟨_, hy _ _ (f16_at w.params u), rfl⟩ (codeB_ok (f16_code w.params u) hy) rfl rfl rfl f16_fn f16_p (bind_of1 f16_ps f16_b)
  | n + 17, hf, _ => exact absurd hf (by simp [W1.fns])
end P1
end
end Mine
end

section
set_option Elab.async false
set_option linter.unusedVariables false
set_option linter.unusedSimpArgs false
namespace Mine

namespace W1
section
variable (T : Tabs) (d : Nat) (σ : Store)

theorem isTerm (x : Int) : callD T fns (d + 1) 3 [.int x] σ = some (.bool (decide (x < 256)), σ) := by
  simp [callD, fns, fn3, noLsts, noLst, exs, ex, ev, evB, giveBack, itemOf]
theorem isNon (x : Int) : callD T fns (d + 1) 4 [.int x] σ = some (.bool (decide (256 ≤ x)), σ) := by
  simp [callD, fns, fn4, noLsts, noLst, exs, ex, ev, evB, giveBack, itemOf]
theorem isEof (x : Int) : callD T fns (d + 1) 5 [.int x] σ = some (.bool (x == 0), σ) := by
  simp [callD, fns, fn5, noLsts, noLst, exs, ex, ev, evB, giveBack, itemOf]
end
end W1
end Mine
end

section
set_option Elab.async false
set_option linter.unusedVariables false
set_option linter.unusedSimpArgs false
namespace Mine
namespace W1

theorem place_nat {k n : Nat} (h : k < n) : place (k : Int) n = some k := by
  unfold place; rw [if_pos (by (first | lia | omega)), if_pos (by simpa using h)]; simp

/-- the places of a letter -/
noncomputable def plc (g : List Nat) (c : Nat) : List Nat := (List.range g.length).filter fun k => g[k]? == some c
noncomputable def topS (g : List Nat) (c : Nat) : Int := ((plc g c).getD ((plc g c).length - 2) 0 : Nat) + ((plc g c).getD ((plc g c).length - 1) 0 : Nat)
noncomputable def symS (g : List Nat) (c : Nat) (k : Nat) : Int := if g[k]? == some c then (k : Int) else k + topS g c
noncomputable def rowS (g : List Nat) (c : Nat) (k : Nat) : List Int := (List.range k).filterMap fun (j : Nat) => if symS g c j + symS g c k + 255 - topS g c < 256 then some ((j : Int) + k) else none
noncomputable def sumsS (g : List Nat) (c : Nat) : List Int := (List.range g.length).flatMap (rowS g c)

section
variable (T : Tabs) (d : Nat) (σ : Store)
theorem strItem (g : List Nat) (j : Nat) (h : j < g.length) (τ : Store) : evB .item (.str g) (.int j) τ = some (.str [g[j]], τ) := by
  simp [evB, place_nat h, h, itemOf]
theorem lstItem (xs : List V) (n j : Nat) (τ : Store) (hx : τ[n]? = some xs) (h : j < xs.length) : evB .item (.lst n) (.int j) τ = some (xs[j], τ) := by
  simp [evB, hx, place_nat h, h, itemOf]

theorem places_ok (C : Calls) (g : List Nat) (c : Nat) (r : REnv) (hr : r.length = 7) (hg : g.length ≤ 1000) (τ : Store) :
    ev T C (some (.str g) :: some (.str [c]) :: r) τ (Ex.compIf (Ex.un (Uop.range) (Ex.un (Uop.len) (Ex.var 0))) (Ex.bin (Bop.eq) (Ex.bin (Bop.item) (Ex.var 0) (Ex.var 9)) (Ex.var 1)) (Ex.var 9)) = some (.lst τ.length, τ ++ [(plc g c).map fun k => .int k]) := by
  have hv : ∀ v : V, ((some (V.str g) :: some (V.str [c]) :: r) ++ [some v])[9]? = some (some v) := fun v => by
    rw [List.getElem?_append_right (by simp [hr])]; simp [hr]
  have hloop := comp_range (n := g.length) (σ := τ) (f := cIf T C (some (.str g) :: some (.str [c]) :: r) (Ex.bin (Bop.eq) (Ex.bin (Bop.item) (Ex.var 0) (Ex.var 9)) (Ex.var 1)) (Ex.var 9)) (fun j => if g[j]? == some c then some (.int j) else none) (fun j hj => by
      have e : ev T C ((some (V.str g) :: some (V.str [c]) :: r) ++ [some (.int j)]) τ (Ex.bin (Bop.eq) (Ex.bin (Bop.item) (Ex.var 0) (Ex.var 9)) (Ex.var 1)) = some (.bool (g[j]? == some c), τ) := by
        simp only [ev, hv, List.cons_append, List.getElem?_cons_zero, List.getElem?_cons_succ]
        rw [show (r ++ [some (V.int j)])[7]? = some (some (.int j)) by rw [List.getElem?_append_right (by (first | lia | omega))]; simp [hr]]
        simp only [strItem g j hj]
        simp [evB, hj, itemOf]
      cases hb : (g[j]? == some c) with
      | true => rw [hb] at e; rw [cIf_true e (y := .int j) (τ₂ := τ) (by simp only [ev, hv])]; simp
      | false => rw [hb] at e; rw [cIf_false e]; simp)
  have hrange : ev T C (some (.str g) :: some (.str [c]) :: r) τ (Ex.un (Uop.range) (Ex.un (Uop.len) (Ex.var 0))) = some (.rng 0 1 g.length, τ) := by
    simp [ev, evU, itemOf]; (first | lia | omega)
  have hfm : (List.range g.length).filterMap (fun (j : Nat) => if g[j]? == some c then some (V.int j) else none) = (plc g c).map fun k => .int k := by
    unfold plc
    generalize List.range g.length = l
    induction l with
    | nil => rfl
    | cons a l ih =>
      rw [List.filterMap_cons, List.filter_cons]
      cases hb : (g[a]? == some c) with
      | true => simpa using ih
      | false => simpa using ih
  rw [hfm] at hloop
  have hlen : ((plc g c).map fun (k : Nat) => V.int k).length ≤ LIM := by
    have : (plc g c).length ≤ g.length := by unfold plc; exact Nat.le_trans (List.length_filter_le _ _) (by simp)
    have hL : LIM = 16777216 := rfl
    rw [List.length_map]; (first | lia | omega)
  exact ev_compIf_intro hrange rfl hloop hlen

noncomputable def symL (g : List Nat) (c : Nat) : List V := (List.range g.length).map fun (k : Nat) => V.int (symS g c k)
theorem symbols_ok (C : Calls) (g : List Nat) (c : Nat) (x2 x5 x6 x7 x8 : Option V) (x3 : Option V) (hg : g.length ≤ 1000) (τ : Store) :
    ev T C [some (.str g), some (.str [c]), x2, x3, some (.int (topS g c)), x5, x6, x7, x8] τ (Ex.comp (Ex.un (Uop.range) (Ex.un (Uop.len) (Ex.var 0))) (Ex.ite (Ex.bin (Bop.eq) (Ex.bin (Bop.item) (Ex.var 0) (Ex.var 9)) (Ex.var 1)) (Ex.var 9) (Ex.bin (Bop.add) (Ex.var 9) (Ex.var 4)))) = some (.lst τ.length, τ ++ [symL g c]) := by
  have hloop := comp_range (n := g.length) (σ := τ) (f := cF T C [some (.str g), some (.str [c]), x2, x3, some (.int (topS g c)), x5, x6, x7, x8] (Ex.ite (Ex.bin (Bop.eq) (Ex.bin (Bop.item) (Ex.var 0) (Ex.var 9)) (Ex.var 1)) (Ex.var 9) (Ex.bin (Bop.add) (Ex.var 9) (Ex.var 4)))) (fun j => some (.int (symS g c j))) (fun j hj => by
    refine cF_some ?_
    cases hb : (g[j] == c) with
    | true => simp [ev, evB, place_nat hj, hb, symS, hj, itemOf]
    | false => simp [ev, evB, place_nat hj, hb, symS, hj, itemOf])
  have hrange : ev T C [some (.str g), some (.str [c]), x2, x3, some (.int (topS g c)), x5, x6, x7, x8] τ (Ex.un (Uop.range) (Ex.un (Uop.len) (Ex.var 0))) = some (.rng 0 1 g.length, τ) := by
    simp [ev, evU, itemOf]; (first | lia | omega)
  have hfm : (List.range g.length).filterMap (fun (j : Nat) => some (V.int (symS g c j))) = symL g c := by
    unfold symL; rw [List.filterMap_eq_map']
  rw [hfm] at hloop
  have hlen : (symL g c).length ≤ LIM := by
    have hL : LIM = 16777216 := rfl
    unfold symL; rw [List.length_map, List.length_range]; (first | lia | omega)
  exact ev_comp_intro hrange rfl hloop hlen

theorem top_ok (C : Calls) (g : List Nat) (c : Nat) (h2 : 2 ≤ (plc g c).length) (x0 x1 x2 x4 x5 x6 x7 x8 : Option V) :
    ev T C [x0, x1, x2, some (.lst 0), x4, x5, x6, x7, x8] [(plc g c).map fun (k : Nat) => V.int k] (Ex.bin (Bop.add) (Ex.bin (Bop.item) (Ex.var 3) (Ex.un (Uop.neg) (Ex.int 2))) (Ex.bin (Bop.item) (Ex.var 3) (Ex.un (Uop.neg) (Ex.int 1)))) = some (.int (topS g c), [(plc g c).map fun (k : Nat) => V.int k]) := by
  unfold topS
  generalize plc g c = P at h2
  have p2 : place (-2) P.length = some (P.length - 2) := by unfold place; rw [if_neg (by decide), if_pos (by simp; (first | lia | omega))]; rfl
  have p1 : place (-1) P.length = some (P.length - 1) := by unfold place; rw [if_neg (by decide), if_pos (by simp; (first | lia | omega))]; rfl
  obtain ⟨a, q2⟩ : ∃ a, P[P.length - 2]? = some a := ⟨_, List.getElem?_eq_getElem (by (first | lia | omega))⟩
  obtain ⟨b, q1⟩ : ∃ b, P[P.length - 1]? = some b := ⟨_, List.getElem?_eq_getElem (by (first | lia | omega))⟩
  rw [List.getD_eq_getElem?_getD, List.getD_eq_getElem?_getD, q1, q2]
  simp [ev, evU, evB, p2, p1, q2, q1, itemOf]
end
end W1
end Mine
end

section
set_option Elab.async false
set_option linter.unusedVariables false
set_option linter.unusedSimpArgs false
namespace Mine
namespace W1
noncomputable def bodyJ : Sts := Sts.cons (St.set 8 (Ex.bin (Bop.sub) (Ex.bin (Bop.add) (Ex.bin (Bop.add) (Ex.bin (Bop.item) (Ex.var 5) (Ex.var 7)) (Ex.bin (Bop.item) (Ex.var 5) (Ex.var 2))) (Ex.int 255)) (Ex.var 4))) (Sts.cons (St.ite (Ex.and (Ex.bin (Bop.eq) (Ex.var 1) (Ex.str [104])) (Ex.bin (Bop.is) (Ex.call 3 (Exs.cons (Ex.var 8) (Exs.nil))) (Ex.bool true))) (Sts.cons (St.expr (Ex.bin (Bop.append) (Ex.var 6) (Ex.bin (Bop.add) (Ex.var 7) (Ex.var 2)))) (Sts.nil)) (Sts.nil)) (Sts.cons (St.ite (Ex.and (Ex.bin (Bop.eq) (Ex.var 1) (Ex.str [112])) (Ex.bin (Bop.is) (Ex.call 4 (Exs.cons (Ex.var 8) (Exs.nil))) (Ex.bool false))) (Sts.cons (St.expr (Ex.bin (Bop.append) (Ex.var 6) (Ex.bin (Bop.add) (Ex.var 7) (Ex.var 2)))) (Sts.nil)) (Sts.nil)) (Sts.nil)))

section
variable (T : Tabs) (C : Calls) (h3 : ∀ x σ, C 3 [.int x] σ = some (.bool (decide (x < 256)), σ)) (h4 : ∀ x σ, C 4 [.int x] σ = some (.bool (decide (256 ≤ x)), σ))
  (g : List Nat) (c : Nat) (hc : c = 104 ∨ c = 112) (P : List V)
include h3 h4 hc
theorem turnJ {k j : Nat} (hk : k < g.length) (hj : j < g.length) (acc : List V) (ha : acc.length < LIM) (x8 : Option V) :
    ∃ x8', exs T C [some (.str g), some (.str [c]), some (.int k), some (.lst 0), some (.int (topS g c)), some (.lst 1), some (.lst 2), some (.int j), x8] [P, symL g c, acc] bodyJ =
      some (.next, [some (.str g), some (.str [c]), some (.int k), some (.lst 0), some (.int (topS g c)), some (.lst 1), some (.lst 2), some (.int j), x8'],
        [P, symL g c, if symS g c j + symS g c k + 255 - topS g c < 256 then acc ++ [.int ((j : Int) + k)] else acc]) := by
  have hl : (symL g c).length = g.length := by simp [symL]
  have g1 : (symL g c)[j]? = some (.int (symS g c j)) := by simp [symL, hj]
  have g2 : (symL g c)[k]? = some (.int (symS g c k)) := by simp [symL, hk]
  have p1 : place (j : Int) (symL g c).length = some j := place_nat (by rw [hl]; exact hj)
  have p2 : place (k : Int) (symL g c).length = some k := place_nat (by rw [hl]; exact hk)
  refine ⟨some (.int (symS g c j + symS g c k + 255 - topS g c)), ?_⟩
  rcases hc with rfl | rfl
  · by_cases hb : symS g 104 j + symS g 104 k + 255 - topS g 104 < 256
    · simp [bodyJ, exs, ex, ev, evs, evB, p1, p2, g1, g2, h3, h4, hb, ha, itemOf]
    · simp [bodyJ, exs, ex, ev, evs, evB, p1, p2, g1, g2, h3, h4, hb, ha, itemOf]
  · by_cases hb : symS g 112 j + symS g 112 k + 255 - topS g 112 < 256
    · have hb' : ¬ 256 ≤ symS g 112 j + symS g 112 k + 255 - topS g 112 := by (first | lia | omega)
      simp [bodyJ, exs, ex, ev, evs, evB, p1, p2, g1, g2, h3, h4, hb, hb', ha, itemOf]
    · have hb' : 256 ≤ symS g 112 j + symS g 112 k + 255 - topS g 112 := by (first | lia | omega)
      simp [bodyJ, exs, ex, ev, evs, evB, p1, p2, g1, g2, h3, h4, hb, hb', ha, itemOf]

noncomputable def rowT (g : List Nat) (c k m : Nat) : List Int := (List.range m).filterMap fun (j : Nat) => if symS g c j + symS g c k + 255 - topS g c < 256 then some ((j : Int) + k) else none
omit h3 h4 hc in
theorem rowT_succ (k m : Nat) : rowT g c k (m + 1) = rowT g c k m ++ (if symS g c m + symS g c k + 255 - topS g c < 256 then [(m : Int) + k] else []) := by
  unfold rowT
  rw [List.range_succ, List.filterMap_append]
  congr 1
  by_cases h : symS g c m + symS g c k + 255 - topS g c < 256 <;> simp [h]
omit h3 h4 hc in
theorem rowT_len (k m : Nat) : (rowT g c k m).length ≤ m := by
  unfold rowT; exact Nat.le_trans (List.length_filterMap_le _ _) (by simp)
noncomputable abbrev envS (k x7 x8 : Option V) : REnv := [some (.str g), some (.str [c]), k, some (.lst 0), some (.int (topS g c)), some (.lst 1), some (.lst 2), x7, x8]
theorem rowLoop {k : Nat} (hk : k < g.length) (acc : List V) (ha : acc.length + k < LIM) (x7 x8 : Option V) :
    ∃ x7' x8', exLoop (.fix (rangeL 0 1 k)) (fun v ρ σ => exs T C (ρ.set 7 (some v)) σ bodyJ) ((rangeL 0 1 k).length + 1) 0 (envS g c (some (.int k)) x7 x8) [P, symL g c, acc] =
      some (.next, envS g c (some (.int k)) x7' x8', [P, symL g c, acc ++ (rowS g c k).map .int]) := by
  obtain ⟨ρ', σ', h1, y7, y8, rfl, rfl⟩ := for_range (n := k) (f := fun v ρ σ => exs T C (ρ.set 7 (some v)) σ bodyJ) (fun m ρ σ => ∃ x7 x8, ρ = envS g c (some (.int k)) x7 x8 ∧ σ = [P, symL g c, acc ++ (rowT g c k m).map .int])
    (ρ := envS g c (some (.int k)) x7 x8) (σ := [P, symL g c, acc]) ⟨x7, x8, rfl, by simp [rowT]⟩ (fun m ρ σ hm hI => by
      obtain ⟨x7, x8, rfl, rfl⟩ := hI
      have hlen := rowT_len g c k m
      obtain ⟨x8', hx⟩ := turnJ T C h3 h4 g c hc P hk (show m < g.length by (first | lia | omega)) (acc ++ (rowT g c k m).map .int) (by rw [List.length_append, List.length_map]; (first | lia | omega)) x8
      refine ⟨_, _, hx, _, _, rfl, ?_⟩
      rw [rowT_succ]
      by_cases h : symS g c m + symS g c k + 255 - topS g c < 256 <;> simp [h])
  exact ⟨y7, y8, h1⟩

noncomputable def bodyK : Sts := Sts.cons (St.forIn 7 (Ex.un (Uop.range) (Ex.var 2)) bodyJ) Sts.nil
theorem rowsLoop (hg : g.length ≤ 100) (x2 x7 x8 : Option V) :
    ∃ x2' x7' x8', exLoop (.fix (rangeL 0 1 g.length)) (fun v ρ σ => exs T C (ρ.set 2 (some v)) σ bodyK) ((rangeL 0 1 g.length).length + 1) 0 (envS g c x2 x7 x8) [P, symL g c, []] =
      some (.next, envS g c x2' x7' x8', [P, symL g c, (sumsS g c).map .int]) := by
  have hL : LIM = 16777216 := rfl
  obtain ⟨ρ', σ', h1, y2, y7, y8, rfl, rfl, _⟩ := for_range (n := g.length) (f := fun v ρ σ => exs T C (ρ.set 2 (some v)) σ bodyK) (fun m ρ σ => ∃ x2 x7 x8, ρ = envS g c x2 x7 x8 ∧ σ = [P, symL g c, ((List.range m).flatMap (rowS g c)).map .int] ∧ ((List.range m).flatMap (rowS g c)).length ≤ 100 * m)
    (ρ := envS g c x2 x7 x8) (σ := [P, symL g c, []]) ⟨x2, x7, x8, rfl, by simp, by simp⟩ (fun m ρ σ hm hI => by
      obtain ⟨x2, x7, x8, rfl, rfl, hlen⟩ := hI
      obtain ⟨z7, z8, hx⟩ := rowLoop T C h3 h4 g c hc P hm (((List.range m).flatMap (rowS g c)).map .int) (by rw [List.length_map]; (first | lia | omega)) x7 x8
      refine ⟨envS g c (some (.int m)) z7 z8, _, ?_, _, _, _, rfl, rfl, ?_⟩
      · have hr : ev T C (envS g c (some (.int m)) x7 x8) [P, symL g c, ((List.range m).flatMap (rowS g c)).map .int] (Ex.un (Uop.range) (Ex.var 2)) = some (.rng 0 1 m, [P, symL g c, ((List.range m).flatMap (rowS g c)).map .int]) := by
          simp [ev, evU, itemOf]; (first | lia | omega)
        show exs T C (envS g c (some (.int m)) x7 x8) _ bodyK = _
        rw [bodyK, exs, ex, hr]
        simp only [srcOf]
        have hfu : Src.fuel (.fix (rangeL 0 1 m)) = (rangeL 0 1 m).length + 1 := rfl
        rw [hfu, hx]
        simp only [exs]
        rw [List.range_succ, List.flatMap_append]
        simp
      · have h2 : (rowS g c m).length ≤ m := rowT_len g c m m
        rw [List.range_succ, List.flatMap_append, List.length_append]
        simp only [List.flatMap_cons, List.flatMap_nil, List.append_nil]
        (first | lia | omega))
  exact ⟨y2, y7, y8, h1⟩
end

theorem noLsts_ints (l : List Int) : noLsts (l.map V.int) = true := by
  induction l with
  | nil => rfl
  | cons a l ih => simp [noLsts, noLst, ih]
theorem sums_ok (T : Tabs) (d : Nat) (g : List Nat) (c : Nat) (hc : c = 104 ∨ c = 112) (hg : g.length ≤ 100) (h2 : 2 ≤ (plc g c).length) (σ : Store) :
    callD T fns (d + 2) 14 [.str g, .str [c]] σ = some (.lst σ.length, σ ++ [(sumsS g c).map .int]) := by
  have h3 : ∀ x σ, callD T fns (d + 1) 3 [.int x] σ = some (.bool (decide (x < 256)), σ) := fun x σ => isTerm T d σ x
  have h4 : ∀ x σ, callD T fns (d + 1) 4 [.int x] σ = some (.bool (decide (256 ≤ x)), σ) := fun x σ => isNon T d σ x
  have hp := places_ok T (callD T fns (d + 1)) g c (List.replicate 7 none) rfl (by (first | lia | omega)) []
  have ht := top_ok T (callD T fns (d + 1)) g c h2 (some (.str g)) (some (.str [c])) none none none none none none
  have hs := symbols_ok T (callD T fns (d + 1)) g c none none none none none (some (.lst 0)) (by (first | lia | omega)) [(plc g c).map fun (k : Nat) => V.int k]
  obtain ⟨y2, y7, y8, hloop⟩ := rowsLoop T (callD T fns (d + 1)) h3 h4 g c hc ((plc g c).map fun (k : Nat) => V.int k) hg none none none
  have hbody : ∃ ρ', exs T (callD T fns (d + 1)) [some (.str g), some (.str [c]), none, none, none, none, none, none, none] [] fn14.body = some (.ret (.lst 2), ρ', [(plc g c).map fun (k : Nat) => V.int k, symL g c, (sumsS g c).map .int]) := by
    refine ⟨envS g c y2 y7 y8, ?_⟩
    have hp' : ev T (callD T fns (d + 1)) [some (.str g), some (.str [c]), none, none, none, none, none, none, none] [] (Ex.compIf (Ex.un (Uop.range) (Ex.un (Uop.len) (Ex.var 0))) (Ex.bin (Bop.eq) (Ex.bin (Bop.item) (Ex.var 0) (Ex.var 9)) (Ex.var 1)) (Ex.var 9)) = some (.lst 0, [(plc g c).map fun (k : Nat) => V.int k]) := hp
    have hs' := hs
    have hn : (symL g c).length = g.length := by simp [symL]
    have hfu : Src.fuel (.fix (rangeL 0 1 g.length)) = (rangeL 0 1 g.length).length + 1 := rfl
    have hloop' := hloop
    have hr : ev T (callD T fns (d + 1)) (envS g c none none none) [(plc g c).map fun (k : Nat) => V.int k, symL g c, []] (Ex.un (Uop.range) (Ex.un (Uop.len) (Ex.var 5))) = some (.rng 0 1 g.length, [(plc g c).map fun (k : Nat) => V.int k, symL g c, []]) := by
      simp [ev, evU, hn, itemOf]; (first | lia | omega)
    have he : ev T (callD T fns (d + 1)) [some (.str g), some (.str [c]), none, some (.lst 0), some (.int (topS g c)), some (.lst 1), none, none, none] [(plc g c).map fun (k : Nat) => V.int k, symL g c] (Ex.list Exs.nil) = some (.lst 2, [(plc g c).map fun (k : Nat) => V.int k, symL g c, []]) := by
      simp [ev, evs]
    exact (exs_next (ex_set hp')).trans ((exs_next (ex_set ht)).trans ((exs_next (ex_set hs')).trans ((exs_next (ex_set he)).trans ((exs_next (ex_for hr rfl hloop')).trans (exs_ret (v := .lst 2) (by simp [ev]))))))
  obtain ⟨ρ', hb⟩ := hbody
  rw [callD]
  simp only [show fns[14]? = some fn14 from rfl]
  rw [if_pos (by rfl), if_pos (by rfl)]
  show (match exs T (callD T fns (d + 1)) [some (.str g), some (.str [c]), none, none, none, none, none, none, none] [] fn14.body with
          | some (.ret v, _, σ') => giveBack v σ' σ
          | some (.next, _, _) => some (.none, σ)
          | _ => none) = _
  rw [hb]
  simp [giveBack, noLsts_ints]
end W1
end Mine
end

section
set_option Elab.async false
set_option linter.unusedVariables false
set_option linter.unusedSimpArgs false
namespace Mine
theorem exLoop_live {n : Nat} {xs : List V} {f : V → REnv → Store → Option (Fl × REnv × Store)} (I : Nat → REnv → Store → Prop) (hn : ∀ j ρ σ, I j ρ σ → σ[n]? = some xs)
    (step : ∀ (j : Nat) (x : V) (ρ : REnv) (σ : Store), xs[j]? = some x → I j ρ σ → ∃ ρ' σ', f x ρ σ = some (.next, ρ', σ') ∧ I (j + 1) ρ' σ') :
    ∀ (m k j : Nat) (ρ : REnv) (σ : Store), j + m = xs.length → m < k → I j ρ σ → ∃ ρ' σ', exLoop (.live n) f k j ρ σ = some (.next, ρ', σ') ∧ I xs.length ρ' σ'
  | 0, k + 1, j, ρ, σ, hj, hk, h => by
    have e : j = xs.length := by (first | lia | omega)
    subst e
    exact ⟨ρ, σ, by simp [exLoop, Src.get, hn _ _ _ h], h⟩
  | m + 1, k + 1, j, ρ, σ, hj, hk, h => by
    have hx : xs[j]? = some (xs[j]'(by (first | lia | omega))) := List.getElem?_eq_getElem _
    obtain ⟨ρ₁, σ₁, h1, h2⟩ := step j _ ρ σ hx h
    obtain ⟨ρ₂, σ₂, h3, h4⟩ := exLoop_live I hn step m k (j + 1) ρ₁ σ₁ (by (first | lia | omega)) (by (first | lia | omega)) h2
    refine ⟨ρ₂, σ₂, ?_, h4⟩
    rw [exLoop]
    simp only [Src.get, hn _ _ _ h, hx, h1]
    exact h3
  | m, 0, _, _, _, _, hk, _ => absurd hk (Nat.not_lt_zero _)
namespace W1
noncomputable def unlikeS (g : List Nat) : List Int := (sumsS g 104 ++ sumsS g 112).filter fun a => (sumsS g 104).count a != (sumsS g 112).count a
theorem sums_small (g : List Nat) (c : Nat) (hg : g.length ≤ 100) : ∀ a ∈ sumsS g c, 0 ≤ a ∧ a ≤ 200 := by
  intro a ha
  unfold sumsS at ha
  obtain ⟨k, hk, ha⟩ := List.mem_flatMap.mp ha
  unfold rowS at ha
  obtain ⟨j, hj, e⟩ := List.mem_filterMap.mp ha
  rw [List.mem_range] at hk hj
  split at e
  · cases e; (first | lia | omega)
  · cases e
theorem isIntB_int (m a : Int) : isIntB m (.int a) = decide ((a.natAbs : Int) < m) := rfl
theorem all_small (l : List Int) (h : ∀ a ∈ l, 0 ≤ a ∧ a ≤ 200) : (l.map V.int).all (isIntB 1000000000) = true := by
  rw [List.all_map, List.all_eq_true]
  intro a ha
  have := h a ha
  rw [Function.comp_apply, isIntB_int, decide_eq_true_iff]
  (first | lia | omega)
theorem map_intOf (l : List Int) : (l.map V.int).map intOf = l := by
  rw [List.map_map]
  exact List.map_id' l
noncomputable def bodyU : Sts := Sts.cons (St.set 5 (Ex.bin (Bop.sub) (Ex.bin (Bop.count) (Ex.var 1) (Ex.var 4)) (Ex.bin (Bop.count) (Ex.var 2) (Ex.var 4)))) (Sts.cons (St.ite (Ex.and (Ex.bin (Bop.is) (Ex.call 5 (Exs.cons (Ex.var 5) (Exs.nil))) (Ex.bool false)) (Ex.bin (Bop.is) (Ex.call 5 (Exs.cons (Ex.un (Uop.neg) (Ex.var 5)) (Exs.nil))) (Ex.bool false))) (Sts.cons (St.expr (Ex.bin (Bop.append) (Ex.var 3) (Ex.var 4))) (Sts.nil)) (Sts.nil)) (Sts.nil))
theorem turnU (T : Tabs) (C : Calls) (h5 : ∀ x σ, C 5 [.int x] σ = some (.bool (x == 0), σ)) (s0 : Option V) (low high : List Int) (hl : ∀ a ∈ low, 0 ≤ a ∧ a ≤ 200) (hh : ∀ a ∈ high, 0 ≤ a ∧ a ≤ 200) (acc : List V) (ha : acc.length < LIM) (rest : List V) (a : Int) (x5 : Option V) :
    ∃ x5', exs T C [s0, some (.lst 0), some (.lst 1), some (.lst 2), some (.int a), x5] [low.map .int, high.map .int, acc, rest] bodyU =
      some (.next, [s0, some (.lst 0), some (.lst 1), some (.lst 2), some (.int a), x5'], [low.map .int, high.map .int, if low.count a != high.count a then acc ++ [.int a] else acc, rest]) := by
  refine ⟨some (.int ((low.count a : Int) - high.count a)), ?_⟩
  have e1 := all_small low hl
  have e2 := all_small high hh
  by_cases h : low.count a = high.count a
  · have h1 : ((low.count a : Int) - high.count a) = 0 := by (first | lia | omega)
    simp only [bodyU, exs, ex, ev, evs, evB, evU, h5, e1, e2, map_intOf, ha, List.getElem?_cons_zero, List.getElem?_cons_succ, List.set_cons_zero, List.set_cons_succ, if_true, h1, h, bInt_int, bInt_str, bInt_lst, bStr_str, bLst_lst, uInt_int, uStr_str, uStr_lst, uLst_lst, orE_some, orE_none, bItem_str, bItem_tup, bItem_ro, bItem_lst, bCut_str, bCut_lst, itemOf, uLen_str, uLen_lst, uLen_ro, one_one, Option.map_some]
    simp
  · have h1 : ((low.count a : Int) - high.count a) ≠ 0 := by (first | lia | omega)
    have h2 : -((low.count a : Int) - high.count a) ≠ 0 := by (first | lia | omega)
    have b1 : (((low.count a : Int) - high.count a) == 0) = false := by simpa using h1
    have b2 : (-((low.count a : Int) - high.count a) == 0) = false := by rw [beq_eq_false_iff_ne]; exact h2
    simp only [bodyU, exs, ex, ev, evs, evB, evU, h5, e1, e2, map_intOf, ha, List.getElem?_cons_zero, List.getElem?_cons_succ, List.set_cons_zero, List.set_cons_succ, if_true, b1, b2, bInt_int, bInt_str, bInt_lst, bStr_str, bLst_lst, uInt_int, uStr_str, uStr_lst, uLst_lst, orE_some, orE_none, bItem_str, bItem_tup, bItem_ro, bItem_lst, bCut_str, bCut_lst, itemOf, uLen_str, uLen_lst, uLen_ro, one_one, Option.map_some]
    simp [h, ha]

theorem unlike_ok (T : Tabs) (d : Nat) (g : List Nat) (hg : g.length ≤ 100) (h1 : 2 ≤ (plc g 104).length) (h2 : 2 ≤ (plc g 112).length) (hs : (sumsS g 104).length + (sumsS g 112).length < 90000) (σ : Store) :
    callD T fns (d + 3) 15 [.str g] σ = some (.lst σ.length, σ ++ [(unlikeS g).map .int]) := by
  have h5 : ∀ x σ, callD T fns (d + 2) 5 [.int x] σ = some (.bool (x == 0), σ) := fun x σ => isEof T (d + 1) σ x
  have s1 := fun σ => sums_ok T d g 104 (.inl rfl) hg h1 σ
  have s2 := fun σ => sums_ok T d g 112 (.inr rfl) hg h2 σ
  have b1 := sums_small g 104 hg
  have b2 := sums_small g 112 hg
  generalize hC : callD T fns (d + 2) = C at h5 s1 s2
  unfold unlikeS
  generalize sumsS g 104 = low at *
  generalize sumsS g 112 = high at *
  have hL : LIM = 16777216 := rfl
  have hT : TURNS = 100000 := rfl
  obtain ⟨ρ', σ', hl, x4, x5, rfl, rfl, _⟩ := exLoop_live (n := 3) (xs := (low ++ high).map V.int) (f := fun v ρ σ => exs T C (ρ.set 4 (some v)) σ bodyU)
    (fun m ρ σ => ∃ x4 x5, ρ = [some (.str g), some (.lst 0), some (.lst 1), some (.lst 2), x4, x5] ∧ σ = [low.map .int, high.map .int, (((low ++ high).take m).filter fun a => low.count a != high.count a).map .int, (low ++ high).map .int] ∧ m ≤ (low ++ high).length)
    (fun j ρ σ hI => by obtain ⟨x4, x5, rfl, rfl, _⟩ := hI; rfl)
    (fun j x ρ σ hx hI => by
      obtain ⟨x4, x5, rfl, rfl, hj⟩ := hI
      rw [List.getElem?_map, Option.map_eq_some_iff] at hx
      obtain ⟨a, ha, rfl⟩ := hx
      have hlt : j < (low ++ high).length := (List.getElem?_eq_some_iff.mp ha).1
      obtain ⟨x5', ht⟩ := turnU T C h5 (some (.str g)) low high b1 b2 ((((low ++ high).take j).filter fun a => low.count a != high.count a).map .int) (by
        rw [List.length_map]
        have := List.length_filter_le (fun a => low.count a != high.count a) ((low ++ high).take j)
        rw [List.length_take, List.length_append] at this
        (first | lia | omega)) ((low ++ high).map .int) a x5
      refine ⟨_, _, ht, some (.int a), x5', rfl, ?_, hlt⟩
      rw [List.take_add_one, ha, List.filter_append, List.map_append]
      by_cases h : low.count a != high.count a
      · simp [h]
      · simp [h])
    ((low ++ high).map V.int).length TURNS 0 [some (.str g), some (.lst 0), some (.lst 1), some (.lst 2), none, none] [low.map .int, high.map .int, [], (low ++ high).map .int] (by simp) (by rw [List.length_map, List.length_append]; (first | lia | omega)) ⟨none, none, rfl, by simp, Nat.zero_le _⟩
  rw [List.length_map, List.take_length] at hl
  have hbody : exs T C [some (.str g), none, none, none, none, none] [] fn15.body = some (.ret (.lst 2), [some (.str g), some (.lst 0), some (.lst 1), some (.lst 2), x4, x5], [low.map .int, high.map .int, ((low ++ high).filter fun a => low.count a != high.count a).map .int, (low ++ high).map .int]) := by
    have e1 : ev T C [some (.str g), none, none, none, none, none] [] (Ex.call 14 (Exs.cons (Ex.var 0) (Exs.cons (Ex.str [104]) (Exs.nil)))) = some (.lst 0, [low.map .int]) := by
      simp [ev, evs, s1]
    have e2 : ev T C [some (.str g), some (.lst 0), none, none, none, none] [low.map .int] (Ex.call 14 (Exs.cons (Ex.var 0) (Exs.cons (Ex.str [112]) (Exs.nil)))) = some (.lst 1, [low.map .int, high.map .int]) := by
      simp [ev, evs, s2]
    have e3 : ev T C [some (.str g), some (.lst 0), some (.lst 1), none, none, none] [low.map .int, high.map .int] (Ex.list Exs.nil) = some (.lst 2, [low.map .int, high.map .int, []]) := by
      simp [ev, evs]
    have e4 : ev T C [some (.str g), some (.lst 0), some (.lst 1), some (.lst 2), none, none] [low.map .int, high.map .int, []] (Ex.bin (Bop.add) (Ex.var 1) (Ex.var 2)) = some (.lst 3, [low.map .int, high.map .int, [], (low ++ high).map .int]) := by
      have : low.length + high.length ≤ LIM := by (first | lia | omega)
      simp [ev, evB, this, itemOf]
    exact (exs_next (ex_set e1)).trans ((exs_next (ex_set e2)).trans ((exs_next (ex_set e3)).trans ((exs_next (ex_for e4 rfl hl)).trans (exs_ret (v := .lst 2) (by simp [ev])))))
  rw [callD]
  simp only [show fns[15]? = some fn15 from rfl]
  rw [if_pos (by rfl), if_pos (by rfl)]
  show (match exs T (callD T fns (d + 2)) [some (.str g), none, none, none, none, none] [] fn15.body with
          | some (.ret v, _, σ') => giveBack v σ' σ
          | some (.next, _, _) => some (.none, σ)
          | _ => none) = _
  rw [hC, hbody]
  simp [giveBack, noLsts_ints, -List.filter_append, -List.map_append]
end W1
end Mine
end

section
set_option Elab.async false
set_option linter.unusedVariables false
set_option linter.unusedSimpArgs false
set_option maxRecDepth 100000
namespace Mine
namespace W1
noncomputable def tokW : List (List Nat × Int) := [([33], 54), ([33, 61], 28), ([37], 24), ([37, 61], 40), ([38], 19), ([38, 61], 41), ([40], 7), ([41], 8), ([42], 16), ([42, 42], 35), ([42, 42, 61], 46), ([42, 61], 38), ([43], 14), ([43, 61], 36), ([44], 12), ([45], 15), ([45, 61], 37), ([45, 62], 51), ([46], 23), ([46, 46, 46], 52), ([47], 17), ([47, 47], 47), ([47, 47, 61], 48), ([47, 61], 39), ([58], 11), ([58, 61], 53), ([59], 13), ([60], 20), ([60, 60], 33), ([60, 60, 61], 44), ([60, 61], 29), ([61], 22), ([61, 61], 27), ([62], 21), ([62, 61], 30), ([62, 62], 34), ([62, 62, 61], 45), ([64], 49), ([64, 61], 50), ([91], 9), ([93], 10), ([94], 32), ([94, 61], 43), ([123], 25), ([124], 18), ([124, 61], 42), ([125], 26), ([126], 31)]
noncomputable def letS (w : List Nat) (p t : Nat) : Nat := if (t + (if w[p]? = some 112 then 1 else 0)) % 2 = 0 then 104 else 112
theorem letter_ok (T : Tabs) (d : Nat) (w : List Nat) (p t : Nat) (hp : p < w.length) (σ : Store) : callD T fns (d + 1) 9 [.str w, .int p, .int t] σ = some (.str [letS w p t], σ) := by
  have hc : cut w (clip (p : Int) w.length) (clip ((p : Int) + 1) w.length) = [w[p]] := by
    have e1 : clip (p : Int) w.length = p := by unfold clip; rw [if_pos (by (first | lia | omega))]; show min _ _ = _; (first | lia | omega)
    have e2 : clip ((p : Int) + 1) w.length = p + 1 := by unfold clip; rw [if_pos (by (first | lia | omega))]; show min _ _ = _; (first | lia | omega)
    rw [e1, e2]
    unfold cut
    rw [List.drop_eq_getElem_cons hp, show p + 1 - p = 1 by (first | lia | omega)]
    rfl
  have hitem : ∀ n : Nat, evB .item (.str [104, 112]) (.int ((n : Int).fmod 2)) [] = some (.str [if n % 2 = 0 then 104 else 112], []) := fun n => by
    have e : (n : Int).fmod 2 = ((n % 2 : Nat) : Int) := by rw [Int.fmod_eq_emod_of_nonneg _ (by decide)]; rfl
    rw [e]
    rcases Nat.mod_two_eq_zero_or_one n with h | h <;> rw [h] <;> rfl
  have h0 := hitem t
  have h1 := hitem (t + 1)
  rw [callD]
  simp only [show fns[9]? = some fn9 from rfl]
  rw [if_pos (by rfl), if_pos (by rfl)]
  show (match exs T (callD T fns d) [some (.str w), some (.int p), some (.int t)] [] fn9.body with
          | some (.ret v, _, σ') => giveBack v σ' σ
          | some (.next, _, _) => some (.none, σ)
          | _ => none) = _
  by_cases h : w[p] = 112
  · have hl : letS w p t = if (t + 1) % 2 = 0 then 104 else 112 := by unfold letS; rw [List.getElem?_eq_getElem hp, h]; rfl
    have hm : evB .mod (.int ((t : Int) + 1)) (.int 2) [] = some (.int (((t + 1 : Nat) : Int).fmod 2), []) := by simp [evB, itemOf]
    rw [hl]
    simp only [fn9, exs, ex, ev, evAug, List.getElem?_cons_zero, List.getElem?_cons_succ, List.set_cons_zero, List.set_cons_succ, show evB .add (.int (p : Int)) (.int 1) [] = some (.int ((p : Int) + 1), []) from rfl, hc, h, show evB .eq (.str [112]) (.str [112]) [] = some (.bool true, []) from rfl, show evB .add (.int (t : Int)) (.int 1) [] = some (.int ((t : Int) + 1), []) from rfl, hm, h1, bInt_int, bInt_str, bInt_lst, bStr_str, bLst_lst, uInt_int, uStr_str, uStr_lst, uLst_lst, orE_some, orE_none, bItem_str, bItem_tup, bItem_ro, bItem_lst, bCut_str, bCut_lst, itemOf, uLen_str, uLen_lst, uLen_ro, one_one, Option.map_some]
    rfl
  · have hl : letS w p t = if t % 2 = 0 then 104 else 112 := by unfold letS; rw [List.getElem?_eq_getElem hp, if_neg (show ¬ some w[p] = some 112 from fun e => h (Option.some.inj e))]; rfl
    have hq : evB .eq (.str [w[p]]) (.str [112]) [] = some (.bool false, []) := by
      have : ([w[p]] == [112]) = false := by simpa using h
      simp [evB, this, itemOf]
    have hm : evB .mod (.int (t : Int)) (.int 2) [] = some (.int ((t : Int).fmod 2), []) := by simp [evB, itemOf]
    rw [hl]
    simp only [fn9, exs, ex, ev, evAug, List.getElem?_cons_zero, List.getElem?_cons_succ, List.set_cons_zero, List.set_cons_succ, show evB .add (.int (p : Int)) (.int 1) [] = some (.int ((p : Int) + 1), []) from rfl, hc, hq, hm, h0, bInt_int, bInt_str, bInt_lst, bStr_str, bLst_lst, uInt_int, uStr_str, uStr_lst, uLst_lst, orE_some, orE_none, bItem_str, bItem_tup, bItem_ro, bItem_lst, bCut_str, bCut_lst, itemOf, uLen_str, uLen_lst, uLen_ro, one_one, Option.map_some]
    rfl

/-- what stands ahead of the last statement -/
noncomputable def two (T : Tabs) (C : Calls) (ρ : REnv) : Sts → Option (Fl × REnv × Store)
  | .cons a (.cons b _) => match ex T C ρ [] a with
    | some (.next, ρ₁, σ₁) => ex T C ρ₁ σ₁ b
    | _ => none
  | _ => none
noncomputable def chk (R : Option (Fl × REnv × Store)) : Option (V × V × V) := match R with
  | some (.next, ρ', _) => match ρ'[0]?, ρ'[2]?, ρ'[3]? with
    | some (some a), some (some b), some (some c) => some (a, b, c)
    | _, _, _ => none
  | _ => none
noncomputable def e9 : Ex := Ex.call 9 (Exs.cons (Ex.var 0) (Exs.cons (Ex.var 2) (Exs.cons (Ex.var 3) (Exs.nil))))
theorem last9 {T : Tabs} {C : Calls} {ρ : REnv} {a b : St} {w : List Nat} {P t : Nat} {x : Nat} (h : chk (two T C ρ (.cons a (.cons b (.cons (.ret e9) .nil)))) = some (.str w, .int P, .int t)) (hC : ∀ σ, C 9 [.str w, .int P, .int t] σ = some (.str [x], σ)) :
    ∃ ρ' σ', exs T C ρ [] (.cons a (.cons b (.cons (.ret e9) .nil))) = some (.ret (.str [x]), ρ', σ') := by
  simp only [two] at h
  cases h1 : ex T C ρ [] a with
  | none => rw [h1] at h; cases h
  | some q =>
    obtain ⟨fl, ρ₁, σ₁⟩ := q
    rw [h1] at h
    cases fl with
    | brk => cases h
    | ret v => cases h
    | next =>
      simp only at h
      cases h2 : ex T C ρ₁ σ₁ b with
      | none => rw [h2] at h; cases h
      | some q =>
        obtain ⟨fl, ρ', σ'⟩ := q
        rw [h2] at h
        cases fl with
        | brk => cases h
        | ret v => cases h
        | next =>
          simp only [chk] at h
          split at h
          · rename_i va vb vc g1 g2 g3
            cases h
            refine ⟨ρ', σ', ?_⟩
            rw [exs_next h1, exs_next h2]
            refine exs_ret ?_
            simp only [e9, ev, evs, g1, g2, g3, hC]
          · cases h
noncomputable def onesS : Nat → Nat
  | 0 => 0
  | 1 => 1
  | 2 => 1
  | 3 => 2
  | 4 => 1
  | 5 => 2
  | 6 => 2
  | _ => 3
section
variable (T : Tabs) (d : Nat) (w : List Nat)
theorem q_3_0 : chk (two T (callD T fns (d + 1)) [some (.str w), some (.int 3), some (.int 0), none, none, none] fn10.body) = some (.str w, .int 0, .int 0) := by kernel_rfl
theorem s_3_0 (b1 : List Int) (b3 : List (Int × List Nat)) : chk (two ⟨b1, b3, tokW⟩ (callD ⟨b1, b3, tokW⟩ fns (d + 1)) [some (.str w), some (.int 3), some (.int 0), none, none, none] fn12.body) = some (.str w, .int 0, .int 0) := by kernel_rfl
theorem q_3_1 : chk (two T (callD T fns (d + 1)) [some (.str w), some (.int 3), some (.int 1), none, none, none] fn10.body) = some (.str w, .int 0, .int 1) := by kernel_rfl
theorem s_3_1 (b1 : List Int) (b3 : List (Int × List Nat)) : chk (two ⟨b1, b3, tokW⟩ (callD ⟨b1, b3, tokW⟩ fns (d + 1)) [some (.str w), some (.int 3), some (.int 1), none, none, none] fn12.body) = some (.str w, .int 0, .int 1) := by kernel_rfl
theorem q_3_2 : chk (two T (callD T fns (d + 1)) [some (.str w), some (.int 3), some (.int 2), none, none, none] fn10.body) = some (.str w, .int 0, .int 1) := by kernel_rfl
theorem s_3_2 (b1 : List Int) (b3 : List (Int × List Nat)) : chk (two ⟨b1, b3, tokW⟩ (callD ⟨b1, b3, tokW⟩ fns (d + 1)) [some (.str w), some (.int 3), some (.int 2), none, none, none] fn12.body) = some (.str w, .int 0, .int 1) := by kernel_rfl
theorem q_3_3 : chk (two T (callD T fns (d + 1)) [some (.str w), some (.int 3), some (.int 3), none, none, none] fn10.body) = some (.str w, .int 0, .int 2) := by kernel_rfl
theorem s_3_3 (b1 : List Int) (b3 : List (Int × List Nat)) : chk (two ⟨b1, b3, tokW⟩ (callD ⟨b1, b3, tokW⟩ fns (d + 1)) [some (.str w), some (.int 3), some (.int 3), none, none, none] fn12.body) = some (.str w, .int 0, .int 2) := by kernel_rfl
theorem q_3_4 : chk (two T (callD T fns (d + 1)) [some (.str w), some (.int 3), some (.int 4), none, none, none] fn10.body) = some (.str w, .int 0, .int 1) := by kernel_rfl
theorem s_3_4 (b1 : List Int) (b3 : List (Int × List Nat)) : chk (two ⟨b1, b3, tokW⟩ (callD ⟨b1, b3, tokW⟩ fns (d + 1)) [some (.str w), some (.int 3), some (.int 4), none, none, none] fn12.body) = some (.str w, .int 0, .int 1) := by kernel_rfl
theorem q_3_5 : chk (two T (callD T fns (d + 1)) [some (.str w), some (.int 3), some (.int 5), none, none, none] fn10.body) = some (.str w, .int 0, .int 2) := by kernel_rfl
theorem s_3_5 (b1 : List Int) (b3 : List (Int × List Nat)) : chk (two ⟨b1, b3, tokW⟩ (callD ⟨b1, b3, tokW⟩ fns (d + 1)) [some (.str w), some (.int 3), some (.int 5), none, none, none] fn12.body) = some (.str w, .int 0, .int 2) := by kernel_rfl
theorem q_3_6 : chk (two T (callD T fns (d + 1)) [some (.str w), some (.int 3), some (.int 6), none, none, none] fn10.body) = some (.str w, .int 0, .int 2) := by kernel_rfl
theorem s_3_6 (b1 : List Int) (b3 : List (Int × List Nat)) : chk (two ⟨b1, b3, tokW⟩ (callD ⟨b1, b3, tokW⟩ fns (d + 1)) [some (.str w), some (.int 3), some (.int 6), none, none, none] fn12.body) = some (.str w, .int 0, .int 2) := by kernel_rfl
theorem q_3_7 : chk (two T (callD T fns (d + 1)) [some (.str w), some (.int 3), some (.int 7), none, none, none] fn10.body) = some (.str w, .int 0, .int 3) := by kernel_rfl
theorem s_3_7 (b1 : List Int) (b3 : List (Int × List Nat)) : chk (two ⟨b1, b3, tokW⟩ (callD ⟨b1, b3, tokW⟩ fns (d + 1)) [some (.str w), some (.int 3), some (.int 7), none, none, none] fn12.body) = some (.str w, .int 0, .int 3) := by kernel_rfl
theorem q_2_0 : chk (two T (callD T fns (d + 1)) [some (.str w), some (.int 2), some (.int 0), none, none, none] fn10.body) = some (.str w, .int 0, .int 0) := by kernel_rfl
theorem s_2_0 (b1 : List Int) (b3 : List (Int × List Nat)) : chk (two ⟨b1, b3, tokW⟩ (callD ⟨b1, b3, tokW⟩ fns (d + 1)) [some (.str w), some (.int 2), some (.int 0), none, none, none] fn12.body) = some (.str w, .int 0, .int 0) := by kernel_rfl
theorem q_2_1 : chk (two T (callD T fns (d + 1)) [some (.str w), some (.int 2), some (.int 1), none, none, none] fn10.body) = some (.str w, .int 0, .int 1) := by kernel_rfl
theorem s_2_1 (b1 : List Int) (b3 : List (Int × List Nat)) : chk (two ⟨b1, b3, tokW⟩ (callD ⟨b1, b3, tokW⟩ fns (d + 1)) [some (.str w), some (.int 2), some (.int 1), none, none, none] fn12.body) = some (.str w, .int 0, .int 1) := by kernel_rfl
theorem q_2_2 : chk (two T (callD T fns (d + 1)) [some (.str w), some (.int 2), some (.int 2), none, none, none] fn10.body) = some (.str w, .int 0, .int 1) := by kernel_rfl
theorem s_2_2 (b1 : List Int) (b3 : List (Int × List Nat)) : chk (two ⟨b1, b3, tokW⟩ (callD ⟨b1, b3, tokW⟩ fns (d + 1)) [some (.str w), some (.int 2), some (.int 2), none, none, none] fn12.body) = some (.str w, .int 0, .int 1) := by kernel_rfl
theorem q_2_3 : chk (two T (callD T fns (d + 1)) [some (.str w), some (.int 2), some (.int 3), none, none, none] fn10.body) = some (.str w, .int 0, .int 2) := by kernel_rfl
theorem s_2_3 (b1 : List Int) (b3 : List (Int × List Nat)) : chk (two ⟨b1, b3, tokW⟩ (callD ⟨b1, b3, tokW⟩ fns (d + 1)) [some (.str w), some (.int 2), some (.int 3), none, none, none] fn12.body) = some (.str w, .int 0, .int 2) := by kernel_rfl
theorem q_2_4 : chk (two T (callD T fns (d + 1)) [some (.str w), some (.int 2), some (.int 4), none, none, none] fn10.body) = some (.str w, .int 1, .int 0) := by kernel_rfl
theorem s_2_4 (b1 : List Int) (b3 : List (Int × List Nat)) : chk (two ⟨b1, b3, tokW⟩ (callD ⟨b1, b3, tokW⟩ fns (d + 1)) [some (.str w), some (.int 2), some (.int 4), none, none, none] fn12.body) = some (.str w, .int 1, .int 0) := by kernel_rfl
theorem q_2_5 : chk (two T (callD T fns (d + 1)) [some (.str w), some (.int 2), some (.int 5), none, none, none] fn10.body) = some (.str w, .int 1, .int 1) := by kernel_rfl
theorem s_2_5 (b1 : List Int) (b3 : List (Int × List Nat)) : chk (two ⟨b1, b3, tokW⟩ (callD ⟨b1, b3, tokW⟩ fns (d + 1)) [some (.str w), some (.int 2), some (.int 5), none, none, none] fn12.body) = some (.str w, .int 1, .int 1) := by kernel_rfl
theorem q_2_6 : chk (two T (callD T fns (d + 1)) [some (.str w), some (.int 2), some (.int 6), none, none, none] fn10.body) = some (.str w, .int 1, .int 1) := by kernel_rfl
theorem s_2_6 (b1 : List Int) (b3 : List (Int × List Nat)) : chk (two ⟨b1, b3, tokW⟩ (callD ⟨b1, b3, tokW⟩ fns (d + 1)) [some (.str w), some (.int 2), some (.int 6), none, none, none] fn12.body) = some (.str w, .int 1, .int 1) := by kernel_rfl
theorem q_2_7 : chk (two T (callD T fns (d + 1)) [some (.str w), some (.int 2), some (.int 7), none, none, none] fn10.body) = some (.str w, .int 1, .int 2) := by kernel_rfl
theorem s_2_7 (b1 : List Int) (b3 : List (Int × List Nat)) : chk (two ⟨b1, b3, tokW⟩ (callD ⟨b1, b3, tokW⟩ fns (d + 1)) [some (.str w), some (.int 2), some (.int 7), none, none, none] fn12.body) = some (.str w, .int 1, .int 2) := by kernel_rfl
theorem q_2_8 : chk (two T (callD T fns (d + 1)) [some (.str w), some (.int 2), some (.int 8), none, none, none] fn10.body) = some (.str w, .int 2, .int 0) := by kernel_rfl
theorem s_2_8 (b1 : List Int) (b3 : List (Int × List Nat)) : chk (two ⟨b1, b3, tokW⟩ (callD ⟨b1, b3, tokW⟩ fns (d + 1)) [some (.str w), some (.int 2), some (.int 8), none, none, none] fn12.body) = some (.str w, .int 2, .int 0) := by kernel_rfl
theorem q_2_9 : chk (two T (callD T fns (d + 1)) [some (.str w), some (.int 2), some (.int 9), none, none, none] fn10.body) = some (.str w, .int 2, .int 1) := by kernel_rfl
theorem s_2_9 (b1 : List Int) (b3 : List (Int × List Nat)) : chk (two ⟨b1, b3, tokW⟩ (callD ⟨b1, b3, tokW⟩ fns (d + 1)) [some (.str w), some (.int 2), some (.int 9), none, none, none] fn12.body) = some (.str w, .int 2, .int 1) := by kernel_rfl
theorem q_2_10 : chk (two T (callD T fns (d + 1)) [some (.str w), some (.int 2), some (.int 10), none, none, none] fn10.body) = some (.str w, .int 2, .int 1) := by kernel_rfl
theorem s_2_10 (b1 : List Int) (b3 : List (Int × List Nat)) : chk (two ⟨b1, b3, tokW⟩ (callD ⟨b1, b3, tokW⟩ fns (d + 1)) [some (.str w), some (.int 2), some (.int 10), none, none, none] fn12.body) = some (.str w, .int 2, .int 1) := by kernel_rfl
theorem q_2_11 : chk (two T (callD T fns (d + 1)) [some (.str w), some (.int 2), some (.int 11), none, none, none] fn10.body) = some (.str w, .int 2, .int 2) := by kernel_rfl
theorem s_2_11 (b1 : List Int) (b3 : List (Int × List Nat)) : chk (two ⟨b1, b3, tokW⟩ (callD ⟨b1, b3, tokW⟩ fns (d + 1)) [some (.str w), some (.int 2), some (.int 11), none, none, none] fn12.body) = some (.str w, .int 2, .int 2) := by kernel_rfl
theorem q_1_0 : chk (two T (callD T fns (d + 1)) [some (.str w), some (.int 1), some (.int 0), none, none, none] fn10.body) = some (.str w, .int 0, .int 0) := by kernel_rfl
theorem s_1_0 (b1 : List Int) (b3 : List (Int × List Nat)) : chk (two ⟨b1, b3, tokW⟩ (callD ⟨b1, b3, tokW⟩ fns (d + 1)) [some (.str w), some (.int 1), some (.int 0), none, none, none] fn12.body) = some (.str w, .int 0, .int 0) := by kernel_rfl
theorem q_1_1 : chk (two T (callD T fns (d + 1)) [some (.str w), some (.int 1), some (.int 1), none, none, none] fn10.body) = some (.str w, .int 0, .int 1) := by kernel_rfl
theorem s_1_1 (b1 : List Int) (b3 : List (Int × List Nat)) : chk (two ⟨b1, b3, tokW⟩ (callD ⟨b1, b3, tokW⟩ fns (d + 1)) [some (.str w), some (.int 1), some (.int 1), none, none, none] fn12.body) = some (.str w, .int 0, .int 1) := by kernel_rfl
theorem q_1_2 : chk (two T (callD T fns (d + 1)) [some (.str w), some (.int 1), some (.int 2), none, none, none] fn10.body) = some (.str w, .int 1, .int 0) := by kernel_rfl
theorem s_1_2 (b1 : List Int) (b3 : List (Int × List Nat)) : chk (two ⟨b1, b3, tokW⟩ (callD ⟨b1, b3, tokW⟩ fns (d + 1)) [some (.str w), some (.int 1), some (.int 2), none, none, none] fn12.body) = some (.str w, .int 1, .int 0) := by kernel_rfl
theorem q_1_3 : chk (two T (callD T fns (d + 1)) [some (.str w), some (.int 1), some (.int 3), none, none, none] fn10.body) = some (.str w, .int 1, .int 1) := by kernel_rfl
theorem s_1_3 (b1 : List Int) (b3 : List (Int × List Nat)) : chk (two ⟨b1, b3, tokW⟩ (callD ⟨b1, b3, tokW⟩ fns (d + 1)) [some (.str w), some (.int 1), some (.int 3), none, none, none] fn12.body) = some (.str w, .int 1, .int 1) := by kernel_rfl
theorem q_1_4 : chk (two T (callD T fns (d + 1)) [some (.str w), some (.int 1), some (.int 4), none, none, none] fn10.body) = some (.str w, .int 2, .int 0) := by kernel_rfl
theorem s_1_4 (b1 : List Int) (b3 : List (Int × List Nat)) : chk (two ⟨b1, b3, tokW⟩ (callD ⟨b1, b3, tokW⟩ fns (d + 1)) [some (.str w), some (.int 1), some (.int 4), none, none, none] fn12.body) = some (.str w, .int 2, .int 0) := by kernel_rfl
theorem q_1_5 : chk (two T (callD T fns (d + 1)) [some (.str w), some (.int 1), some (.int 5), none, none, none] fn10.body) = some (.str w, .int 2, .int 1) := by kernel_rfl
theorem s_1_5 (b1 : List Int) (b3 : List (Int × List Nat)) : chk (two ⟨b1, b3, tokW⟩ (callD ⟨b1, b3, tokW⟩ fns (d + 1)) [some (.str w), some (.int 1), some (.int 5), none, none, none] fn12.body) = some (.str w, .int 2, .int 1) := by kernel_rfl
theorem q_1_6 : chk (two T (callD T fns (d + 1)) [some (.str w), some (.int 1), some (.int 6), none, none, none] fn10.body) = some (.str w, .int 3, .int 0) := by kernel_rfl
theorem s_1_6 (b1 : List Int) (b3 : List (Int × List Nat)) : chk (two ⟨b1, b3, tokW⟩ (callD ⟨b1, b3, tokW⟩ fns (d + 1)) [some (.str w), some (.int 1), some (.int 6), none, none, none] fn12.body) = some (.str w, .int 3, .int 0) := by kernel_rfl
theorem q_1_7 : chk (two T (callD T fns (d + 1)) [some (.str w), some (.int 1), some (.int 7), none, none, none] fn10.body) = some (.str w, .int 3, .int 1) := by kernel_rfl
theorem s_1_7 (b1 : List Int) (b3 : List (Int × List Nat)) : chk (two ⟨b1, b3, tokW⟩ (callD ⟨b1, b3, tokW⟩ fns (d + 1)) [some (.str w), some (.int 1), some (.int 7), none, none, none] fn12.body) = some (.str w, .int 3, .int 1) := by kernel_rfl
theorem q_1_8 : chk (two T (callD T fns (d + 1)) [some (.str w), some (.int 1), some (.int 8), none, none, none] fn10.body) = some (.str w, .int 4, .int 0) := by kernel_rfl
theorem s_1_8 (b1 : List Int) (b3 : List (Int × List Nat)) : chk (two ⟨b1, b3, tokW⟩ (callD ⟨b1, b3, tokW⟩ fns (d + 1)) [some (.str w), some (.int 1), some (.int 8), none, none, none] fn12.body) = some (.str w, .int 4, .int 0) := by kernel_rfl
theorem q_1_9 : chk (two T (callD T fns (d + 1)) [some (.str w), some (.int 1), some (.int 9), none, none, none] fn10.body) = some (.str w, .int 4, .int 1) := by kernel_rfl
theorem s_1_9 (b1 : List Int) (b3 : List (Int × List Nat)) : chk (two ⟨b1, b3, tokW⟩ (callD ⟨b1, b3, tokW⟩ fns (d + 1)) [some (.str w), some (.int 1), some (.int 9), none, none, none] fn12.body) = some (.str w, .int 4, .int 1) := by kernel_rfl
theorem q_1_10 : chk (two T (callD T fns (d + 1)) [some (.str w), some (.int 1), some (.int 10), none, none, none] fn10.body) = some (.str w, .int 5, .int 0) := by kernel_rfl
theorem s_1_10 (b1 : List Int) (b3 : List (Int × List Nat)) : chk (two ⟨b1, b3, tokW⟩ (callD ⟨b1, b3, tokW⟩ fns (d + 1)) [some (.str w), some (.int 1), some (.int 10), none, none, none] fn12.body) = some (.str w, .int 5, .int 0) := by kernel_rfl
theorem q_1_11 : chk (two T (callD T fns (d + 1)) [some (.str w), some (.int 1), some (.int 11), none, none, none] fn10.body) = some (.str w, .int 5, .int 1) := by kernel_rfl
theorem s_1_11 (b1 : List Int) (b3 : List (Int × List Nat)) : chk (two ⟨b1, b3, tokW⟩ (callD ⟨b1, b3, tokW⟩ fns (d + 1)) [some (.str w), some (.int 1), some (.int 11), none, none, none] fn12.body) = some (.str w, .int 5, .int 1) := by kernel_rfl
theorem o_0 (σ : Store) : callD T fns (d + 1) 13 [.int 0] σ = some (.int 0, σ) := by kernel_rfl
theorem o_1 (σ : Store) : callD T fns (d + 1) 13 [.int 1] σ = some (.int 1, σ) := by kernel_rfl
theorem o_2 (σ : Store) : callD T fns (d + 1) 13 [.int 2] σ = some (.int 1, σ) := by kernel_rfl
theorem o_3 (σ : Store) : callD T fns (d + 1) 13 [.int 3] σ = some (.int 2, σ) := by kernel_rfl
theorem o_4 (σ : Store) : callD T fns (d + 1) 13 [.int 4] σ = some (.int 1, σ) := by kernel_rfl
theorem o_5 (σ : Store) : callD T fns (d + 1) 13 [.int 5] σ = some (.int 2, σ) := by kernel_rfl
theorem o_6 (σ : Store) : callD T fns (d + 1) 13 [.int 6] σ = some (.int 2, σ) := by kernel_rfl
theorem o_7 (σ : Store) : callD T fns (d + 1) 13 [.int 7] σ = some (.int 3, σ) := by kernel_rfl
end
end W1
end Mine
end

section
set_option Elab.async false
set_option linter.unusedVariables false
set_option linter.unusedSimpArgs false
set_option maxRecDepth 100000
namespace Mine
namespace W1
section
variable {T : Tabs} {d : Nat} {w : List Nat} {r p P t : Nat}
theorem quotes_of (h : chk (two T (callD T fns (d + 1)) [some (.str w), some (.int r), some (.int p), none, none, none] fn10.body) = some (.str w, .int P, .int t)) (hP : P < w.length) (σ : Store) :
    callD T fns (d + 2) 10 [.str w, .int r, .int p] σ = some (.str [letS w P t], σ) := by
  obtain ⟨ρ', σ', hb⟩ := last9 h fun σ => letter_ok T d w P t hP σ
  rw [callD]
  simp only [show fns[10]? = some fn10 from rfl]
  rw [if_pos (by rfl), if_pos (by rfl)]
  show (match exs T (callD T fns (d + 1)) [some (.str w), some (.int r), some (.int p), none, none, none] [] fn10.body with
          | some (.ret v, _, σ') => giveBack v σ' σ
          | some (.next, _, _) => some (.none, σ)
          | _ => none) = _
  rw [show exs T (callD T fns (d + 1)) [some (.str w), some (.int r), some (.int p), none, none, none] [] fn10.body = _ from hb]
  rfl
theorem stars_of (h : chk (two T (callD T fns (d + 1)) [some (.str w), some (.int r), some (.int p), none, none, none] fn12.body) = some (.str w, .int P, .int t)) (hP : P < w.length) (σ : Store) :
    callD T fns (d + 2) 12 [.str w, .int r, .int p] σ = some (.str [letS w P t], σ) := by
  obtain ⟨ρ', σ', hb⟩ := last9 h fun σ => letter_ok T d w P t hP σ
  rw [callD]
  simp only [show fns[12]? = some fn12 from rfl]
  rw [if_pos (by rfl), if_pos (by rfl)]
  show (match exs T (callD T fns (d + 1)) [some (.str w), some (.int r), some (.int p), none, none, none] [] fn12.body with
          | some (.ret v, _, σ') => giveBack v σ' σ
          | some (.next, _, _) => some (.none, σ)
          | _ => none) = _
  rw [show exs T (callD T fns (d + 1)) [some (.str w), some (.int r), some (.int p), none, none, none] [] fn12.body = _ from hb]
  rfl
end
/-- the rounds and places that occur -/
noncomputable def Occ (r p : Nat) : Prop := (r = 3 ∧ p < 8) ∨ (r = 2 ∧ p < 12) ∨ (r = 1 ∧ p < 12)
theorem quotes_ok (T : Tabs) (d : Nat) (w : List Nat) (r p : Nat) (h : Occ r p) (hP : p / 2 ^ r < w.length) (σ : Store) : callD T fns (d + 2) 10 [.str w, .int r, .int p] σ = some (.str [letS w (p / 2 ^ r) (onesS (p % 2 ^ r))], σ) := by
  rcases h with ⟨rfl, hp⟩ | ⟨rfl, hp⟩ | ⟨rfl, hp⟩
  · match p, hp with
    | 0, _ => exact quotes_of (r := 3) (p := 0) (P := 0) (t := 0) (q_3_0 T d w) hP σ
    | 1, _ => exact quotes_of (r := 3) (p := 1) (P := 0) (t := 1) (q_3_1 T d w) hP σ
    | 2, _ => exact quotes_of (r := 3) (p := 2) (P := 0) (t := 1) (q_3_2 T d w) hP σ
    | 3, _ => exact quotes_of (r := 3) (p := 3) (P := 0) (t := 2) (q_3_3 T d w) hP σ
    | 4, _ => exact quotes_of (r := 3) (p := 4) (P := 0) (t := 1) (q_3_4 T d w) hP σ
    | 5, _ => exact quotes_of (r := 3) (p := 5) (P := 0) (t := 2) (q_3_5 T d w) hP σ
    | 6, _ => exact quotes_of (r := 3) (p := 6) (P := 0) (t := 2) (q_3_6 T d w) hP σ
    | 7, _ => exact quotes_of (r := 3) (p := 7) (P := 0) (t := 3) (q_3_7 T d w) hP σ
    | n + 8, hp => exact absurd hp (by (first | lia | omega))
  · match p, hp with
    | 0, _ => exact quotes_of (r := 2) (p := 0) (P := 0) (t := 0) (q_2_0 T d w) hP σ
    | 1, _ => exact quotes_of (r := 2) (p := 1) (P := 0) (t := 1) (q_2_1 T d w) hP σ
    | 2, _ => exact quotes_of (r := 2) (p := 2) (P := 0) (t := 1) (q_2_2 T d w) hP σ
    | 3, _ => exact quotes_of (r := 2) (p := 3) (P := 0) (t := 2) (q_2_3 T d w) hP σ
    | 4, _ => exact quotes_of (r := 2) (p := 4) (P := 1) (t := 0) (q_2_4 T d w) hP σ
    | 5, _ => exact quotes_of (r := 2) (p := 5) (P := 1) (t := 1) (q_2_5 T d w) hP σ
    | 6, _ => exact quotes_of (r := 2) (p := 6) (P := 1) (t := 1) (q_2_6 T d w) hP σ
    | 7, _ => exact quotes_of (r := 2) (p := 7) (P := 1) (t := 2) (q_2_7 T d w) hP σ
    | 8, _ => exact quotes_of (r := 2) (p := 8) (P := 2) (t := 0) (q_2_8 T d w) hP σ
    | 9, _ => exact quotes_of (r := 2) (p := 9) (P := 2) (t := 1) (q_2_9 T d w) hP σ
    | 10, _ => exact quotes_of (r := 2) (p := 10) (P := 2) (t := 1) (q_2_10 T d w) hP σ
    | 11, _ => exact quotes_of (r := 2) (p := 11) (P := 2) (t := 2) (q_2_11 T d w) hP σ
    | n + 12, hp => exact absurd hp (by (first | lia | omega))
  · match p, hp with
    | 0, _ => exact quotes_of (r := 1) (p := 0) (P := 0) (t := 0) (q_1_0 T d w) hP σ
    | 1, _ => exact quotes_of (r := 1) (p := 1) (P := 0) (t := 1) (q_1_1 T d w) hP σ
    | 2, _ => exact quotes_of (r := 1) (p := 2) (P := 1) (t := 0) (q_1_2 T d w) hP σ
    | 3, _ => exact quotes_of (r := 1) (p := 3) (P := 1) (t := 1) (q_1_3 T d w) hP σ
    | 4, _ => exact quotes_of (r := 1) (p := 4) (P := 2) (t := 0) (q_1_4 T d w) hP σ
    | 5, _ => exact quotes_of (r := 1) (p := 5) (P := 2) (t := 1) (q_1_5 T d w) hP σ
    | 6, _ => exact quotes_of (r := 1) (p := 6) (P := 3) (t := 0) (q_1_6 T d w) hP σ
    | 7, _ => exact quotes_of (r := 1) (p := 7) (P := 3) (t := 1) (q_1_7 T d w) hP σ
    | 8, _ => exact quotes_of (r := 1) (p := 8) (P := 4) (t := 0) (q_1_8 T d w) hP σ
    | 9, _ => exact quotes_of (r := 1) (p := 9) (P := 4) (t := 1) (q_1_9 T d w) hP σ
    | 10, _ => exact quotes_of (r := 1) (p := 10) (P := 5) (t := 0) (q_1_10 T d w) hP σ
    | 11, _ => exact quotes_of (r := 1) (p := 11) (P := 5) (t := 1) (q_1_11 T d w) hP σ
    | n + 12, hp => exact absurd hp (by (first | lia | omega))
theorem stars_ok (b1 : List Int) (b3 : List (Int × List Nat)) (d : Nat) (w : List Nat) (r p : Nat) (h : Occ r p) (hP : p / 2 ^ r < w.length) (σ : Store) : callD ⟨b1, b3, tokW⟩ fns (d + 2) 12 [.str w, .int r, .int p] σ = some (.str [letS w (p / 2 ^ r) (onesS (p % 2 ^ r))], σ) := by
  rcases h with ⟨rfl, hp⟩ | ⟨rfl, hp⟩ | ⟨rfl, hp⟩
  · match p, hp with
    | 0, _ => exact stars_of (r := 3) (p := 0) (P := 0) (t := 0) (s_3_0 d w b1 b3) hP σ
    | 1, _ => exact stars_of (r := 3) (p := 1) (P := 0) (t := 1) (s_3_1 d w b1 b3) hP σ
    | 2, _ => exact stars_of (r := 3) (p := 2) (P := 0) (t := 1) (s_3_2 d w b1 b3) hP σ
    | 3, _ => exact stars_of (r := 3) (p := 3) (P := 0) (t := 2) (s_3_3 d w b1 b3) hP σ
    | 4, _ => exact stars_of (r := 3) (p := 4) (P := 0) (t := 1) (s_3_4 d w b1 b3) hP σ
    | 5, _ => exact stars_of (r := 3) (p := 5) (P := 0) (t := 2) (s_3_5 d w b1 b3) hP σ
    | 6, _ => exact stars_of (r := 3) (p := 6) (P := 0) (t := 2) (s_3_6 d w b1 b3) hP σ
    | 7, _ => exact stars_of (r := 3) (p := 7) (P := 0) (t := 3) (s_3_7 d w b1 b3) hP σ
    | n + 8, hp => exact absurd hp (by (first | lia | omega))
  · match p, hp with
    | 0, _ => exact stars_of (r := 2) (p := 0) (P := 0) (t := 0) (s_2_0 d w b1 b3) hP σ
    | 1, _ => exact stars_of (r := 2) (p := 1) (P := 0) (t := 1) (s_2_1 d w b1 b3) hP σ
    | 2, _ => exact stars_of (r := 2) (p := 2) (P := 0) (t := 1) (s_2_2 d w b1 b3) hP σ
    | 3, _ => exact stars_of (r := 2) (p := 3) (P := 0) (t := 2) (s_2_3 d w b1 b3) hP σ
    | 4, _ => exact stars_of (r := 2) (p := 4) (P := 1) (t := 0) (s_2_4 d w b1 b3) hP σ
    | 5, _ => exact stars_of (r := 2) (p := 5) (P := 1) (t := 1) (s_2_5 d w b1 b3) hP σ
    | 6, _ => exact stars_of (r := 2) (p := 6) (P := 1) (t := 1) (s_2_6 d w b1 b3) hP σ
    | 7, _ => exact stars_of (r := 2) (p := 7) (P := 1) (t := 2) (s_2_7 d w b1 b3) hP σ
    | 8, _ => exact stars_of (r := 2) (p := 8) (P := 2) (t := 0) (s_2_8 d w b1 b3) hP σ
    | 9, _ => exact stars_of (r := 2) (p := 9) (P := 2) (t := 1) (s_2_9 d w b1 b3) hP σ
    | 10, _ => exact stars_of (r := 2) (p := 10) (P := 2) (t := 1) (s_2_10 d w b1 b3) hP σ
    | 11, _ => exact stars_of (r := 2) (p := 11) (P := 2) (t := 2) (s_2_11 d w b1 b3) hP σ
    | n + 12, hp => exact absurd hp (by (first | lia | omega))
  · match p, hp with
    | 0, _ => exact stars_of (r := 1) (p := 0) (P := 0) (t := 0) (s_1_0 d w b1 b3) hP σ
    | 1, _ => exact stars_of (r := 1) (p := 1) (P := 0) (t := 1) (s_1_1 d w b1 b3) hP σ
    | 2, _ => exact stars_of (r := 1) (p := 2) (P := 1) (t := 0) (s_1_2 d w b1 b3) hP σ
    | 3, _ => exact stars_of (r := 1) (p := 3) (P := 1) (t := 1) (s_1_3 d w b1 b3) hP σ
    | 4, _ => exact stars_of (r := 1) (p := 4) (P := 2) (t := 0) (s_1_4 d w b1 b3) hP σ
    | 5, _ => exact stars_of (r := 1) (p := 5) (P := 2) (t := 1) (s_1_5 d w b1 b3) hP σ
    | 6, _ => exact stars_of (r := 1) (p := 6) (P := 3) (t := 0) (s_1_6 d w b1 b3) hP σ
    | 7, _ => exact stars_of (r := 1) (p := 7) (P := 3) (t := 1) (s_1_7 d w b1 b3) hP σ
    | 8, _ => exact stars_of (r := 1) (p := 8) (P := 4) (t := 0) (s_1_8 d w b1 b3) hP σ
    | 9, _ => exact stars_of (r := 1) (p := 9) (P := 4) (t := 1) (s_1_9 d w b1 b3) hP σ
    | 10, _ => exact stars_of (r := 1) (p := 10) (P := 5) (t := 0) (s_1_10 d w b1 b3) hP σ
    | 11, _ => exact stars_of (r := 1) (p := 11) (P := 5) (t := 1) (s_1_11 d w b1 b3) hP σ
    | n + 12, hp => exact absurd hp (by (first | lia | omega))
theorem ones_ok (T : Tabs) (d : Nat) (p : Nat) (h : p < 8) (σ : Store) : callD T fns (d + 1) 13 [.int p] σ = some (.int (onesS p), σ) := by
  match p, h with
  | 0, _ => exact o_0 T d σ
  | 1, _ => exact o_1 T d σ
  | 2, _ => exact o_2 T d σ
  | 3, _ => exact o_3 T d σ
  | 4, _ => exact o_4 T d σ
  | 5, _ => exact o_5 T d σ
  | 6, _ => exact o_6 T d σ
  | 7, _ => exact o_7 T d σ
  | n + 8, h => exact absurd h (by (first | lia | omega))
end W1
end Mine
end

section
set_option Elab.async false
set_option linter.unusedVariables false
set_option linter.unusedSimpArgs false
namespace Mine
namespace W1
theorem pow_ev (r : Nat) (hr : r ≤ 1000) (σ : Store) : evB .pow (.int 2) (.int r) σ = some (.int ((2 ^ r : Nat) : Int), σ) := by
  simp [evB, itemOf]; (first | lia | omega)
theorem fdiv_ev (p q : Nat) (h1 : 0 < q) (h2 : q < 1000000000) (σ : Store) : evB .fdiv (.int p) (.int (q : Int)) σ = some (.int ((p / q : Nat) : Int), σ) := by
  have e : (p : Int).fdiv (q : Int) = ((p / q : Nat) : Int) := by
    rw [Int.fdiv_eq_ediv_of_nonneg _ (by (first | lia | omega))]; rfl
  simp only [evB, bInt_int, bInt_str, bInt_lst, bStr_str, bLst_lst, uInt_int, uStr_str, uStr_lst, uLst_lst, orE_some, orE_none, bItem_str, bItem_tup, bItem_ro, bItem_lst, bCut_str, bCut_lst, itemOf, uLen_str, uLen_lst, uLen_ro, one_one, Option.map_some]
  rw [if_pos ⟨by (first | lia | omega), by (first | lia | omega)⟩, e]
theorem mod_ev (p q : Nat) (h1 : 0 < q) (σ : Store) : evB .mod (.int p) (.int (q : Int)) σ = some (.int ((p % q : Nat) : Int), σ) := by
  have e : (p : Int).fmod (q : Int) = ((p % q : Nat) : Int) := by
    rw [Int.fmod_eq_emod_of_nonneg _ (by (first | lia | omega))]; rfl
  simp only [evB, bInt_int, bInt_str, bInt_lst, bStr_str, bLst_lst, uInt_int, uStr_str, uStr_lst, uLst_lst, orE_some, orE_none, bItem_str, bItem_tup, bItem_ro, bItem_lst, bCut_str, bCut_lst, itemOf, uLen_str, uLen_lst, uLen_ro, one_one, Option.map_some]
  rw [if_pos (by (first | lia | omega)), e]

noncomputable def toldS (w : List Nat) (r m : Nat) : List Nat := (List.range m).map fun p => letS w (p / 2 ^ r) (onesS (p % 2 ^ r))
theorem toldS_succ (w : List Nat) (r m : Nat) : toldS w r (m + 1) = toldS w r m ++ [letS w (m / 2 ^ r) (onesS (m % 2 ^ r))] := by
  unfold toldS; rw [List.range_succ, List.map_append]; rfl
noncomputable def bodyL : Sts := Sts.cons (St.aug 7 (Bop.add) (Ex.call 9 (Exs.cons (Ex.var 4) (Exs.cons (Ex.bin (Bop.fdiv) (Ex.var 10) (Ex.bin (Bop.pow) (Ex.int 2) (Ex.var 6))) (Exs.cons (Ex.call 13 (Exs.cons (Ex.bin (Bop.mod) (Ex.var 10) (Ex.bin (Bop.pow) (Ex.int 2) (Ex.var 6))) (Exs.nil))) (Exs.nil)))))) (Sts.cons (St.aug 8 (Bop.add) (Ex.call 10 (Exs.cons (Ex.var 4) (Exs.cons (Ex.var 6) (Exs.cons (Ex.var 10) (Exs.nil)))))) (Sts.cons (St.aug 9 (Bop.add) (Ex.call 12 (Exs.cons (Ex.var 4) (Exs.cons (Ex.var 6) (Exs.cons (Ex.var 10) (Exs.nil)))))) (Sts.nil)))
theorem turnL (T : Tabs) (C : Calls) {w : List Nat} {r p x t : Nat} (hr : r ≤ 3) (h9 : ∀ σ, C 9 [.str w, .int ((p / 2 ^ r : Nat) : Int), .int t] σ = some (.str [x], σ)) (h13 : ∀ σ, C 13 [.int ((p % 2 ^ r : Nat) : Int)] σ = some (.int t, σ)) (h10 : ∀ σ, C 10 [.str w, .int r, .int p] σ = some (.str [x], σ)) (h12 : ∀ σ, C 12 [.str w, .int r, .int p] σ = some (.str [x], σ))
    (a0 a1 a2 a3 a5 : Option V) (told : List Nat) (hl : told.length + 1 ≤ LIM) (σ : Store) :
    exs T C [a0, a1, a2, a3, some (.str w), a5, some (.int r), some (.str told), some (.str told), some (.str told), some (.int p)] σ bodyL =
      some (.next, [a0, a1, a2, a3, some (.str w), a5, some (.int r), some (.str (told ++ [x])), some (.str (told ++ [x])), some (.str (told ++ [x])), some (.int p)], σ) := by
  have hp := pow_ev r (by (first | lia | omega)) σ
  have h2 : 2 ^ r < 1000000000 := Nat.lt_of_le_of_lt (Nat.pow_le_pow_right (by decide) hr) (by decide)
  have h1 : 0 < 2 ^ r := Nat.pow_pos (by decide)
  have hf := fdiv_ev p (2 ^ r) h1 h2 σ
  have hm := mod_ev p (2 ^ r) h1 σ
  have ha : evAug .add (.str told) (.str [x]) σ = some (.str (told ++ [x]), σ) := by simp [evAug, hl]
  simp only [bodyL, exs, ex, ev, evs, hp, hf, hm, h9, h13, h10, h12, ha, List.getElem?_cons_zero, List.getElem?_cons_succ, List.set_cons_zero, List.set_cons_succ, bInt_int, bInt_str, bInt_lst, bStr_str, bLst_lst, uInt_int, uStr_str, uStr_lst, uLst_lst, orE_some, orE_none, bItem_str, bItem_tup, bItem_ro, bItem_lst, bCut_str, bCut_lst, itemOf, uLen_str, uLen_lst, uLen_ro, one_one, Option.map_some]

noncomputable def iteL : St := St.ite (Ex.or (Ex.bin (Bop.ne) (Ex.var 5) (Ex.var 7)) (Ex.or (Ex.bin (Bop.ne) (Ex.var 8) (Ex.var 7)) (Ex.bin (Bop.ne) (Ex.var 9) (Ex.var 7)))) (Sts.cons (St.ret (Ex.bool false)) (Sts.nil)) (Sts.nil)
noncomputable def endL : Ex := Ex.bin (Bop.eq) (Ex.bin (Bop.eq) (Ex.call 15 (Exs.cons (Ex.var 5) (Exs.nil))) (Ex.list (Exs.nil))) (Ex.bin (Bop.inn) (Ex.var 4) (Ex.tup (Exs.cons (Ex.str [104]) (Exs.cons (Ex.str [112]) (Exs.cons (Ex.str [104, 112]) (Exs.cons (Ex.str [112, 104]) (Exs.cons (Ex.str [104, 112, 112, 104]) (Exs.cons (Ex.str [112, 104, 104, 112]) (Exs.nil)))))))))
noncomputable def restL : Sts := Sts.cons (St.set 7 (Ex.str [])) (Sts.cons (St.set 8 (Ex.str [])) (Sts.cons (St.set 9 (Ex.str [])) (Sts.cons (St.forIn 10 (Ex.un (Uop.range) (Ex.bin (Bop.mul) (Ex.un (Uop.len) (Ex.var 4)) (Ex.bin (Bop.pow) (Ex.int 2) (Ex.var 6)))) bodyL) (Sts.cons iteL (Sts.cons (St.ret endL) Sts.nil)))))
noncomputable def memS (w : List Nat) : Bool := ([104] == w || ([112] == w || ([104, 112] == w || ([112, 104] == w || ([104, 112, 112, 104] == w || ([112, 104, 104, 112] == w || false))))))
/-- what is to be looked at for each word -/
structure Fit (w g : List Nat) (r : Nat) : Prop where
  r3 : 1 ≤ r ∧ r ≤ 3
  wl : w.length ≤ 6
  n : (r = 3 → w.length * 2 ^ r ≤ 8) ∧ (r = 2 → w.length * 2 ^ r ≤ 12) ∧ (r = 1 → w.length * 2 ^ r ≤ 12)
  told : toldS w r (w.length * 2 ^ r) = g
  gl : g.length ≤ 100
  p1 : 2 ≤ (plc g 104).length
  p2 : 2 ≤ (plc g 112).length
  sl : (sumsS g 104).length + (sumsS g 112).length < 90000
  fin : ((unlikeS g).isEmpty == memS w) = true
theorem end_ok (T : Tabs) (C : Calls) {w g : List Nat} {U : List Int} (h15 : ∀ σ, C 15 [.str g] σ = some (.lst σ.length, σ ++ [U.map .int])) (hf : (U.isEmpty == memS w) = true) (a0 a1 a2 a3 a6 a7 a8 a9 a10 : Option V) (σ : Store) :
    ∃ σ', ev T C [a0, a1, a2, a3, some (.str w), some (.str g), a6, a7, a8, a9, a10] σ endL = some (.bool true, σ') := by
  have e1 : ev T C [a0, a1, a2, a3, some (.str w), some (.str g), a6, a7, a8, a9, a10] σ (Ex.bin (Bop.eq) (Ex.call 15 (Exs.cons (Ex.var 5) (Exs.nil))) (Ex.list (Exs.nil))) = some (.bool U.isEmpty, σ ++ [U.map .int] ++ [[]]) := by
    cases U with
    | nil => simp [ev, evs, h15, evB, eqList, eqFlat, itemOf]
    | cons a U => simp [ev, evs, h15, evB, eqList, itemOf]
  have e2 : ∀ τ, ev T C [a0, a1, a2, a3, some (.str w), some (.str g), a6, a7, a8, a9, a10] τ (Ex.bin (Bop.inn) (Ex.var 4) (Ex.tup (Exs.cons (Ex.str [104]) (Exs.cons (Ex.str [112]) (Exs.cons (Ex.str [104, 112]) (Exs.cons (Ex.str [112, 104]) (Exs.cons (Ex.str [104, 112, 112, 104]) (Exs.cons (Ex.str [112, 104, 104, 112]) (Exs.nil))))))))) = some (.bool (memS w), τ) := fun τ => rfl
  refine ⟨σ ++ [U.map .int] ++ [[]], ?_⟩
  rw [endL, ev, e1]
  simp only [e2]
  simp only [evB, eqV_str, eqV_bool, eqV_int, Option.map_some, hf, bInt_int, bInt_str, bInt_lst, bStr_str, bLst_lst, uInt_int, uStr_str, uStr_lst, uLst_lst, orE_some, orE_none, bItem_str, bItem_tup, bItem_ro, bItem_lst, bCut_str, bCut_lst, itemOf, uLen_str, uLen_lst, uLen_ro, one_one, Option.map_some]
theorem rest_ok (b1 : List Int) (b3 : List (Int × List Nat)) (d : Nat) {w g : List Nat} {r : Nat} (K : Fit w g r) (a0 a1 a2 a3 : Option V) (σ : Store) :
    ∃ ρ' σ', exs ⟨b1, b3, tokW⟩ (callD ⟨b1, b3, tokW⟩ fns (d + 3)) [a0, a1, a2, a3, some (.str w), some (.str g), some (.int r), none, none, none, none] σ restL = some (.ret (.bool true), ρ', σ') := by
  have h15 := fun σ => unlike_ok ⟨b1, b3, tokW⟩ d g K.gl K.p1 K.p2 K.sl σ
  have turn : ∀ p, p < w.length * 2 ^ r → ∀ (told : List Nat) (σ : Store), told.length + 1 ≤ LIM → exs ⟨b1, b3, tokW⟩ (callD ⟨b1, b3, tokW⟩ fns (d + 3)) [a0, a1, a2, a3, some (.str w), some (.str g), some (.int r), some (.str told), some (.str told), some (.str told), some (.int p)] σ bodyL =
      some (.next, [a0, a1, a2, a3, some (.str w), some (.str g), some (.int r), some (.str (told ++ [letS w (p / 2 ^ r) (onesS (p % 2 ^ r))])), some (.str (told ++ [letS w (p / 2 ^ r) (onesS (p % 2 ^ r))])), some (.str (told ++ [letS w (p / 2 ^ r) (onesS (p % 2 ^ r))])), some (.int p)], σ) := fun p hp told σ hl => by
    have hq : 0 < 2 ^ r := Nat.pow_pos (by decide)
    have hP : p / 2 ^ r < w.length := (Nat.div_lt_iff_lt_mul hq).mpr hp
    have hocc : Occ r p := by
      have := K.r3
      have := K.n
      rcases (show r = 1 ∨ r = 2 ∨ r = 3 by (first | lia | omega)) with e | e | e
      · exact .inr (.inr ⟨e, by have := this.2.2 e; (first | lia | omega)⟩)
      · exact .inr (.inl ⟨e, by have := this.2.1 e; (first | lia | omega)⟩)
      · exact .inl ⟨e, by have := this.1 e; (first | lia | omega)⟩
    have hm : p % 2 ^ r < 8 := Nat.lt_of_lt_of_le (Nat.mod_lt _ hq) (Nat.pow_le_pow_right (show 0 < 2 by decide) K.r3.2)
    exact turnL ⟨b1, b3, tokW⟩ _ K.r3.2 (fun σ => letter_ok ⟨b1, b3, tokW⟩ (d + 2) w _ _ hP σ) (fun σ => ones_ok ⟨b1, b3, tokW⟩ (d + 2) _ hm σ) (fun σ => quotes_ok ⟨b1, b3, tokW⟩ (d + 1) w r p hocc hP σ) (fun σ => stars_ok b1 b3 (d + 1) w r p hocc hP σ) a0 a1 a2 a3 (some (.str g)) told hl σ
  generalize hC : callD ⟨b1, b3, tokW⟩ fns (d + 3) = C at h15 turn ⊢
  generalize hTT : (⟨b1, b3, tokW⟩ : Tabs) = T at turn ⊢
  have hN : w.length * 2 ^ r ≤ 12 := by
    have := K.r3
    have := K.n
    rcases (show r = 1 ∨ r = 2 ∨ r = 3 by (first | lia | omega)) with e | e | e
    · exact this.2.2 e
    · exact this.2.1 e
    · have := this.1 e; (first | lia | omega)
  have hL : LIM = 16777216 := rfl
  have htl : ∀ m, (toldS w r m).length = m := fun m => by unfold toldS; rw [List.length_map, List.length_range]
  obtain ⟨ρ', σ2, hl, x, rfl, hσ⟩ := for_range (n := w.length * 2 ^ r) (f := fun v ρ σ => exs T C (ρ.set 10 (some v)) σ bodyL) (fun m ρ σ' => ∃ x, ρ = [a0, a1, a2, a3, some (.str w), some (.str g), some (.int r), some (.str (toldS w r m)), some (.str (toldS w r m)), some (.str (toldS w r m)), x] ∧ σ' = σ)
    (ρ := [a0, a1, a2, a3, some (.str w), some (.str g), some (.int r), some (.str []), some (.str []), some (.str []), none]) (σ := σ) ⟨none, rfl, rfl⟩ (fun m ρ σ' hm hI => by
      obtain ⟨x, rfl, rfl⟩ := hI
      exact ⟨_, _, turn m hm (toldS w r m) _ (by rw [htl]; (first | lia | omega)), _, by rw [toldS_succ], rfl⟩)
  rw [K.told, hσ] at hl
  have hr : ev T C [a0, a1, a2, a3, some (.str w), some (.str g), some (.int r), some (.str []), some (.str []), some (.str []), none] σ (Ex.un (Uop.range) (Ex.bin (Bop.mul) (Ex.un (Uop.len) (Ex.var 4)) (Ex.bin (Bop.pow) (Ex.int 2) (Ex.var 6)))) = some (.rng 0 1 (w.length * 2 ^ r), σ) := by
    have hp := pow_ev r (by have := K.r3; (first | lia | omega)) σ
    have hq : 2 ^ r ≤ 8 := Nat.pow_le_pow_right (show 0 < 2 by decide) K.r3.2
    have hw := K.wl
    generalize 2 ^ r = q at *
    have hm : evB .mul (.int (w.length : Int)) (.int (q : Int)) σ = some (.int ((w.length * q : Nat) : Int), σ) := by
      simp only [evB, bInt_int, bInt_str, bInt_lst, bStr_str, bLst_lst, uInt_int, uStr_str, uStr_lst, uLst_lst, orE_some, orE_none, bItem_str, bItem_tup, bItem_ro, bItem_lst, bCut_str, bCut_lst, itemOf, uLen_str, uLen_lst, uLen_ro, one_one, Option.map_some]; rw [if_pos ⟨by (first | lia | omega), by (first | lia | omega)⟩]; simp
    simp only [ev, evU, hp, hm, List.getElem?_cons_zero, List.getElem?_cons_succ, bInt_int, bInt_str, bInt_lst, bStr_str, bLst_lst, uInt_int, uStr_str, uStr_lst, uLst_lst, orE_some, orE_none, bItem_str, bItem_tup, bItem_ro, bItem_lst, bCut_str, bCut_lst, itemOf, uLen_str, uLen_lst, uLen_ro, one_one, Option.map_some]
    rw [if_pos ⟨by (first | lia | omega), by (first | lia | omega)⟩]; rfl
  have hi : ex T C [a0, a1, a2, a3, some (.str w), some (.str g), some (.int r), some (.str g), some (.str g), some (.str g), x] σ iteL = some (.next, [a0, a1, a2, a3, some (.str w), some (.str g), some (.int r), some (.str g), some (.str g), some (.str g), x], σ) := by
    simp [iteL, ex, exs, ev, evB, itemOf]
  obtain ⟨σ', he⟩ := end_ok T C h15 K.fin a0 a1 a2 a3 (some (.int r)) (some (.str g)) (some (.str g)) (some (.str g)) x σ
  exact ⟨_, σ', (exs_next (ex_set (v := .str []) (σ' := σ) (by simp [ev]))).trans ((exs_next (ex_set (v := .str []) (σ' := σ) (by simp [ev]))).trans ((exs_next (ex_set (v := .str []) (σ' := σ) (by simp [ev]))).trans ((exs_next (ex_for hr rfl hl)).trans ((exs_next hi).trans (exs_ret he)))))⟩
end W1
end Mine
end

section
set_option Elab.async false
set_option linter.unusedVariables false
set_option linter.unusedSimpArgs false
set_option maxRecDepth 100000
namespace Mine
namespace W1
noncomputable def b1W : List Int := [65024, 65025, 65026, 65027, 65028, 65029, 6150, 65030, 65031, 65032, 65033, 6155, 6156, 6157, 8203, 8204, 8205, 65034, 65035, 65036, 65037, 65038, 65039, 173, 847, 8288, 65279]
/-- what the law needs of the table -/
structure B3 (b3 : List (Int × List Nat)) : Prop where
  hp : b3.lookup 13259 = some [104, 112]
  ph : b3.lookup 13271 = some [112, 104]
  h : b3.lookup 119815 = some [104]
  p : b3.lookup 119823 = some [112]
  H : b3.lookup 72 = none
  P : b3.lookup 80 = none
section
variable (b3 : List (Int × List Nat)) (d : Nat) (σ : Store)
theorem sp_104_0_0 : callD ⟨b1W, b3, tokW⟩ fns (d + 1) 7 [.str [104], .int 0, .int 0] σ = some (.str [13259], σ) := by kernel_rfl
theorem sp_104_0_1 : callD ⟨b1W, b3, tokW⟩ fns (d + 1) 7 [.str [104], .int 0, .int 1] σ = some (.str [72, 65024, 119823], σ) := by kernel_rfl
theorem sp_104_1_0 : callD ⟨b1W, b3, tokW⟩ fns (d + 1) 7 [.str [104], .int 1, .int 0] σ = some (.str [13259], σ) := by kernel_rfl
theorem sp_104_1_1 : callD ⟨b1W, b3, tokW⟩ fns (d + 1) 7 [.str [104], .int 1, .int 1] σ = some (.str [72, 65025, 119823], σ) := by kernel_rfl
theorem sp_104_2_0 : callD ⟨b1W, b3, tokW⟩ fns (d + 1) 7 [.str [104], .int 2, .int 0] σ = some (.str [13259], σ) := by kernel_rfl
theorem sp_104_2_1 : callD ⟨b1W, b3, tokW⟩ fns (d + 1) 7 [.str [104], .int 2, .int 1] σ = some (.str [72, 65026, 119823], σ) := by kernel_rfl
theorem sp_104_3_0 : callD ⟨b1W, b3, tokW⟩ fns (d + 1) 7 [.str [104], .int 3, .int 0] σ = some (.str [13259], σ) := by kernel_rfl
theorem sp_104_3_1 : callD ⟨b1W, b3, tokW⟩ fns (d + 1) 7 [.str [104], .int 3, .int 1] σ = some (.str [72, 65027, 119823], σ) := by kernel_rfl
theorem sp_104_4_0 : callD ⟨b1W, b3, tokW⟩ fns (d + 1) 7 [.str [104], .int 4, .int 0] σ = some (.str [13259], σ) := by kernel_rfl
theorem sp_104_4_1 : callD ⟨b1W, b3, tokW⟩ fns (d + 1) 7 [.str [104], .int 4, .int 1] σ = some (.str [72, 65028, 119823], σ) := by kernel_rfl
theorem sp_104_5_0 : callD ⟨b1W, b3, tokW⟩ fns (d + 1) 7 [.str [104], .int 5, .int 0] σ = some (.str [13259], σ) := by kernel_rfl
theorem sp_104_5_1 : callD ⟨b1W, b3, tokW⟩ fns (d + 1) 7 [.str [104], .int 5, .int 1] σ = some (.str [72, 65029, 119823], σ) := by kernel_rfl
theorem sp_112_0_0 : callD ⟨b1W, b3, tokW⟩ fns (d + 1) 7 [.str [112], .int 0, .int 0] σ = some (.str [13271], σ) := by kernel_rfl
theorem sp_112_0_1 : callD ⟨b1W, b3, tokW⟩ fns (d + 1) 7 [.str [112], .int 0, .int 1] σ = some (.str [80, 65024, 119815], σ) := by kernel_rfl
theorem sp_112_1_0 : callD ⟨b1W, b3, tokW⟩ fns (d + 1) 7 [.str [112], .int 1, .int 0] σ = some (.str [13271], σ) := by kernel_rfl
theorem sp_112_1_1 : callD ⟨b1W, b3, tokW⟩ fns (d + 1) 7 [.str [112], .int 1, .int 1] σ = some (.str [80, 65025, 119815], σ) := by kernel_rfl
theorem sp_112_2_0 : callD ⟨b1W, b3, tokW⟩ fns (d + 1) 7 [.str [112], .int 2, .int 0] σ = some (.str [13271], σ) := by kernel_rfl
theorem sp_112_2_1 : callD ⟨b1W, b3, tokW⟩ fns (d + 1) 7 [.str [112], .int 2, .int 1] σ = some (.str [80, 65026, 119815], σ) := by kernel_rfl
theorem sp_112_3_0 : callD ⟨b1W, b3, tokW⟩ fns (d + 1) 7 [.str [112], .int 3, .int 0] σ = some (.str [13271], σ) := by kernel_rfl
theorem sp_112_3_1 : callD ⟨b1W, b3, tokW⟩ fns (d + 1) 7 [.str [112], .int 3, .int 1] σ = some (.str [80, 65027, 119815], σ) := by kernel_rfl
theorem sp_112_4_0 : callD ⟨b1W, b3, tokW⟩ fns (d + 1) 7 [.str [112], .int 4, .int 0] σ = some (.str [13271], σ) := by kernel_rfl
theorem sp_112_4_1 : callD ⟨b1W, b3, tokW⟩ fns (d + 1) 7 [.str [112], .int 4, .int 1] σ = some (.str [80, 65028, 119815], σ) := by kernel_rfl
theorem sp_112_5_0 : callD ⟨b1W, b3, tokW⟩ fns (d + 1) 7 [.str [112], .int 5, .int 0] σ = some (.str [13271], σ) := by kernel_rfl
theorem sp_112_5_1 : callD ⟨b1W, b3, tokW⟩ fns (d + 1) 7 [.str [112], .int 5, .int 1] σ = some (.str [80, 65029, 119815], σ) := by kernel_rfl
theorem in_72 : callD ⟨b1W, b3, tokW⟩ fns (d + 1) 0 [.str [72]] σ = some (.bool false, σ) := by kernel_rfl
theorem in_80 : callD ⟨b1W, b3, tokW⟩ fns (d + 1) 0 [.str [80]] σ = some (.bool false, σ) := by kernel_rfl
theorem in_13259 : callD ⟨b1W, b3, tokW⟩ fns (d + 1) 0 [.str [13259]] σ = some (.bool false, σ) := by kernel_rfl
theorem in_13271 : callD ⟨b1W, b3, tokW⟩ fns (d + 1) 0 [.str [13271]] σ = some (.bool false, σ) := by kernel_rfl
theorem in_119815 : callD ⟨b1W, b3, tokW⟩ fns (d + 1) 0 [.str [119815]] σ = some (.bool false, σ) := by kernel_rfl
theorem in_119823 : callD ⟨b1W, b3, tokW⟩ fns (d + 1) 0 [.str [119823]] σ = some (.bool false, σ) := by kernel_rfl
theorem in_65024 : callD ⟨b1W, b3, tokW⟩ fns (d + 1) 0 [.str [65024]] σ = some (.bool true, σ) := by kernel_rfl
theorem in_65025 : callD ⟨b1W, b3, tokW⟩ fns (d + 1) 0 [.str [65025]] σ = some (.bool true, σ) := by kernel_rfl
theorem in_65026 : callD ⟨b1W, b3, tokW⟩ fns (d + 1) 0 [.str [65026]] σ = some (.bool true, σ) := by kernel_rfl
theorem in_65027 : callD ⟨b1W, b3, tokW⟩ fns (d + 1) 0 [.str [65027]] σ = some (.bool true, σ) := by kernel_rfl
theorem in_65028 : callD ⟨b1W, b3, tokW⟩ fns (d + 1) 0 [.str [65028]] σ = some (.bool true, σ) := by kernel_rfl
theorem in_65029 : callD ⟨b1W, b3, tokW⟩ fns (d + 1) 0 [.str [65029]] σ = some (.bool true, σ) := by kernel_rfl
theorem mp_13259 (K : B3 b3) : callD ⟨b1W, b3, tokW⟩ fns (d + 1) 1 [.str [13259]] σ = some (.str [104, 112], σ) := by
  simp [callD, fns, fn1, noLsts, noLst, exs, ex, ev, evU, evB, giveBack, K.hp, itemOf]
theorem mp_13271 (K : B3 b3) : callD ⟨b1W, b3, tokW⟩ fns (d + 1) 1 [.str [13271]] σ = some (.str [112, 104], σ) := by
  simp [callD, fns, fn1, noLsts, noLst, exs, ex, ev, evU, evB, giveBack, K.ph, itemOf]
theorem mp_119815 (K : B3 b3) : callD ⟨b1W, b3, tokW⟩ fns (d + 1) 1 [.str [119815]] σ = some (.str [104], σ) := by
  simp [callD, fns, fn1, noLsts, noLst, exs, ex, ev, evU, evB, giveBack, K.h, itemOf]
theorem mp_119823 (K : B3 b3) : callD ⟨b1W, b3, tokW⟩ fns (d + 1) 1 [.str [119823]] σ = some (.str [112], σ) := by
  simp [callD, fns, fn1, noLsts, noLst, exs, ex, ev, evU, evB, giveBack, K.p, itemOf]
theorem mp_72 (K : B3 b3) : callD ⟨b1W, b3, tokW⟩ fns (d + 1) 1 [.str [72]] σ = some (.str [104], σ) := by
  simp [callD, fns, fn1, noLsts, noLst, exs, ex, ev, evU, evB, giveBack, K.H, lowA, itemOf]
theorem mp_80 (K : B3 b3) : callD ⟨b1W, b3, tokW⟩ fns (d + 1) 1 [.str [80]] σ = some (.str [112], σ) := by
  simp [callD, fns, fn1, noLsts, noLst, exs, ex, ev, evU, evB, giveBack, K.P, lowA, itemOf]
end
end W1
end Mine
end

section
set_option Elab.async false
set_option linter.unusedVariables false
set_option linter.unusedSimpArgs false
namespace Mine
namespace W1
noncomputable def B5 : Sts := Sts.cons (St.ite (Ex.bin (Bop.is) (Ex.call 0 (Exs.cons (Ex.var 5) (Exs.nil))) (Ex.bool false)) (Sts.cons (St.aug 3 (Bop.add) (Ex.call 1 (Exs.cons (Ex.var 5) (Exs.nil)))) (Sts.nil)) (Sts.nil)) (Sts.nil)
section
variable (T : Tabs) (C : Calls) (a0 a1 a2 a4 : Option V) (G : List Nat) (σ : Store)
theorem keep {y : Nat} {m : List Nat} (h0 : ∀ σ, C 0 [.str [y]] σ = some (.bool false, σ)) (h1 : ∀ σ, C 1 [.str [y]] σ = some (.str m, σ)) (hl : G.length + m.length ≤ LIM) :
    exs T C [a0, a1, a2, some (.str G), a4, some (.str [y])] σ B5 = some (.next, [a0, a1, a2, some (.str (G ++ m)), a4, some (.str [y])], σ) := by
  simp [B5, exs, ex, ev, evs, evB, evAug, h0, h1, hl, itemOf]
theorem skip {y : Nat} (h0 : ∀ σ, C 0 [.str [y]] σ = some (.bool true, σ)) :
    exs T C [a0, a1, a2, some (.str G), a4, some (.str [y])] σ B5 = some (.next, [a0, a1, a2, some (.str G), a4, some (.str [y])], σ) := by
  simp [B5, exs, ex, ev, evs, evB, h0, itemOf]
theorem inner1 {src : Ex} {y : Nat} {m : List Nat} {a5 : Option V} (h : ev T C [a0, a1, a2, some (.str G), a4, a5] σ src = some (.str [y], σ)) (h0 : ∀ σ, C 0 [.str [y]] σ = some (.bool false, σ)) (h1 : ∀ σ, C 1 [.str [y]] σ = some (.str m, σ)) (hl : G.length + m.length ≤ LIM) :
    ex T C [a0, a1, a2, some (.str G), a4, a5] σ (.forIn 5 src B5) = some (.next, [a0, a1, a2, some (.str (G ++ m)), a4, some (.str [y])], σ) := by
  refine ex_for h rfl ?_
  simp only [List.map_cons, List.map_nil, Src.fuel, List.length_cons, List.length_nil, Nat.zero_add, Nat.reduceAdd]
  simp only [exLoop, Src.get, List.getElem?_cons_zero, List.getElem?_cons_succ, List.getElem?_nil, List.set_cons_zero, List.set_cons_succ, keep T C a0 a1 a2 a4 _ σ h0 h1 hl]
theorem inner3 {src : Ex} {y v z a b : Nat} {a5 : Option V} (h : ev T C [a0, a1, a2, some (.str G), a4, a5] σ src = some (.str [y, v, z], σ)) (h0 : ∀ σ, C 0 [.str [y]] σ = some (.bool false, σ)) (h1 : ∀ σ, C 1 [.str [y]] σ = some (.str [a], σ)) (hv : ∀ σ, C 0 [.str [v]] σ = some (.bool true, σ)) (hz : ∀ σ, C 0 [.str [z]] σ = some (.bool false, σ)) (hz1 : ∀ σ, C 1 [.str [z]] σ = some (.str [b], σ)) (hl : G.length + 2 ≤ LIM) :
    ex T C [a0, a1, a2, some (.str G), a4, a5] σ (.forIn 5 src B5) = some (.next, [a0, a1, a2, some (.str (G ++ [a, b])), a4, some (.str [z])], σ) := by
  refine ex_for h rfl ?_
  have e : G ++ [a] ++ [b] = G ++ [a, b] := by simp
  have k1 := keep T C a0 a1 a2 a4 G σ h0 h1 (by simp; (first | lia | omega))
  have k2 := skip T C a0 a1 a2 a4 (G ++ [a]) σ hv
  have k3 := keep T C a0 a1 a2 a4 (G ++ [a]) σ hz hz1 (by simp; (first | lia | omega))
  rw [e] at k3
  simp only [List.map_cons, List.map_nil, Src.fuel, List.length_cons, List.length_nil, Nat.zero_add, Nat.reduceAdd]
  simp only [exLoop, Src.get, List.getElem?_cons_zero, List.getElem?_cons_succ, List.getElem?_nil, List.set_cons_zero, List.set_cons_succ, k1, k2, k3]
end
noncomputable def pairS (c : Nat) : List Nat := if c = 104 then [104, 112] else [112, 104]
theorem inner_ok (b3 : List (Int × List Nat)) (K : B3 b3) (d : Nat) (a0 a1 a2 a4 a5 : Option V) (G : List Nat) (σ : Store) {src : Ex} {c k f : Nat} (hc : c = 104 ∨ c = 112) (hk : k < 6) (hf : f = 0 ∨ f = 1) (hl : G.length + 2 ≤ LIM)
    (h : ev ⟨b1W, b3, tokW⟩ (callD ⟨b1W, b3, tokW⟩ fns (d + 1)) [a0, a1, a2, some (.str G), a4, a5] σ src = callD ⟨b1W, b3, tokW⟩ fns (d + 1) 7 [.str [c], .int k, .int f] σ) :
    ∃ x, ex ⟨b1W, b3, tokW⟩ (callD ⟨b1W, b3, tokW⟩ fns (d + 1)) [a0, a1, a2, some (.str G), a4, a5] σ (.forIn 5 src B5) = some (.next, [a0, a1, a2, some (.str (G ++ pairS c)), a4, x], σ) := by
  have i1 := fun σ => in_72 b3 d σ
  have i2 := fun σ => in_80 b3 d σ
  have i3 := fun σ => in_13259 b3 d σ
  have i4 := fun σ => in_13271 b3 d σ
  have i5 := fun σ => in_119815 b3 d σ
  have i6 := fun σ => in_119823 b3 d σ
  have m1 := fun σ => mp_13259 b3 d σ K
  have m2 := fun σ => mp_13271 b3 d σ K
  have m3 := fun σ => mp_119815 b3 d σ K
  have m4 := fun σ => mp_119823 b3 d σ K
  have m5 := fun σ => mp_72 b3 d σ K
  have m6 := fun σ => mp_80 b3 d σ K
  rcases hc with rfl | rfl <;> rcases hf with rfl | rfl <;> rcases (show k = 0 ∨ k = 1 ∨ k = 2 ∨ k = 3 ∨ k = 4 ∨ k = 5 by (first | lia | omega)) with rfl | rfl | rfl | rfl | rfl | rfl
  · exact ⟨_, inner1 _ _ _ _ _ _ _ _ (h.trans (sp_104_0_0 b3 d σ)) i3 m1 hl⟩
  · exact ⟨_, inner1 _ _ _ _ _ _ _ _ (h.trans (sp_104_1_0 b3 d σ)) i3 m1 hl⟩
  · exact ⟨_, inner1 _ _ _ _ _ _ _ _ (h.trans (sp_104_2_0 b3 d σ)) i3 m1 hl⟩
  · exact ⟨_, inner1 _ _ _ _ _ _ _ _ (h.trans (sp_104_3_0 b3 d σ)) i3 m1 hl⟩
  · exact ⟨_, inner1 _ _ _ _ _ _ _ _ (h.trans (sp_104_4_0 b3 d σ)) i3 m1 hl⟩
  · exact ⟨_, inner1 _ _ _ _ _ _ _ _ (h.trans (sp_104_5_0 b3 d σ)) i3 m1 hl⟩
  · exact ⟨_, inner3 _ _ _ _ _ _ _ _ (h.trans (sp_104_0_1 b3 d σ)) i1 m5 (fun σ => in_65024 b3 d σ) i6 m4 hl⟩
  · exact ⟨_, inner3 _ _ _ _ _ _ _ _ (h.trans (sp_104_1_1 b3 d σ)) i1 m5 (fun σ => in_65025 b3 d σ) i6 m4 hl⟩
  · exact ⟨_, inner3 _ _ _ _ _ _ _ _ (h.trans (sp_104_2_1 b3 d σ)) i1 m5 (fun σ => in_65026 b3 d σ) i6 m4 hl⟩
  · exact ⟨_, inner3 _ _ _ _ _ _ _ _ (h.trans (sp_104_3_1 b3 d σ)) i1 m5 (fun σ => in_65027 b3 d σ) i6 m4 hl⟩
  · exact ⟨_, inner3 _ _ _ _ _ _ _ _ (h.trans (sp_104_4_1 b3 d σ)) i1 m5 (fun σ => in_65028 b3 d σ) i6 m4 hl⟩
  · exact ⟨_, inner3 _ _ _ _ _ _ _ _ (h.trans (sp_104_5_1 b3 d σ)) i1 m5 (fun σ => in_65029 b3 d σ) i6 m4 hl⟩
  · exact ⟨_, inner1 _ _ _ _ _ _ _ _ (h.trans (sp_112_0_0 b3 d σ)) i4 m2 hl⟩
  · exact ⟨_, inner1 _ _ _ _ _ _ _ _ (h.trans (sp_112_1_0 b3 d σ)) i4 m2 hl⟩
  · exact ⟨_, inner1 _ _ _ _ _ _ _ _ (h.trans (sp_112_2_0 b3 d σ)) i4 m2 hl⟩
  · exact ⟨_, inner1 _ _ _ _ _ _ _ _ (h.trans (sp_112_3_0 b3 d σ)) i4 m2 hl⟩
  · exact ⟨_, inner1 _ _ _ _ _ _ _ _ (h.trans (sp_112_4_0 b3 d σ)) i4 m2 hl⟩
  · exact ⟨_, inner1 _ _ _ _ _ _ _ _ (h.trans (sp_112_5_0 b3 d σ)) i4 m2 hl⟩
  · exact ⟨_, inner3 _ _ _ _ _ _ _ _ (h.trans (sp_112_0_1 b3 d σ)) i2 m6 (fun σ => in_65024 b3 d σ) i5 m3 hl⟩
  · exact ⟨_, inner3 _ _ _ _ _ _ _ _ (h.trans (sp_112_1_1 b3 d σ)) i2 m6 (fun σ => in_65025 b3 d σ) i5 m3 hl⟩
  · exact ⟨_, inner3 _ _ _ _ _ _ _ _ (h.trans (sp_112_2_1 b3 d σ)) i2 m6 (fun σ => in_65026 b3 d σ) i5 m3 hl⟩
  · exact ⟨_, inner3 _ _ _ _ _ _ _ _ (h.trans (sp_112_3_1 b3 d σ)) i2 m6 (fun σ => in_65027 b3 d σ) i5 m3 hl⟩
  · exact ⟨_, inner3 _ _ _ _ _ _ _ _ (h.trans (sp_112_4_1 b3 d σ)) i2 m6 (fun σ => in_65028 b3 d σ) i5 m3 hl⟩
  · exact ⟨_, inner3 _ _ _ _ _ _ _ _ (h.trans (sp_112_5_1 b3 d σ)) i2 m6 (fun σ => in_65029 b3 d σ) i5 m3 hl⟩
end W1
end Mine
end

section
set_option Elab.async false
set_option linter.unusedVariables false
set_option linter.unusedSimpArgs false
namespace Mine
namespace W1
noncomputable def growS (w : List Nat) : List Nat := (w.map pairS).flatten
theorem pairS_length (c : Nat) : (pairS c).length = 2 := by unfold pairS; split <;> rfl
theorem growS_length (w : List Nat) : (growS w).length = 2 * w.length := by
  induction w with
  | nil => rfl
  | cons c w ih => simp only [growS, List.map_cons, List.flatten_cons, List.length_append, pairS_length, List.length_cons] at ih ⊢; (first | lia | omega)
theorem growS_two {w : List Nat} : ∀ c ∈ growS w, c = 104 ∨ c = 112 := by
  intro c hc
  simp only [growS, List.mem_flatten, List.mem_map] at hc
  obtain ⟨l, ⟨a, _, rfl⟩, hl⟩ := hc
  unfold pairS at hl
  split at hl <;> simp at hl <;> (first | lia | omega)
noncomputable def src7 : Ex := Ex.call 7 (Exs.cons (Ex.bin (Bop.item) (Ex.var 0) (Ex.var 4)) (Exs.cons (Ex.var 4) (Exs.cons (Ex.bin (Bop.mod) (Ex.bin (Bop.fdiv) (Ex.var 1) (Ex.bin (Bop.pow) (Ex.int 2) (Ex.var 4))) (Ex.int 2)) (Exs.nil))))
theorem fmod_two (x : Int) : ∃ f : Nat, (f = 0 ∨ f = 1) ∧ x.fmod 2 = (f : Int) := by
  have h1 := Int.fmod_nonneg_of_pos x (show (0 : Int) < 2 by decide)
  have h2 := Int.fmod_lt_of_pos x (show (0 : Int) < 2 by decide)
  exact ⟨(x.fmod 2).toNat, by (first | lia | omega), by (first | lia | omega)⟩
theorem item_str {w : List Nat} {k : Nat} (hk : k < w.length) (σ : Store) : evB .item (.str w) (.int k) σ = some (.str [w[k]], σ) := by
  have hp : place (k : Int) w.length = some k := by unfold place; rw [if_pos (by (first | lia | omega)), Int.toNat_natCast, if_pos hk]
  simp only [evB, hp, List.getElem?_eq_getElem hk, bInt_int, bInt_str, bInt_lst, bStr_str, bLst_lst, uInt_int, uStr_str, uStr_lst, uLst_lst, orE_some, orE_none, bItem_str, bItem_tup, bItem_ro, bItem_lst, bCut_str, bCut_lst, itemOf, uLen_str, uLen_lst, uLen_ro, one_one, Option.map_some]
theorem fdiv_pow (s : Int) (k : Nat) (hk : k < 6) (σ : Store) : evB .fdiv (.int s) (.int ((2 ^ k : Nat) : Int)) σ = some (.int (s.fdiv ((2 ^ k : Nat) : Int)), σ) := by
  have h1 : 0 < 2 ^ k := Nat.pow_pos (by decide)
  have h2 : 2 ^ k < 1000000000 := Nat.lt_of_le_of_lt (Nat.pow_le_pow_right (by decide) (show k ≤ 6 by (first | lia | omega))) (by decide)
  simp only [evB, bInt_int, bInt_str, bInt_lst, bStr_str, bLst_lst, uInt_int, uStr_str, uStr_lst, uLst_lst, orE_some, orE_none, bItem_str, bItem_tup, bItem_ro, bItem_lst, bCut_str, bCut_lst, itemOf, uLen_str, uLen_lst, uLen_ro, one_one, Option.map_some]
  rw [if_pos ⟨by (first | lia | omega), by (first | lia | omega)⟩]
theorem mod_two (x : Int) (σ : Store) : evB .mod (.int x) (.int 2) σ = some (.int (x.fmod 2), σ) := by
  simp [evB, itemOf]
theorem src7_ok (T : Tabs) (C : Calls) {w : List Nat} (s : Int) {k : Nat} (hk : k < w.length) (h6 : k < 6) (a2 a3 a5 : Option V) (σ : Store) :
    ∃ f : Nat, (f = 0 ∨ f = 1) ∧ ev T C [some (.str w), some (.int s), a2, a3, some (.int k), a5] σ src7 = C 7 [.str [w[k]], .int k, .int f] σ := by
  obtain ⟨f, hf, e⟩ := fmod_two (s.fdiv ((2 ^ k : Nat) : Int))
  refine ⟨f, hf, ?_⟩
  have hp := pow_ev k (by (first | lia | omega)) σ
  have hd := fdiv_pow s k h6 σ
  have hm := mod_two (s.fdiv ((2 ^ k : Nat) : Int)) σ
  rw [e] at hm
  simp only [src7, ev, evs, item_str hk, hp, hd, hm, List.getElem?_cons_zero, List.getElem?_cons_succ]
noncomputable def bodyG : Sts := Sts.cons (St.forIn 5 src7 B5) Sts.nil
theorem round_ok (b3 : List (Int × List Nat)) (K : B3 b3) (d : Nat) {w : List Nat} (hw : ∀ c ∈ w, c = 104 ∨ c = 112) (h6 : w.length ≤ 6) (s : Int) (a2 a4 a5 : Option V) (σ : Store) :
    ∃ x4 x5, ex ⟨b1W, b3, tokW⟩ (callD ⟨b1W, b3, tokW⟩ fns (d + 1)) [some (.str w), some (.int s), a2, some (.str []), a4, a5] σ (.forIn 4 (Ex.un (Uop.range) (Ex.un (Uop.len) (Ex.var 0))) bodyG) =
      some (.next, [some (.str w), some (.int s), a2, some (.str (growS w)), x4, x5], σ) := by
  have turn : ∀ k (hk : k < w.length) (G : List Nat) (a5 : Option V), G.length + 2 ≤ LIM → ∃ x, exs ⟨b1W, b3, tokW⟩ (callD ⟨b1W, b3, tokW⟩ fns (d + 1)) [some (.str w), some (.int s), a2, some (.str G), some (.int k), a5] σ bodyG =
      some (.next, [some (.str w), some (.int s), a2, some (.str (G ++ pairS w[k])), some (.int k), x], σ) := fun k hk G a5 hG => by
    obtain ⟨f, hf, e⟩ := src7_ok ⟨b1W, b3, tokW⟩ (callD ⟨b1W, b3, tokW⟩ fns (d + 1)) s hk (by (first | lia | omega)) a2 (some (.str G)) a5 σ
    obtain ⟨x, h⟩ := inner_ok b3 K d (some (.str w)) (some (.int s)) a2 (some (.int k)) a5 G σ (hw _ (List.getElem_mem hk)) (show k < 6 by (first | lia | omega)) hf hG e
    exact ⟨x, (exs_next h).trans rfl⟩
  generalize hC : callD ⟨b1W, b3, tokW⟩ fns (d + 1) = C at turn ⊢
  generalize hTT : (⟨b1W, b3, tokW⟩ : Tabs) = T at turn ⊢
  have hL : LIM = 16777216 := rfl
  have htake : ∀ m (hm : m < w.length), growS (w.take (m + 1)) = growS (w.take m) ++ pairS w[m] := fun m hm => by
    unfold growS
    rw [List.take_succ_eq_append_getElem hm, List.map_append, List.flatten_append]
    simp only [List.map_cons, List.map_nil, List.flatten_cons, List.flatten_nil, List.append_nil]
  have hr : ev T C [some (.str w), some (.int s), a2, some (.str []), a4, a5] σ (Ex.un (Uop.range) (Ex.un (Uop.len) (Ex.var 0))) = some (.rng 0 1 w.length, σ) := by
    simp only [ev, evU, List.getElem?_cons_zero, bInt_int, bInt_str, bInt_lst, bStr_str, bLst_lst, uInt_int, uStr_str, uStr_lst, uLst_lst, orE_some, orE_none, bItem_str, bItem_tup, bItem_ro, bItem_lst, bCut_str, bCut_lst, itemOf, uLen_str, uLen_lst, uLen_ro, one_one, Option.map_some]
    rw [if_pos ⟨by (first | lia | omega), by (first | lia | omega)⟩]; rfl
  obtain ⟨ρ', σ2, hl, x4, x5, rfl, hσ⟩ := for_range (n := w.length) (f := fun v ρ σ => exs T C (ρ.set 4 (some v)) σ bodyG) (fun m ρ σ' => ∃ x4 x5, ρ = [some (.str w), some (.int s), a2, some (.str (growS (w.take m))), x4, x5] ∧ σ' = σ)
    (ρ := [some (.str w), some (.int s), a2, some (.str []), a4, a5]) (σ := σ) ⟨a4, a5, rfl, rfl⟩ (fun m ρ σ' hm hI => by
      obtain ⟨x4, x5, rfl, rfl⟩ := hI
      obtain ⟨x, h⟩ := turn m hm (growS (w.take m)) x5 (by rw [growS_length, List.length_take]; (first | lia | omega))
      exact ⟨_, _, h, _, _, by rw [htake m hm], rfl⟩)
  subst hσ
  rw [List.take_length] at hl
  exact ⟨x4, x5, ex_for hr rfl hl⟩
/-- the rounds -/
noncomputable def growW : Nat → List Nat → Nat → List Nat × Nat
  | 0, w, r => (w, r)
  | n + 1, w, r => if w.length ≤ 6 ∧ r < 3 then growW n (growS w) (r + 1) else (w, r)
noncomputable def condG : Ex := Ex.and (Ex.bin (Bop.le) (Ex.un (Uop.len) (Ex.var 0)) (Ex.int 6)) (Ex.bin (Bop.lt) (Ex.var 2) (Ex.int 3))
noncomputable def bodyW : Sts := Sts.cons (St.set 3 (Ex.str [])) (Sts.cons (St.forIn 4 (Ex.un (Uop.range) (Ex.un (Uop.len) (Ex.var 0))) bodyG) (Sts.cons (St.set 0 (Ex.var 3)) (Sts.cons (St.aug 2 (Bop.add) (Ex.int 1)) (Sts.nil))))
theorem bodyW_ok (b3 : List (Int × List Nat)) (K : B3 b3) (d : Nat) {w : List Nat} (hw : ∀ c ∈ w, c = 104 ∨ c = 112) (h6 : w.length ≤ 6) (s : Int) (r : Nat) (a3 a4 a5 : Option V) (σ : Store) :
    ∃ x3 x4 x5, exs ⟨b1W, b3, tokW⟩ (callD ⟨b1W, b3, tokW⟩ fns (d + 1)) [some (.str w), some (.int s), some (.int r), a3, a4, a5] σ bodyW =
      some (.next, [some (.str (growS w)), some (.int s), some (.int ((r + 1 : Nat) : Int)), x3, x4, x5], σ) := by
  obtain ⟨x4, x5, h⟩ := round_ok b3 K d hw h6 s (some (.int r)) a4 a5 σ
  generalize callD ⟨b1W, b3, tokW⟩ fns (d + 1) = C at h ⊢
  generalize (⟨b1W, b3, tokW⟩ : Tabs) = T at h ⊢
  refine ⟨some (.str (growS w)), x4, x5, (exs_next (ex_set (v := .str []) (σ' := σ) (by simp [ev]))).trans ((exs_next h).trans ((exs_next (ex_set (v := .str (growS w)) (σ' := σ) (by simp [ev]))).trans ?_))⟩
  simp [exs, ex, ev, evAug, evB, itemOf]
theorem condG_ok (T : Tabs) (C : Calls) (w : List Nat) (s : Int) (r : Nat) (a3 a4 a5 : Option V) (σ : Store) :
    ev T C [some (.str w), some (.int s), some (.int r), a3, a4, a5] σ condG = some (.bool (decide (w.length ≤ 6 ∧ r < 3)), σ) := by
  have h1 : evB .le (.int (w.length : Int)) (.int 6) σ = some (.bool (decide (w.length ≤ 6)), σ) := by simp only [evB, bInt_int, bInt_str, bInt_lst, bStr_str, bLst_lst, uInt_int, uStr_str, uStr_lst, uLst_lst, orE_some, orE_none, bItem_str, bItem_tup, bItem_ro, bItem_lst, bCut_str, bCut_lst, itemOf, uLen_str, uLen_lst, uLen_ro, one_one, Option.map_some]; congr 3; simp; (first | lia | omega)
  have h2 : evB .lt (.int (r : Int)) (.int 3) σ = some (.bool (decide (r < 3)), σ) := by simp only [evB, bInt_int, bInt_str, bInt_lst, bStr_str, bLst_lst, uInt_int, uStr_str, uStr_lst, uLst_lst, orE_some, orE_none, bItem_str, bItem_tup, bItem_ro, bItem_lst, bCut_str, bCut_lst, itemOf, uLen_str, uLen_lst, uLen_ro, one_one, Option.map_some]; congr 3; simp; (first | lia | omega)
  simp only [condG, ev, evU, List.getElem?_cons_zero, List.getElem?_cons_succ, h1, h2, bInt_int, bInt_str, bInt_lst, bStr_str, bLst_lst, uInt_int, uStr_str, uStr_lst, uLst_lst, orE_some, orE_none, bItem_str, bItem_tup, bItem_ro, bItem_lst, bCut_str, bCut_lst, itemOf, uLen_str, uLen_lst, uLen_ro, one_one, Option.map_some]
  by_cases a : w.length ≤ 6
  · simp [a, h2]
  · simp [a, h2]
theorem while_ok (b3 : List (Int × List Nat)) (K : B3 b3) (d : Nat) (s : Int) (σ : Store) : ∀ (n k : Nat) (w : List Nat) (r : Nat) (a3 a4 a5 : Option V), (∀ c ∈ w, c = 104 ∨ c = 112) → 3 ≤ r + n → n < k →
    ∃ x3 x4 x5, exWhile (fun ρ σ => match ev ⟨b1W, b3, tokW⟩ (callD ⟨b1W, b3, tokW⟩ fns (d + 1)) ρ σ condG with | some (.bool x, σ') => some (x, σ') | _ => none) (fun ρ σ => exs ⟨b1W, b3, tokW⟩ (callD ⟨b1W, b3, tokW⟩ fns (d + 1)) ρ σ bodyW) k [some (.str w), some (.int s), some (.int r), a3, a4, a5] σ =
      some (.next, [some (.str (growW n w r).1), some (.int s), some (.int (growW n w r).2), x3, x4, x5], σ)
  | n, 0, w, r, a3, a4, a5, hw, h3, hk => absurd hk (by (first | lia | omega))
  | 0, k + 1, w, r, a3, a4, a5, hw, h3, hk => ⟨a3, a4, a5, by
    have hc := condG_ok ⟨b1W, b3, tokW⟩ (callD ⟨b1W, b3, tokW⟩ fns (d + 1)) w s r a3 a4 a5 σ
    rw [decide_eq_false (by (first | lia | omega))] at hc
    rw [exWhile, hc]; rfl⟩
  | n + 1, k + 1, w, r, a3, a4, a5, hw, h3, hk => by
    have hc := condG_ok ⟨b1W, b3, tokW⟩ (callD ⟨b1W, b3, tokW⟩ fns (d + 1)) w s r a3 a4 a5 σ
    by_cases hh : w.length ≤ 6 ∧ r < 3
    · rw [decide_eq_true hh] at hc
      obtain ⟨x3, x4, x5, hb⟩ := bodyW_ok b3 K d hw hh.1 s r a3 a4 a5 σ
      obtain ⟨y3, y4, y5, hr⟩ := while_ok b3 K d s σ n k (growS w) (r + 1) x3 x4 x5 growS_two (by (first | lia | omega)) (by (first | lia | omega))
      refine ⟨y3, y4, y5, ?_⟩
      rw [exWhile, hc]
      simp only [hb]
      rw [growW, if_pos hh]
      exact hr
    · rw [decide_eq_false hh] at hc
      refine ⟨a3, a4, a5, ?_⟩
      rw [exWhile, hc, growW, if_neg hh]
theorem grown_ok (b3 : List (Int × List Nat)) (K : B3 b3) (d : Nat) (s : Int) {w : List Nat} (hw : ∀ c ∈ w, c = 104 ∨ c = 112) (σ : Store) :
    callD ⟨b1W, b3, tokW⟩ fns (d + 2) 8 [.str w, .int s] σ = some (.tup [.str (growW 3 w 0).1, .int (growW 3 w 0).2], σ) := by
  obtain ⟨x3, x4, x5, h⟩ := while_ok b3 K d s [] 3 TURNS w 0 none none none hw (by (first | lia | omega)) (by decide)
  have hb : exs ⟨b1W, b3, tokW⟩ (callD ⟨b1W, b3, tokW⟩ fns (d + 1)) [some (.str w), some (.int s), none, none, none, none] [] fn8.body = some (.ret (.tup [.str (growW 3 w 0).1, .int (growW 3 w 0).2]), [some (.str (growW 3 w 0).1), some (.int s), some (.int (growW 3 w 0).2), x3, x4, x5], []) := by
    generalize callD ⟨b1W, b3, tokW⟩ fns (d + 1) = C at h ⊢
    generalize (⟨b1W, b3, tokW⟩ : Tabs) = T at h ⊢
    have h' : ex T C [some (.str w), some (.int s), some (.int 0), none, none, none] [] (.while condG bodyW) = some (.next, [some (.str (growW 3 w 0).1), some (.int s), some (.int (growW 3 w 0).2), x3, x4, x5], []) := by
      rw [ex]; exact h
    exact (exs_next (ex_set (v := .int 0) (σ' := []) (by simp [ev]))).trans ((exs_next h').trans (exs_ret (by simp [ev, evs, LIM])))
  rw [callD]
  simp only [fns, List.getElem?_cons_zero, List.getElem?_cons_succ]
  rw [if_pos (show [V.str w, V.int s].length = fn8.np from rfl)]
  rw [if_pos (show noLsts [V.str w, V.int s] = true from rfl)]
  have e : ([V.str w, V.int s].map some ++ List.replicate (fn8.nl - fn8.np) none) = [some (.str w), some (.int s), none, none, none, none] := rfl
  rw [e]
  have hb' := hb
  simp only [fns] at hb'
  rw [hb']
  rfl
end W1
end Mine
end

section
set_option Elab.async false
set_option linter.unusedVariables false
set_option linter.unusedSimpArgs false
namespace Mine
namespace W1
noncomputable def body6 : Sts := Sts.cons (St.augItem 1 (Ex.bin (Bop.mod) (Ex.var 2) (Ex.int 3)) (Bop.add) (Ex.bin (Bop.mod) (Ex.bin (Bop.item) (Ex.var 0) (Ex.var 2)) (Ex.bin (Bop.pow) (Ex.int 10) (Ex.int 6)))) (Sts.nil)
theorem item_ro {xs : List Int} {k : Nat} (hk : k < xs.length) (σ : Store) : evB .item (.ro xs) (.int k) σ = some (.int xs[k], σ) := by
  have hp : place (k : Int) xs.length = some k := by unfold place; rw [if_pos (by (first | lia | omega)), Int.toNat_natCast, if_pos hk]
  simp only [evB, hp, List.getElem?_eq_getElem hk, bInt_int, bInt_str, bInt_lst, bStr_str, bLst_lst, uInt_int, uStr_str, uStr_lst, uLst_lst, orE_some, orE_none, bItem_str, bItem_tup, bItem_ro, bItem_lst, bCut_str, bCut_lst, itemOf, uLen_str, uLen_lst, uLen_ro, one_one, Option.map_some]
theorem turn6 (T : Tabs) (C : Calls) {xs : List Int} {k : Nat} (hk : k < xs.length) (a b c : Int) :
    ∃ a' b' c', exs T C [some (.ro xs), some (.lst 0), some (.int k)] [[.int a, .int b, .int c]] body6 = some (.next, [some (.ro xs), some (.lst 0), some (.int k)], [[.int a', .int b', .int c']]) := by
  have hi := item_ro hk
  have hm := mod_ev k 3 (by decide)
  have h10 : ∀ σ, evB .pow (.int 10) (.int 6) σ = some (.int 1000000, σ) := fun σ => rfl
  have hv : ∀ σ, evB .mod (.int xs[k]) (.int 1000000) σ = some (.int (xs[k].fmod 1000000), σ) := fun σ => by
    simp only [evB, bInt_int, bInt_str, bInt_lst, bStr_str, bLst_lst, uInt_int, uStr_str, uStr_lst, uLst_lst, orE_some, orE_none, bItem_str, bItem_tup, bItem_ro, bItem_lst, bCut_str, bCut_lst, itemOf, uLen_str, uLen_lst, uLen_ro, one_one, Option.map_some]; rw [if_pos (by decide)]
  have ha : ∀ x y σ, evAug .add (.int x) (.int y) σ = some (.int (x + y), σ) := fun _ _ _ => rfl
  rcases (show k % 3 = 0 ∨ k % 3 = 1 ∨ k % 3 = 2 by (first | lia | omega)) with e | e | e
  · refine ⟨a + xs[k].fmod 1000000, b, c, ?_⟩
    simp only [e, Int.cast_ofNat_Int] at hm
    simp [body6, exs, ex, ev, evs, hi, hm, h10, hv, ha]
  · refine ⟨a, b + xs[k].fmod 1000000, c, ?_⟩
    simp only [e, Int.cast_ofNat_Int] at hm
    simp [body6, exs, ex, ev, evs, hi, hm, h10, hv, ha]
  · refine ⟨a, b, c + xs[k].fmod 1000000, ?_⟩
    simp only [e, Int.cast_ofNat_Int] at hm
    simp [body6, exs, ex, ev, evs, hi, hm, h10, hv, ha]
theorem numbers_ok (T : Tabs) (d : Nat) (xs : List Int) (σ : Store) : ∃ a b c, callD T fns (d + 1) 6 [.ro xs] σ = some (.lst σ.length, σ ++ [[.int a, .int b, .int c]]) := by
  have hmin : ∀ τ, evB .min (.int 60) (.int (xs.length : Int)) τ = some (.int ((Nat.min 60 xs.length : Nat) : Int), τ) := fun τ => by
    simp only [evB, bInt_int, bInt_str, bInt_lst, bStr_str, bLst_lst, uInt_int, uStr_str, uStr_lst, uLst_lst, orE_some, orE_none, bItem_str, bItem_tup, bItem_ro, bItem_lst, bCut_str, bCut_lst, itemOf, uLen_str, uLen_lst, uLen_ro, one_one, Option.map_some]
    congr 3
    have : Nat.min 60 xs.length = if xs.length < 60 then xs.length else 60 := by
      show min 60 xs.length = _
      split <;> (first | lia | omega)
    rw [this]
    split <;> split <;> (first | lia | omega)
  have hb : ∃ a b c x, exs T (callD T fns d) [some (.ro xs), none, none] [] fn6.body = some (.ret (.lst 0), [some (.ro xs), some (.lst 0), x], [[.int a, .int b, .int c]]) := by
    generalize callD T fns d = C
    obtain ⟨ρ', σ', hl, a, b, c, x, rfl, rfl⟩ := for_range (n := Nat.min 60 xs.length) (f := fun v ρ σ => exs T C (ρ.set 2 (some v)) σ body6) (fun m ρ σ' => ∃ a b c x, ρ = [some (.ro xs), some (.lst 0), x] ∧ σ' = [[.int a, .int b, .int c]])
      (ρ := [some (.ro xs), some (.lst 0), none]) (σ := [[.int 3, .int 6, .int 43]]) ⟨3, 6, 43, none, rfl, rfl⟩ (fun m ρ σ' hm hI => by
        obtain ⟨a, b, c, x, rfl, rfl⟩ := hI
        have hk : m < xs.length := Nat.lt_of_lt_of_le hm (Nat.min_le_right _ _)
        obtain ⟨a', b', c', h⟩ := turn6 T C hk a b c
        exact ⟨_, _, h, a', b', c', _, rfl, rfl⟩)
    have hr : ev T C [some (.ro xs), some (.lst 0), none] [[.int 3, .int 6, .int 43]] (Ex.un (Uop.range) (Ex.bin (Bop.min) (Ex.int 60) (Ex.un (Uop.len) (Ex.var 0)))) = some (.rng 0 1 (Nat.min 60 xs.length), [[.int 3, .int 6, .int 43]]) := by
      simp only [ev, evU, hmin, List.getElem?_cons_zero, bInt_int, bInt_str, bInt_lst, bStr_str, bLst_lst, uInt_int, uStr_str, uStr_lst, uLst_lst, orE_some, orE_none, bItem_str, bItem_tup, bItem_ro, bItem_lst, bCut_str, bCut_lst, itemOf, uLen_str, uLen_lst, uLen_ro, one_one, Option.map_some]
      have : Nat.min 60 xs.length ≤ 60 := Nat.min_le_left _ _
      rw [if_pos ⟨by (first | lia | omega), by (first | lia | omega)⟩]; rfl
    exact ⟨a, b, c, x, (exs_next (ex_set (v := .lst 0) (σ' := [[.int 3, .int 6, .int 43]]) (by simp [ev, evs, LIM]))).trans ((exs_next (ex_for hr rfl hl)).trans (exs_ret (by simp [ev])))⟩
  obtain ⟨a, b, c, x, hb⟩ := hb
  refine ⟨a, b, c, ?_⟩
  rw [callD]
  simp only [fns, List.getElem?_cons_zero, List.getElem?_cons_succ]
  rw [if_pos (show [V.ro xs].length = fn6.np from rfl)]
  rw [if_pos (show noLsts [V.ro xs] = true from rfl)]
  have e : ([V.ro xs].map some ++ List.replicate (fn6.nl - fn6.np) none) = [some (.ro xs), none, none] := rfl
  rw [e]
  simp only [fns] at hb
  rw [hb]
  rfl
end W1
end Mine
end

section
set_option Elab.async false
set_option linter.unusedVariables false
set_option linter.unusedSimpArgs false
namespace Mine
namespace W1
noncomputable def bitL (b : Int) (j : Nat) : Nat := if (b.fdiv ((2 ^ j : Nat) : Int)).fmod 2 = 0 then 104 else 112
noncomputable def wordS (a b : Int) : List Nat := (List.range ((a.fmod 6).toNat + 1)).map (bitL b)
theorem joinL_letters : ∀ w : List Nat, joinL [] (w.map fun c => [c]) = w
  | [] => rfl
  | [c] => rfl
  | c :: e :: w => by
    have := joinL_letters (e :: w)
    simp only [List.map_cons] at this ⊢
    rw [joinL, this]; rfl
theorem wordS_two {a b : Int} : ∀ c ∈ wordS a b, c = 104 ∨ c = 112 := by
  intro c hc
  simp only [wordS, List.mem_map] at hc
  obtain ⟨j, _, rfl⟩ := hc
  unfold bitL; split <;> simp
theorem mod_six (a : Int) : ∃ n : Nat, n < 6 ∧ a.fmod 6 = (n : Int) ∧ (a.fmod 6).toNat = n := by
  have h1 := Int.fmod_nonneg_of_pos a (show (0 : Int) < 6 by decide)
  have h2 := Int.fmod_lt_of_pos a (show (0 : Int) < 6 by decide)
  exact ⟨(a.fmod 6).toNat, by (first | lia | omega), by (first | lia | omega), rfl⟩
theorem wordS_length (a b : Int) : 1 ≤ (wordS a b).length ∧ (wordS a b).length ≤ 6 := by
  obtain ⟨n, h, _, e⟩ := mod_six a
  simp only [wordS, List.length_map, List.length_range, e]; (first | lia | omega)
noncomputable def compW : Ex := Ex.comp (Ex.un (Uop.range) (Ex.bin (Bop.add) (Ex.bin (Bop.mod) (Ex.var 1) (Ex.int 6)) (Ex.int 1))) (Ex.bin (Bop.item) (Ex.str [104, 112]) (Ex.bin (Bop.mod) (Ex.bin (Bop.fdiv) (Ex.var 2) (Ex.bin (Bop.pow) (Ex.int 2) (Ex.var 11))) (Ex.int 2)))
theorem word_ok (T : Tabs) (C : Calls) (x0 x3 : Option V) (a b : Int) (σ : Store) :
    ev T C [x0, some (.int a), some (.int b), x3, none, none, none, none, none, none, none] σ (Ex.bin (Bop.join) (Ex.str []) compW) = some (.str (wordS a b), σ ++ [(wordS a b).map fun c => .str [c]]) := by
  obtain ⟨n, hn, e6, en⟩ := mod_six a
  have hw : wordS a b = (List.range (n + 1)).map (bitL b) := by unfold wordS; rw [en]
  have hlen : (wordS a b).length = n + 1 := by rw [hw, List.length_map, List.length_range]
  have hr : ev T C [x0, some (.int a), some (.int b), x3, none, none, none, none, none, none, none] σ (Ex.un (Uop.range) (Ex.bin (Bop.add) (Ex.bin (Bop.mod) (Ex.var 1) (Ex.int 6)) (Ex.int 1))) = some (.rng 0 1 (n + 1), σ) := by
    have h1 : evB .mod (.int a) (.int 6) σ = some (.int (n : Int), σ) := by simp only [evB, bInt_int, bInt_str, bInt_lst, bStr_str, bLst_lst, uInt_int, uStr_str, uStr_lst, uLst_lst, orE_some, orE_none, bItem_str, bItem_tup, bItem_ro, bItem_lst, bCut_str, bCut_lst, itemOf, uLen_str, uLen_lst, uLen_ro, one_one, Option.map_some]; rw [if_pos (by decide), e6]
    have h2 : evB .add (.int (n : Int)) (.int 1) σ = some (.int ((n + 1 : Nat) : Int), σ) := by simp [evB, itemOf]
    have hX : ev T C [x0, some (.int a), some (.int b), x3, none, none, none, none, none, none, none] σ (Ex.bin (Bop.add) (Ex.bin (Bop.mod) (Ex.var 1) (Ex.int 6)) (Ex.int 1)) = some (.int ((n + 1 : Nat) : Int), σ) := by
      simp only [ev, h1, h2, List.getElem?_cons_zero, List.getElem?_cons_succ]
    rw [ev_un2 hX, evU_range (by (first | lia | omega))]
  have hc := comp_range (n := n + 1) (σ := σ) (f := cF T C [x0, some (.int a), some (.int b), x3, none, none, none, none, none, none, none] (Ex.bin (Bop.item) (Ex.str [104, 112]) (Ex.bin (Bop.mod) (Ex.bin (Bop.fdiv) (Ex.var 2) (Ex.bin (Bop.pow) (Ex.int 2) (Ex.var 11))) (Ex.int 2)))) (fun j => some (.str [bitL b j])) (fun j hj => by
    refine cF_some ?_
    have hp := pow_ev j (by (first | lia | omega)) σ
    have hd := fdiv_pow b j (by (first | lia | omega)) σ
    have hm := mod_two (b.fdiv ((2 ^ j : Nat) : Int)) σ
    obtain ⟨f, hf, e⟩ := fmod_two (b.fdiv ((2 ^ j : Nat) : Int))
    rw [e] at hm
    simp only [ev, List.cons_append, List.nil_append, List.getElem?_cons_zero, List.getElem?_cons_succ, hp, hd, hm, bitL, e]
    rcases hf with rfl | rfl <;> rfl)
  have hf : (List.range (n + 1)).filterMap (fun j => some (V.str [bitL b j])) = (wordS a b).map fun c => .str [c] := by
    rw [hw, List.map_map]
    exact congrFun (List.filterMap_eq_map' (f := fun j => V.str [bitL b j])) _
  rw [hf] at hc
  have hcomp := ev_comp_intro (T := T) (C := C) hr (show srcOf (.rng 0 1 (n + 1)) = some (.fix (rangeL 0 1 (n + 1))) from rfl) hc (by rw [List.length_map, hlen]; have : LIM = 16777216 := rfl; (first | lia | omega))
  have hj : evB .join (.str []) (.lst σ.length) (σ ++ [(wordS a b).map fun c => .str [c]]) = some (.str (wordS a b), σ ++ [(wordS a b).map fun c => .str [c]]) := by
    have hs : ((wordS a b).map fun c => V.str [c]).map strOf = (wordS a b).map fun c => [c] := by rw [List.map_map]; rfl
    have hall : ((wordS a b).map fun c => V.str [c]).all isStr = true := by rw [List.all_map]; exact List.all_eq_true.mpr fun _ _ => rfl
    have hsum : ∀ w : List Nat, ((w.map fun c => [c]).map List.length).sum = w.length := fun w => by
      induction w with
      | nil => rfl
      | cons c w ih => simp only [List.map_cons, List.sum_cons, ih, List.length_cons, List.length_nil]; (first | lia | omega)
    rw [evB_join (xs := (wordS a b).map fun c => .str [c]) (by simp) hall (by rw [hs, hsum]; have : LIM = 16777216 := rfl; simp only [List.length_nil, Nat.mul_zero, hlen]; (first | lia | omega)), hs, joinL_letters]
  exact (ev_bin2 (by simp [ev]) hcomp).trans hj
end W1
end Mine
end

section
set_option Elab.async false
set_option linter.unusedVariables false
set_option linter.unusedSimpArgs false
namespace Mine
namespace W1
noncomputable def words : Nat → List (List Nat)
  | 0 => [[]]
  | n + 1 => (words n).flatMap fun w => [104 :: w, 112 :: w]
theorem mem_words : ∀ (w : List Nat), (∀ c ∈ w, c = 104 ∨ c = 112) → w ∈ words w.length
  | [], _ => by simp [words]
  | c :: w, h => by
    have ih := mem_words w (fun x hx => h x (List.mem_cons_of_mem _ hx))
    simp only [List.length_cons, words, List.mem_flatMap]
    refine ⟨w, ih, ?_⟩
    rcases h c List.mem_cons_self with e | e <;> simp [e]
noncomputable def fitB (w : List Nat) : Bool := match growW 3 w 0 with
  | (g, r) => decide (1 ≤ r ∧ r ≤ 3) && decide (w.length ≤ 6) && decide ((r = 3 → w.length * 2 ^ r ≤ 8) ∧ (r = 2 → w.length * 2 ^ r ≤ 12) ∧ (r = 1 → w.length * 2 ^ r ≤ 12)) && decide (toldS w r (w.length * 2 ^ r) = g) && decide (g.length ≤ 100)
    && decide (2 ≤ (plc g 104).length) && decide (2 ≤ (plc g 112).length) && decide ((sumsS g 104).length + (sumsS g 112).length < 90000) && ((unlikeS g).isEmpty == memS w)
theorem fit_of {w : List Nat} (h : fitB w = true) : Fit w (growW 3 w 0).1 (growW 3 w 0).2 := by
  unfold fitB at h
  generalize growW 3 w 0 = p at h
  obtain ⟨g, r⟩ := p
  simp only [Bool.and_eq_true, decide_eq_true_eq] at h
  obtain ⟨⟨⟨⟨⟨⟨⟨⟨h1, h2⟩, h3⟩, h4⟩, h5⟩, h6⟩, h7⟩, h8⟩, h9⟩ := h
  exact ⟨h1, h2, h3, h4, h5, h6, h7, h8, h9⟩
theorem fit1 : (words 1).all fitB = true := by decide +kernel
theorem fit2 : (words 2).all fitB = true := by decide +kernel
theorem fit3 : (words 3).all fitB = true := by decide +kernel
theorem fit4 : (words 4).all fitB = true := by decide +kernel
theorem fit5 : (words 5).all fitB = true := by decide +kernel
theorem fit6 : (words 6).all fitB = true := by decide +kernel
theorem fit_all {w : List Nat} (hw : ∀ c ∈ w, c = 104 ∨ c = 112) (h1 : 1 ≤ w.length) (h6 : w.length ≤ 6) : Fit w (growW 3 w 0).1 (growW 3 w 0).2 := by
  refine fit_of ?_
  have hm := mem_words w hw
  rcases (show w.length = 1 ∨ w.length = 2 ∨ w.length = 3 ∨ w.length = 4 ∨ w.length = 5 ∨ w.length = 6 by (first | lia | omega)) with e | e | e | e | e | e <;> rw [e] at hm
  · exact List.all_eq_true.mp fit1 _ hm
  · exact List.all_eq_true.mp fit2 _ hm
  · exact List.all_eq_true.mp fit3 _ hm
  · exact List.all_eq_true.mp fit4 _ hm
  · exact List.all_eq_true.mp fit5 _ hm
  · exact List.all_eq_true.mp fit6 _ hm
theorem law01 (b3 : List (Int × List Nat)) (K : B3 b3) (d : Nat) (xs : List Int) :
    ∃ σ', callD ⟨b1W, b3, tokW⟩ fns (d + 4) 16 [.ro xs] [] = some (.bool true, σ') := by
  obtain ⟨a, b, c, h6⟩ := numbers_ok ⟨b1W, b3, tokW⟩ (d + 2) xs []
  have hw := word_ok ⟨b1W, b3, tokW⟩ (callD ⟨b1W, b3, tokW⟩ fns (d + 3)) (some (.ro xs)) (some (.int c)) a b [[.int a, .int b, .int c]]
  have hl := wordS_length a b
  have ht := @wordS_two a b
  generalize wordS a b = w at hw hl ht
  have hF := fit_all ht hl.1 hl.2
  have hg := grown_ok b3 K (d + 1) c ht ([[.int a, .int b, .int c]] ++ [w.map fun c => .str [c]])
  generalize growW 3 w 0 = p at hF hg
  obtain ⟨g, r⟩ := p
  obtain ⟨ρ', σ', hrest⟩ := rest_ok b1W b3 d hF (some (.ro xs)) (some (.int a)) (some (.int b)) (some (.int c)) ([[.int a, .int b, .int c]] ++ [w.map fun c => .str [c]])
  have hb : exs ⟨b1W, b3, tokW⟩ (callD ⟨b1W, b3, tokW⟩ fns (d + 3)) [some (.ro xs), none, none, none, none, none, none, none, none, none, none] [] fn16.body = some (.ret (.bool true), ρ', σ') := by
    refine (exs_next (ρ' := [some (.ro xs), some (.int a), some (.int b), some (.int c), none, none, none, none, none, none, none]) (σ' := [[.int a, .int b, .int c]]) ?_).trans ((exs_next (ex_set hw)).trans ((exs_next (ρ' := [some (.ro xs), some (.int a), some (.int b), some (.int c), some (.str w), some (.str g), some (.int r), none, none, none, none]) (σ' := [[.int a, .int b, .int c]] ++ [w.map fun c => .str [c]]) ?_).trans hrest))
    · simp [ex, ev, evs, h6, setAll]
    · simp only [ex, ev, evs, List.getElem?_cons_zero, List.getElem?_cons_succ, List.set_cons_zero, List.set_cons_succ, hg, setAll]
      rfl
  refine ⟨[], ?_⟩
  rw [callD]
  simp only [fns, List.getElem?_cons_zero, List.getElem?_cons_succ]
  rw [if_pos (show [V.ro xs].length = fn16.np from rfl)]
  rw [if_pos (show noLsts [V.ro xs] = true from rfl)]
  have e : ([V.ro xs].map some ++ List.replicate (fn16.nl - fn16.np) none) = [some (.ro xs), none, none, none, none, none, none, none, none, none, none] := rfl
  rw [e]
  simp only [fns] at hb
  rw [hb]
  rfl
end W1
end Mine
end

section
open PySem PySem.W PyProof.Rows PySem.Calls
set_option Elab.async false
set_option linter.unusedVariables false
set_option linter.unusedSimpArgs false
set_option maxRecDepth 100000
namespace Mine
noncomputable section
namespace P1
theorem t0 : T0 L3 = ⟨W1.b1W, (T0 L3).b3, W1.tokW⟩ := by kernel_rfl
theorem b3W : W1.B3 (T0 L3).b3 := ⟨by kernel_rfl, by kernel_rfl, by kernel_rfl, by kernel_rfl, by kernel_rfl, by kernel_rfl⟩
theorem ints_of {h : Heap} {cl : Str → Option Addr} : ∀ {vs : List Value} {ds : List WData} {as : List Addr}, ReadsAllW [] cl h vs ds as → (∀ d ∈ ds, ∃ i, d = .int i) → ∃ l, IntsAre vs l ∧ l.length = ds.length
  | _, _, _, .nil, _ => ⟨[], by constructor, rfl⟩
  | _, _, _, .cons r rs, hd => by
    obtain ⟨i, rfl⟩ := hd _ List.mem_cons_self
    obtain ⟨l, hl, e⟩ := ints_of rs fun d h => hd d (List.mem_cons_of_mem _ h)
    cases r with
    | int i t => exact ⟨i :: l, .cons _ _ hl, by simp [e]⟩
theorem ints_len : ∀ {vs : List Value} {l : List Int}, IntsAre vs l → vs.length = l.length
  | _, _, .nil => rfl
  | _, _, .cons _ _ h => by simp [ints_len h]
noncomputable abbrev claimW : ClaimW := PySem.Challenge.rw_wf0082_01.row.toRowW.claim
theorem postL (args : List WData) : claimW.post args (.bool true) args = true := by
  show WTm.holds [] (.eq .res (.lit (.bool true))) _ = true
  have e : same (WData.bool true) (WData.bool true) = true := by decide +kernel
  simp only [WTm.holds, WTm.value, e]
theorem call_law (w : World) (s₀ s₁ : Shared) (mg mb : Str → Option Value) (G₀ : Ground qv looseL [] (fun _ _ => True) w s₀ mg mb s₁.heap) (y : YP w s₁.heap) (args : List WData) (vs : List Value) (as : List Addr)
    (hpre : claimW.pre args = true) (hlay : WData.layableAll args = true) (hg : s₁.gens = #[]) (hrd : ReadsAllW [] (classAt s₀.heap) s₁.heap vs args as) :
    ∃ f, mg (PySem.Str.ofString "law") = some f ∧ wpAny (model pw w) callerA (PySem.call f vs) (fun v s' => GoodW claimW (classAt s₀.heap) (ExcName.means s₀.heap) args s₁ (.ok (.ret v)) s') (fun _ _ => False) s₁ := by
  obtain ⟨u, hu, hy⟩ := y
  obtain ⟨hsh, hpr⟩ := pre_splitW hpre
  obtain ⟨d, r, rfl, hd, hr⟩ := hasAllW_cons hsh
  obtain rfl := hasAllW_nil hr
  obtain ⟨xs, rfl, hx⟩ := hasW_list hd
  have hint : ∀ d ∈ xs, ∃ i, d = .int i := fun d hd => hasW_int (hasItemsW_at hx d hd)
  have hlen : xs.length ≤ 63 := by
    have h : WTm.holds [] (.and (.not (.lt (.lit (.int 63)) (.len (.arg 0)))) (.lit (.bool true))) { args := [WData.list xs] } = true := hpr
    have h := (holds_andW h).1
    simp only [WTm.holds, WTm.value, List.getElem?_cons_zero] at h
    have e : less? (WData.int 63) (WData.int (xs.length : Int)) = some (decide ((63 : Int) < (xs.length : Int))) := by simp [less?, Num.less?, Num.order?]
    rw [e] at h
    by_cases hh : (63 : Int) < (xs.length : Int)
    · rw [decide_eq_true hh] at h; simp at h
    · (first | lia | omega)
  cases hrd with
  | cons r1 r2 =>
    cases r2
    obtain ⟨a, its, as', rfl, hl, hr, -⟩ := readsW_list_inv r1
    obtain ⟨l, hi, hll⟩ := ints_of hr hint
    refine ⟨.ref 207, (mg_is G₀.T.g hy _).trans (n_law w.params), ?_⟩
    have hB := base_ok (w := w) (mg := mg) (mb := mb) G₀.T.g G₀.T.b G₀.T.builtins G₀.T.nolimit
    obtain ⟨σ', hlaw⟩ := W1.law01 (T0 L3).b3 b3W 10 l
    rw [← t0] at hlaw
    have hC := calls_ok hB (fn_ok (w := w) (u := u) G₀.T.g G₀.T.b G₀.T.builtins G₀.T.nolimit hu hy) 14
    refine hC 16 207 [.ro l] [] (.bool true) σ' rfl hlaw callerA [] s₁ [.ref a] ⟨rfl, by decide, by decide⟩ (SOk.nil fun b o h => h) hg (.cons (.ro hl (by rw [ints_len hi, hll]; have : LIM = 16777216 := rfl; (first | lia | omega)) hi) .nil) _ _ fun v' s' μ' S' p r' => ?_
    cases r'
    exact ⟨.inl ⟨.bool true, .bool true, [], rfl, fun _ => rfl, .bool true, postL _, unshared_nil⟩, S'.base, p.os, p.gens.trans hg⟩
end P1
end
end Mine
end

section
open PySem PySem.W PyProof.Rows PySem.Calls
set_option Elab.async false
set_option linter.unusedVariables false
set_option maxRecDepth 100000
set_option maxHeartbeats 8000000
namespace Mine
namespace P1
theorem ykeep (w : World) (h h' : Heap) (y : YP w h) (k : ∀ b o, h.get? b = some o → h'.get? b = some o) : YP w h' := by
  obtain ⟨u, hu, hy⟩ := y
  exact ⟨u, hu, fun b o e => k b o (hy b o e)⟩
end P1
end Mine
theorem Mine.P1.said : PySem.Challenge.rw_wf0082_01.wellSaid = true := by kernel_rfl
theorem PySem.Challenge.cw_wf0082_01_holds : PySem.Challenge.rw_wf0082_01.Holds := by
  refine holds_law Mine.P1.said fun _ => ?_
  exact Mine.holds_mine (q := Mine.P1.qv) (loose := Mine.P1.looseL) Mine.P1.behind rfl Mine.P1.ykeep (by rfl) (by rfl) (by rfl) rfl (by first | assumption | decide +kernel) (by decide +kernel) ⟨rfl, rfl, rfl, rfl, rfl, by decide +kernel⟩ (by w_witness2) Mine.P1.call_law
end
