import PyProof.Rows.All
import Wide.All
import OpenK.AllK
import Wide.FinOn
import Lean
import PySem.Challenge.RW_wf0082_02
set_option genSizeOf false
section
open PySem PySem.W PyProof.Rows
set_option Elab.async false
namespace Mine
open Sem (wp)

noncomputable def gdH {α : Type} (b : Bool) (o : Option α) : Option α := match b with
  | true => o
  | false => none
theorem gdH_inv {α : Type} {b : Bool} {o : Option α} {r : α} (h : gdH b o = some r) : b = true ∧ o = some r := by
  cases b with
  | true => exact ⟨rfl, h⟩
  | false => exact nomatch h
theorem bindH_inv {α β : Type} {a : Option α} {f : α → Option β} {r : β} (h : a.bind f = some r) : ∃ x, a = some x ∧ f x = some r := by
  cases a with
  | none => exact nomatch h
  | some x => exact ⟨x, rfl, h⟩
/-- the object at a place -/
noncomputable def ldH (s : SharedT) (a : Addr) : Option Obj := gdH (Nat.blt a s.n) ((s.tree.get a).bind alive)
/-- the object at a place, if there is one -/
noncomputable def ldA (s : SharedT) (a : Addr) : Option (Option Obj) := match Nat.blt a s.n with
  | true => (s.tree.get a).bind fun o => some (alive o)
  | false => some none
/-- a big-step evaluator of the semantics' own trees over a heap written as a tree -/
noncomputable def wr (den : Code → Sem Fin) (prog : Program) (w : World) (run : Ctx → Pos → SharedT → Option (Result × SharedT)) (Γ : Ctx) {α : Type} :
    Sem α → Pos → SharedT → Option (Except Value α × Pos × SharedT)
  | .pure a, p, s => some (.ok a, p, s)
  | .raise e, p, s => some (.error e, p, s)
  | .rule _ k, p, s => wr den prog w run Γ (k ()) p s
  | .at q k, _, s => wr den prog w run Γ (k ()) q s
  | .load a _ k, p, s => (ldH s a).bind fun o => wr den prog w run Γ (k o) p s
  | .update a _ f k, p, s => (ldH s a).bind fun _ => wr den prog w run Γ (k ()) p ⟨s.tree.set a f, s.n, s.life, s.gens, s.drawn, s.toks, s.os⟩
  | .alloc o k, p, s => gdH ((s.tree.ins s.n o).get s.n).isSome (wr den prog w run Γ (k s.n) p ⟨s.tree.ins s.n o, s.n + 1, s.life, s.gens, s.drawn, s.toks, s.os⟩)
  | .loadIfAlive a k, p, s => (ldA s a).bind fun o => wr den prog w run Γ (k o) p s
  | .point _ k, p, s => wr den prog w run Γ (k ()) p s
  | .fresh k, p, s => wr den prog w run Γ (k s.toks) p ⟨s.tree, s.n, s.life, s.gens, s.drawn, s.toks + 1, s.os⟩
  | .ask k, p, s => wr den prog w run Γ (k ⟨prog, w.params⟩) p s
  | .call c h _ _ k, p, s => (run (Γ.enter c h p) p s).bind fun x => wr den prog w run Γ (k x.1) p x.2
  | .handled own k, p, s => wr den prog w run Γ (k (match own with | true => Γ.own | false => Γ.handled)) p s
  | .stack k, p, s => wr den prog w run Γ (k ((Γ.code, p) :: Γ.below)) p s
  | _, _, _ => none

noncomputable def runCode (den : Code → Sem Fin) (prog : Program) (w : World) : Nat → Ctx → Pos → SharedT → Option (Result × SharedT)
  | 0, _, _, _ => none
  | n + 1, Γ, p, s => match wr den prog w (runCode den prog w n) Γ (den Γ.code) p s with
    | some (.ok (.done f), _, s') => some (.ok f, s')
    | some (.ok (.again c), p', s') => match c.quiet with
      | true => runCode den prog w n (Γ.goto c) p' s'
      | false => none
    | some (.error e, _, s') => some (.error e, s')
    | none => none

section
variable {den : Code → Sem Fin} {prog : Program} {w : World}

theorem blt_lt {a b : Nat} (h : Nat.blt a b = true) : a < b := Nat.le_of_ble_eq_true h
theorem blt_nlt {a b : Nat} (h : Nat.blt a b = false) : ¬ a < b := fun q => by
  rw [show Nat.blt a b = true from Nat.ble_eq_true_of_le q] at h; cases h

theorem ldH_ok {s : SharedT} {a : Addr} {o : Obj} (h : ldH s a = some o) : s.abs.heap.get? a = some o := by
  obtain ⟨e, h2⟩ := gdH_inv h
  obtain ⟨o', g, al⟩ := bindH_inv h2
  exact (abs_get (blt_lt e) g).trans al
theorem ldA_ok {s : SharedT} {a : Addr} {o : Option Obj} (h : ldA s a = some o) : s.abs.heap.get? a = o := by
  unfold ldA at h
  split at h
  · rename_i e
    obtain ⟨o', g, al⟩ := bindH_inv h
    exact (abs_get (blt_lt e) g).trans (Option.some.inj al)
  · rename_i e
    exact (abs_get_none (blt_nlt e)).trans (Option.some.inj h)
theorem wr_sound {run : Ctx → Pos → SharedT → Option (Result × SharedT)}
    (hrun : ∀ Γ p s r s', run Γ p s = some (r, s') → wpCode ⟨den, prog, w⟩ Γ (fun r' t => r' = r ∧ t = s'.abs) p s.abs) {α : Type} {Γ : Ctx} :
    ∀ (t : Sem α) (p : Pos) (s : SharedT) (r : Except Value α) (p' : Pos) (s' : SharedT) (Q : α → Pos → Shared → Prop) (E : Value → Pos → Shared → Prop),
      wr den prog w run Γ t p s = some (r, p', s') → (match r with | .ok a => Q a p' s'.abs | .error e => E e p' s'.abs) → wp ⟨den, prog, w⟩ Γ t Q E p s.abs := by
  intro t
  induction t with
  | pure a => intro p s r p' s' Q E h hq; cases h; exact hq
  | raise e => intro p s r p' s' Q E h hq; cases h; exact hq
  | rule tag k ih => intro p s r p' s' Q E h hq; exact ih () _ _ _ _ _ Q E h hq
  | «at» q k ih => intro p s r p' s' Q E h hq; exact ih () _ _ _ _ _ Q E h hq
  | point l k ih => intro p s r p' s' Q E h hq; exact ih () _ _ _ _ _ Q E h hq
  | ask k ih => intro p s r p' s' Q E h hq; exact ih _ _ _ _ _ _ Q E h hq
  | stack k ih => intro p s r p' s' Q E h hq; exact ih _ _ _ _ _ _ Q E h hq
  | fresh k ih => intro p s r p' s' Q E h hq; exact ih _ _ _ _ _ _ Q E h hq
  | handled own k ih =>
    intro p s r p' s' Q E h hq
    have := ih _ _ _ _ _ _ Q E h hq
    cases own <;> exact this
  | load a part k ih =>
    intro p s r p' s' Q E h hq
    obtain ⟨o', h1, h2⟩ := bindH_inv (show (ldH s a).bind (fun o => wr den prog w run Γ (k o) p s) = some (r, p', s') from h)
    exact ⟨o', ldH_ok h1, ih _ _ _ _ _ _ Q E h2 hq⟩
  | update a part f k ih =>
    intro p s r p' s' Q E h hq
    obtain ⟨o', h1, h2⟩ := bindH_inv (show (ldH s a).bind (fun _ => wr den prog w run Γ (k ()) p ⟨s.tree.set a f, s.n, s.life, s.gens, s.drawn, s.toks, s.os⟩) = some (r, p', s') from h)
    have z := ih _ _ _ _ _ _ Q E h2 hq
    refine ⟨by rw [ldH_ok h1]; rfl, ?_⟩
    obtain ⟨e, h3⟩ := gdH_inv h1
    obtain ⟨o, g, _⟩ := bindH_inv h3
    have e2 : (⟨s.tree.set a f, s.n, s.life, s.gens, s.drawn, s.toks, s.os⟩ : SharedT).abs = { s.abs with heap := s.abs.heap.update a f } := by
      show (⟨absHeap (s.tree.set a f) s.n s.life, s.gens, s.drawn, s.toks, s.os⟩ : Shared) = _
      rw [absHeap_set g]; rfl
    rw [e2] at z; exact z
  | alloc o k ih =>
    intro p s r p' s' Q E h hq
    obtain ⟨e, h2⟩ := gdH_inv (show gdH ((s.tree.ins s.n o).get s.n).isSome (wr den prog w run Γ (k s.n) p ⟨s.tree.ins s.n o, s.n + 1, s.life, s.gens, s.drawn, s.toks, s.os⟩) = some (r, p', s') from h)
    have z := ih _ _ _ _ _ _ Q E h2 hq
    have e2 : (⟨s.tree.ins s.n o, s.n + 1, s.life, s.gens, s.drawn, s.toks, s.os⟩ : SharedT).abs = { s.abs with heap := s.abs.heap.push o } := by
      show (⟨absHeap (s.tree.ins s.n o) (s.n + 1) s.life, s.gens, s.drawn, s.toks, s.os⟩ : Shared) = _
      rw [absHeap_ins e]; rfl
    rw [e2] at z
    show wp _ _ (k s.abs.heap.objs.size) _ _ _ _
    rw [show s.abs.heap.objs.size = s.n from absHeap_size ..]
    exact z
  | loadIfAlive a k ih =>
    intro p s r p' s' Q E h hq
    obtain ⟨o, h1, h2⟩ := bindH_inv (show (ldA s a).bind (fun o => wr den prog w run Γ (k o) p s) = some (r, p', s') from h)
    show wp _ _ (k (s.abs.heap.get? a)) _ _ _ _
    rw [ldA_ok h1]
    exact ih _ _ _ _ _ _ Q E h2 hq
  | call c hd g l k ih =>
    intro p s r p' s' Q E h hq
    obtain ⟨⟨r₁, s₁⟩, e, h2⟩ := bindH_inv (show (run (Γ.enter c hd p) p s).bind (fun x => wr den prog w run Γ (k x.1) p x.2) = some (r, p', s') from h)
    show wpCode _ _ _ _ _
    refine wpCode_mono (fun r' t ht => ?_) (hrun _ _ _ _ _ e)
    obtain ⟨rfl, rfl⟩ := ht
    exact ih _ _ _ _ _ _ Q E h2 hq
  | _ => intro p s r p' s' Q E h hq; cases h

theorem runCode_sound : ∀ (n : Nat) (Γ : Ctx) (p : Pos) (s : SharedT) (r : Result) (s' : SharedT), runCode den prog w n Γ p s = some (r, s') →
    wpCode ⟨den, prog, w⟩ Γ (fun r' t => r' = r ∧ t = s'.abs) p s.abs
  | 0, _, _, _, _, _, h => by cases h
  | n + 1, Γ, p, s, r, s', h => by
    rw [wpCode_iff_wp]
    unfold runCode at h
    cases e : wr den prog w (runCode den prog w n) Γ (den Γ.code) p s with
    | none => rw [e] at h; cases h
    | some x =>
      obtain ⟨x, p₁, s₁⟩ := x
      rw [e] at h
      refine wr_sound (runCode_sound n) _ _ _ _ _ _ _ _ e ?_
      cases x with
      | error e' => cases h; exact ⟨rfl, rfl⟩
      | ok fin =>
        cases fin with
        | done f => cases h; exact ⟨rfl, rfl⟩
        | again c =>
          dsimp only at h
          cases hq : c.quiet with
          | false => rw [hq] at h; cases h
          | true => rw [hq] at h; exact ⟨hq, runCode_sound n _ _ _ _ _ h⟩
end
end Mine
end

section
open PySem PySem.W PyProof.Rows
set_option Elab.async false
namespace Mine
noncomputable def listNew : { b : Builtin // Builtin.«list.__new__» = b } := by
  refine' ⟨_, _⟩
  rotate_left
  · unfold Builtin.«list.__new__»
    rw [splitQ_eq]
noncomputable def tableM (id : String) : Option Builtin := match Nat.beq (code id) (code "list.__new__") with
  | true => some listNew.1
  | false => treeTable id
theorem tree_list_new : treeTable "list.__new__" = some Builtin.«list.__new__» := by kernel_rfl
theorem table_eq_M : table = tableM := by
  rw [table_eq_tree]
  funext id
  unfold tableM
  cases h : Nat.beq (code id) (code "list.__new__") with
  | false => rfl
  | true =>
    have e := Nat.eq_of_beq_eq_true h
    show entriesT.find (code id) = _
    rw [e, ← listNew.2]
    exact tree_list_new
end Mine
end

section
open PySem PySem.W PyProof.Rows
set_option Elab.async false
set_option linter.unusedVariables false
namespace Mine

noncomputable def ER (e : DictEntry) (x : Int × Str) : Prop := ∃ t u, e = ⟨hashInt x.1, .int x.1 t, .str x.2 u⟩
inductive ERs : List DictEntry → List (Int × Str) → Prop
  | nil : ERs [] []
  | cons {e x es xs} : ER e x → ERs es xs → ERs (e :: es) (x :: xs)
theorem ERs.length {es xs} (h : ERs es xs) : es.length = xs.length := by
  induction h with
  | nil => rfl
  | cons _ _ ih => simp [ih]
theorem ERs.append {es xs es' xs'} (h : ERs es xs) (h' : ERs es' xs') : ERs (es ++ es') (xs ++ xs') := by
  induction h with
  | nil => exact h'
  | cons a _ ih => exact .cons a ih
theorem ERs.mem {es xs} (h : ERs es xs) {e} (he : e ∈ es) : ∃ x ∈ xs, ER e x := by
  induction h with
  | nil => cases he
  | cons a _ ih =>
    cases he with
    | head => exact ⟨_, .head _, a⟩
    | tail _ he => obtain ⟨x, hx, r⟩ := ih he; exact ⟨x, .tail _ hx, r⟩
theorem ERs.get {es xs} (h : ERs es xs) : ∀ {i : Nat} {e}, es[i]? = some e → ∃ x, xs[i]? = some x ∧ ER e x := by
  induction h with
  | nil => intro i e h; simp at h
  | cons a _ ih =>
    intro i e h
    cases i with
    | zero => simp at h; subst h; exact ⟨_, rfl, a⟩
    | succ i => simp at h; simpa using ih h

noncomputable def DObj (o : Obj) (L : List (Int × Str)) : Prop := ∃ es ep, o = ⟨.type "dict", none, .dict es ep, #[]⟩ ∧ ERs es.toList L
theorem DObj.new : DObj { cls := .type "dict", data := .dict #[] } [] := ⟨#[], 0, rfl, .nil⟩

theorem ERs.intKeys {es : Array DictEntry} {L} (h : ERs es.toList L) : IntKeys es := fun e he => by
  obtain ⟨x, _, t, u, rfl⟩ := h.mem (Array.mem_toList_iff.mpr he)
  exact ⟨_, _, rfl, rfl⟩
theorem ERs.absent {es : Array DictEntry} {L} (h : ERs es.toList L) {k : Int} (hk : ∀ x ∈ L, x.1 ≠ k) : (es.findIdx? fun e => Value.isInt k e.key) = none :=
  Array.findIdx?_eq_none_iff.mpr fun e he => by
    obtain ⟨x, hx, t, u, rfl⟩ := h.mem (Array.mem_toList_iff.mpr he)
    show (x.1 == k) = false
    exact beq_eq_false_iff_ne.mpr (hk x hx)

/-- the objects as a list -/
noncomputable def mkS (s0 : Shared) (objs : List Obj) (k : Nat) : Shared := { s0 with heap := ⟨objs.toArray, s0.heap.life⟩, toks := s0.toks + k }
theorem mkS_get {s0 : Shared} {objs : List Obj} {k a : Nat} {o : Obj} (h : objs[a]? = some o) (hf : o.isFreed = false) : (mkS s0 objs k).heap.get? a = some o := by
  show (match objs.toArray[a]? with | some ⟨_, _, .freed, _⟩ => none | o => o) = some o
  rw [List.getElem?_toArray, h]
  obtain ⟨c, d, dt, sl⟩ := o
  cases dt <;> first | rfl | (cases hf)
theorem mkS_update {s0 : Shared} {objs : List Obj} {k a : Nat} {o : Obj} {f : Obj → Obj} (h : objs[a]? = some o) :
    { mkS s0 objs k with heap := (mkS s0 objs k).heap.update a f } = mkS s0 (objs.set a (f o)) k := by
  have : (objs.toArray.modify a f) = (objs.set a (f o)).toArray := by
    apply Array.ext_getElem?
    intro i
    rw [Array.getElem?_modify, List.getElem?_toArray, List.getElem?_toArray, List.getElem?_set]
    by_cases e : a = i
    · subst e
      have := List.getElem?_eq_some_iff.mp h
      obtain ⟨hl, e2⟩ := this
      simp [hl, e2]
    · simp [e]
  show (⟨⟨objs.toArray.modify a f, s0.heap.life⟩, s0.gens, s0.drawn, s0.toks + k, s0.os⟩ : Shared) = _
  rw [this]; rfl
theorem mkS_push {s0 : Shared} {objs : List Obj} {k : Nat} {o : Obj} : { mkS s0 objs k with heap := (mkS s0 objs k).heap.push o } = mkS s0 (objs ++ [o]) k := by
  show (⟨⟨objs.toArray.push o, s0.heap.life⟩, s0.gens, s0.drawn, s0.toks + k, s0.os⟩ : Shared) = _
  rw [List.push_toArray]; rfl
theorem mkS_tok {s0 : Shared} {objs : List Obj} {k n : Nat} : { mkS s0 objs k with toks := (mkS s0 objs k).toks + n } = mkS s0 objs (k + n) := by
  show (⟨⟨objs.toArray, s0.heap.life⟩, s0.gens, s0.drawn, s0.toks + k + n, s0.os⟩ : Shared) = _
  rw [Nat.add_assoc]; rfl

section
variable {prog : Program} {w : World} {A : Around} {E : Value → Shared → Prop} {s0 : Shared} {objs : List Obj} {n : Nat}

theorem push_ok {a : Addr} {key v : Value} {part : Option Value} {h : Int} {L : List (Int × Str)} {o : Obj} {x : Int × Str} {Q : Unit → Shared → Prop} (ho : objs[a]? = some o) (hD : DObj o L)
    (hx : ER ⟨h, key, v⟩ x) (hsz : L.length ≤ sizeLine) (hQ : ∀ o', DObj o' (L ++ [x]) → Q () (mkS s0 (objs.set a o') n)) :
    wpAny (model prog w) A (updateDictKeys a (·.push ⟨h, key, v⟩) part) Q E (mkS s0 objs n) := by
  obtain ⟨es, ep, rfl, hE⟩ := hD
  have hl : es.size ≤ sizeLine := by have := hE.length; rw [Array.length_toList] at this; (first | lia | omega)
  refine wpAny_updateDictKeys (mkS_get ho rfl) rfl ?_ hl (by simp)
  rw [mkS_update ho]
  exact hQ _ ⟨es.push ⟨h, key, v⟩, ep + 1, rfl, by rw [Array.toList_push]; exact hE.append (.cons hx .nil)⟩

theorem dset_ok {a : Addr} {k : Int} {t u : Tok} {v : Str} {L : List (Int × Str)} {o : Obj} {Q : Unit → Shared → Prop} (ho : objs[a]? = some o) (hD : DObj o L)
    (hk : ∀ x ∈ L, x.1 ≠ k) (hsz : L.length ≤ sizeLine) (hQ : ∀ o', DObj o' (L ++ [(k, v)]) → Q () (mkS s0 (objs.set a o') (n + 1))) :
    wpAny (model prog w) A (dictSet a (.int k t) (.str v u)) Q E (mkS s0 objs n) := by
  unfold dictSet
  refine wpAny_holding ?_
  refine wpAny_bind (wpAny_pyHash_int ?_)
  rw [mkS_tok]
  unfold dictSetHashed
  refine wpAny_holding ?_
  have hD' := hD
  obtain ⟨es, ep, rfl, hE⟩ := hD'
  refine wpAny_bind (wpAny_dictFind_int (mkS_get ho rfl) rfl hE.intKeys ?_)
  rw [hE.absent hk]
  exact wpAny_bind (wpAny_rule (push_ok ho hD ⟨t, u, rfl⟩ hsz hQ))

theorem dput_ok {a : Addr} {k : Int} {t u : Tok} {v : Str} {L : List (Int × Str)} {o : Obj} {Q : Unit → Shared → Prop} (ho : objs[a]? = some o) (hD : DObj o L)
    (hk : ∀ x ∈ L, x.1 ≠ k) (hsz : L.length ≤ sizeLine) (hQ : ∀ o', DObj o' (L ++ [(k, v)]) → Q () (mkS s0 (objs.set a o') n)) :
    wpAny (model prog w) A (dictPut a (hashInt k) (.int k t) (.str v u)) Q E (mkS s0 objs n) := by
  unfold dictPut
  have hD' := hD
  obtain ⟨es, ep, rfl, hE⟩ := hD'
  refine wpAny_bind (wpAny_dictFind_int (mkS_get ho rfl) rfl hE.intKeys ?_)
  rw [hE.absent hk]
  exact push_ok ho hD ⟨t, u, rfl⟩ hsz hQ

/-- the pairs of a display, as trees -/
noncomputable def pk (pos : Pos) (x : Int × Str) : Sem Value × Sem Value := (mkInt x.1, do let v ← mkText x.2; standAt pos; pure v)

theorem pair_ok {pos : Pos} {x : Int × Str} {Q : Value → Shared → Prop} (hQ : ∀ t, Q (.int x.1 t) (mkS s0 objs (n + 1))) : wpAny (model prog w) A (pk pos x).1 Q E (mkS s0 objs n) :=
  fun _ _ _ => by have := hQ (mkS s0 objs n).toks; rw [← mkS_tok] at this; exact this
theorem pairv_ok {pos : Pos} {x : Int × Str} {Q : Value → Shared → Prop} (hQ : ∀ t, Q (.str x.2 t) (mkS s0 objs (n + 1))) : wpAny (model prog w) A (pk pos x).2 Q E (mkS s0 objs n) :=
  fun _ _ _ => by have := hQ (mkS s0 objs n).toks; rw [← mkS_tok] at this; exact this

theorem evalPairs_ok {pos : Pos} : ∀ (xs : List (Int × Str)) {n : Nat} {Q : List (Value × Value) → Shared → Prop},
    (∀ vs : List (Value × Value), vs.length = xs.length → (∀ (i : Nat) (y : Value × Value), vs[i]? = some y → ∃ (x : Int × Str) (t u : Tok), xs[i]? = some x ∧ y = (Value.int x.1 t, Value.str x.2 u)) → Q vs (mkS s0 objs (n + 2 * xs.length))) →
    wpAny (model prog w) A (evalPairs (xs.map (pk pos))) Q E (mkS s0 objs n)
  | [], n, Q, hQ => wpAny_pure (hQ [] rfl (fun i y h => by simp at h))
  | x :: xs, n, Q, hQ => by
    rw [List.map_cons, show pk pos x = ((pk pos x).1, (pk pos x).2) from rfl, evalPairs]
    refine wpAny_bind (pair_ok fun t => wpAny_bind (wpAny_holding (pairv_ok fun u => wpAny_bind (wpAny_holding (evalPairs_ok xs fun vs hl hv => wpAny_pure ?_)))))
    rw [show n + 1 + 1 + 2 * xs.length = n + 2 * (x :: xs).length by simp; (first | lia | omega)]
    refine hQ _ (by simp [hl]) fun i y h => ?_
    cases i with
    | zero => simp at h; subst h; exact ⟨x, t, u, rfl, rfl⟩
    | succ i => simp at h; simpa using hv i y h

theorem set_self {objs : List Obj} {a : Nat} {o : Obj} (h : objs[a]? = some o) : objs.set a o = objs := by
  apply List.ext_getElem?
  intro i
  rw [List.getElem?_set]
  by_cases e : a = i
  · subst e
    obtain ⟨hl, e2⟩ := List.getElem?_eq_some_iff.mp h
    simp [hl, e2]
  · simp [e]
theorem getSet {objs : List Obj} {a : Nat} {o o' : Obj} (h : objs[a]? = some o) : (objs.set a o')[a]? = some o' := by
  obtain ⟨hl, _⟩ := List.getElem?_eq_some_iff.mp h
  simp [hl]

/-- what a sub-dict's filling leaves -/
theorem fillShort {a : Addr} : ∀ (vs : List (Value × Value)) (xs L : List (Int × Str)) {objs : List Obj} {n : Nat} {o : Obj} {Q : PUnit → Shared → Prop} (ho : objs[a]? = some o) (hD : DObj o L),
    vs.length = xs.length → (∀ (i : Nat) (y : Value × Value), vs[i]? = some y → ∃ (x : Int × Str) (t u : Tok), xs[i]? = some x ∧ y = (Value.int x.1 t, Value.str x.2 u)) →
    (L ++ xs).Pairwise (fun x y => x.1 ≠ y.1) → (L ++ xs).length ≤ sizeLine → (∀ o', DObj o' (L ++ xs) → Q ⟨⟩ (mkS s0 (objs.set a o') (n + xs.length))) →
    wpAny (model prog w) A (forIn vs PUnit.unit fun (x : Value × Value) _ => do dictSet a x.1 x.2; pure (ForInStep.yield PUnit.unit)) Q E (mkS s0 objs n)
  | [], xs, L, objs, n, o, Q, ho, hD, hl, hv, hp, hz, hQ => by
    have : xs = [] := List.length_eq_zero_iff.mp hl.symm
    subst this
    rw [List.forIn_nil]
    refine wpAny_pure ?_
    have := hQ o (by simpa using hD)
    rwa [set_self ho] at this
  | y :: vs, [], L, objs, n, o, Q, ho, hD, hl, hv, hp, hz, hQ => by simp at hl
  | y :: vs, x :: xs, L, objs, n, o, Q, ho, hD, hl, hv, hp, hz, hQ => by
    obtain ⟨x', t, u, e, rfl⟩ := hv 0 y rfl
    simp at e; subst e
    rw [List.forIn_cons]
    have hz' : L.length ≤ sizeLine := by simp at hz; (first | lia | omega)
    have hk : ∀ z ∈ L, z.1 ≠ x.1 := fun z hz => (List.pairwise_append.mp hp).2.2 z hz x (.head _)
    refine wpAny_bind (wpAny_bind (dset_ok ho hD hk hz' fun o' hD' => wpAny_pure ?_))
    refine fillShort vs xs (L ++ [x]) (getSet ho) hD' (by simpa using hl) (fun i z h => by simpa using hv (i + 1) z (by simpa using h)) (by simpa using hp) (by simpa using hz) fun o'' hD'' => ?_
    rw [List.set_set]
    have := hQ o'' (by simpa using hD'')
    simpa [Nat.add_assoc, Nat.add_comm 1] using this

theorem fillLong {a : Addr} {pos : Pos} : ∀ (xs L : List (Int × Str)) {objs : List Obj} {n : Nat} {o : Obj} {Q : PUnit → Shared → Prop} (ho : objs[a]? = some o) (hD : DObj o L),
    (L ++ xs).Pairwise (fun x y => x.1 ≠ y.1) → (L ++ xs).length ≤ sizeLine → (∀ o', DObj o' (L ++ xs) → Q ⟨⟩ (mkS s0 (objs.set a o') (n + 3 * xs.length))) →
    wpAny (model prog w) A (forIn (xs.map (pk pos)) PUnit.unit fun (x : Sem Value × Sem Value) _ => do
      let kv ← x.1
      let vv ← holding [kv] x.2
      holding [kv, vv] (dictSet a kv vv)
      pure (ForInStep.yield PUnit.unit)) Q E (mkS s0 objs n)
  | [], L, objs, n, o, Q, ho, hD, hp, hz, hQ => by
    rw [List.map_nil, List.forIn_nil]
    refine wpAny_pure ?_
    have := hQ o (by simpa using hD)
    rwa [set_self ho] at this
  | x :: xs, L, objs, n, o, Q, ho, hD, hp, hz, hQ => by
    rw [List.map_cons, List.forIn_cons]
    have hz' : L.length ≤ sizeLine := by simp at hz; (first | lia | omega)
    have hk : ∀ z ∈ L, z.1 ≠ x.1 := fun z hz => (List.pairwise_append.mp hp).2.2 z hz x (.head _)
    refine wpAny_bind (wpAny_bind (pair_ok fun t => wpAny_bind (wpAny_holding (pairv_ok fun u => wpAny_bind (wpAny_holding (dset_ok ho hD hk hz' fun o' hD' => wpAny_pure ?_))))))
    refine fillLong xs (L ++ [x]) (getSet ho) hD' (by simpa using hp) (by simpa using hz) fun o'' hD'' => ?_
    rw [List.set_set]
    have := hQ o'' (by simpa using hD'')
    rw [show n + 1 + 1 + 1 + 3 * xs.length = n + 3 * (x :: xs).length by simp; (first | lia | omega)]
    exact this

theorem subDict_ok {pos : Pos} {xs : List (Int × Str)} {Q : Addr → Shared → Prop} (hp : xs.Pairwise fun x y => x.1 ≠ y.1) (hz : xs.length ≤ sizeLine)
    (hQ : ∀ o', DObj o' xs → Q objs.length (mkS s0 (objs ++ [o']) (n + 3 * xs.length))) :
    wpAny (model prog w) A (subDict (xs.map (pk pos))) Q E (mkS s0 objs n) := by
  unfold subDict
  refine wpAny_bind (wpAny_alloc ?_)
  rw [mkS_push, show (mkS s0 objs n).heap.objs.size = objs.length from List.size_toArray]
  have hget : (objs ++ [({ cls := .type "dict", data := .dict #[] } : Obj)])[objs.length]? = some { cls := .type "dict", data := .dict #[] } := by simp
  have hset : ∀ o', (objs ++ [({ cls := .type "dict", data := .dict #[] } : Obj)]).set objs.length o' = objs ++ [o'] := fun o' => by simp
  refine wpAny_bind (wpAny_holding ?_)
  by_cases h : (xs.map (pk pos)).length ≤ 15
  · rw [if_pos h]
    refine wpAny_bind (evalPairs_ok xs fun vs hl hv => wpAny_holding ?_)
    refine wpAny_bind (fillShort vs xs [] hget DObj.new hl hv (by simpa using hp) (by simpa using hz) fun o' hD' => wpAny_pure (wpAny_pure ?_))
    rw [hset]
    have := hQ o' (by simpa using hD')
    rw [show n + 2 * xs.length + xs.length = n + 3 * xs.length by (first | lia | omega)]
    exact this
  · rw [if_neg h]
    refine wpAny_bind (wpAny_rule (wpAny_bind (fillLong xs [] hget DObj.new (by simpa using hp) (by simpa using hz) fun o' hD' => wpAny_pure (wpAny_pure ?_))))
    rw [hset]
    exact hQ o' (by simpa using hD')

theorem range_cons {i j m : Nat} {rest : List Nat} (h : i :: rest = List.range' j (m - j)) : j < m ∧ i = j ∧ rest = List.range' (i + 1) (m - (i + 1)) := by
  rcases Nat.lt_or_ge j m with hlt | hge
  · rw [show m - j = (m - (j + 1)) + 1 by (first | lia | omega), List.range'_succ] at h
    injection h with h1 h2
    exact ⟨hlt, h1, by rw [h2, h1]⟩
  · rw [show m - j = 0 by (first | lia | omega)] at h; cases h
theorem range_nil {j m : Nat} (h : [] = List.range' j (m - j)) : m ≤ j := by
  have := congrArg List.length h
  rw [List.length_range'] at this
  exact Nat.le_of_sub_eq_zero this.symm
inductive MergeI (s0 : Shared) (objs : List Obj) (n : Nat) (d : Addr) (L xs : List (Int × Str)) (rest : List Nat) : Shared → Prop
  | mk (i : Nat) (o' : Obj) (hr : rest = List.range' i (xs.length - i)) (hi : i ≤ xs.length) (hD : DObj o' (L ++ xs.take i)) : MergeI s0 objs n d L xs rest (mkS s0 (objs.set d o') n)
theorem isEmpty_no {α : Type} {l : Array α} (h : l.size ≠ 0) : l.isEmpty = false := by simpa using h
theorem new_key {L xs : List (Int × Str)} (hp : (L ++ xs).Pairwise fun x y => x.1 ≠ y.1) {i : Nat} {x : Int × Str} (hx : xs[i]? = some x) : ∀ z ∈ L ++ xs.take i, z.1 ≠ x.1 := fun z hz => by
  obtain ⟨hlt, e⟩ := List.getElem?_eq_some_iff.mp hx
  have e : xs = xs.take i ++ x :: xs.drop (i + 1) := by rw [← e, ← List.drop_eq_getElem_cons hlt, List.take_append_drop]
  rw [e, ← List.append_assoc, List.pairwise_append] at hp
  exact hp.2.2 z hz x (.head _)
theorem merge_ok {d a : Addr} {o o2 : Obj} {L xs : List (Int × Str)} {Q : Unit → Shared → Prop} (hd : objs[d]? = some o) (hD : DObj o L) (ha : objs[a]? = some o2) (hA : DObj o2 xs)
    (hne : d ≠ a) (hL : L ≠ []) (ha1 : (a == sysModules) = false) (hp : (L ++ xs).Pairwise fun x y => x.1 ≠ y.1) (hz : (L ++ xs).length ≤ sizeLine)
    (hQ : ∀ o', DObj o' (L ++ xs) → Q () (mkS s0 (objs.set d o') n)) : wpAny (model prog w) A (mergeMapping d (.ref a) false) Q E (mkS s0 objs n) := by
  have hA' := hA
  have hD' := hD
  obtain ⟨es, ep, rfl, hE⟩ := hD'
  obtain ⟨es2, ep2, rfl, hE2⟩ := hA'
  have hT : (mkS s0 objs n).TypeIs (.ref a) "dict" := ⟨_, mkS_get ha rfl, rfl⟩
  have hne0 : es.isEmpty = false := isEmpty_no fun e => hL (List.length_eq_zero_iff.mp (by rw [← hE.length, Array.length_toList]; exact e))
  unfold mergeMapping
  refine wpAny_bind (wpAny_isInstance hT isSubtype_dict_dict ?_)
  rw [if_pos rfl]
  refine wpAny_bind (wpAny_specialOf hT F.slot_dict_iter.lookup ?_)
  simp only [beq_self_eq_true]
  refine wpAny_bind (wpAny_pure ?_)
  dsimp only
  rw [if_neg (by rw [ha1]; exact Bool.false_ne_true)]
  refine wpAny_bind (wpAny_dictEntries (mkS_get hd rfl) rfl ?_)
  rw [if_neg (by rw [hne0]; exact Bool.false_ne_true)]
  refine wpAny_bind (wpAny_dictEntries (mkS_get ha rfl) rfl ?_)
  refine wpAny_bind (wpAny_dictEpoch (mkS_get ha rfl) rfl ?_)
  have hsz : es2.size = xs.length := by have := hE2.length; rwa [Array.length_toList] at this
  refine wpAny_bind (wpAny_forIn_list _ (fun rest _ s => MergeI s0 objs n d L xs rest s) _ ?_ ?_ _ _ ?_)
  · rintro i rest u s ⟨j, o', hr, hj, hDo⟩
    obtain ⟨hlt, rfl, rfl⟩ := range_cons hr
    have ha' : (objs.set d o')[a]? = some ⟨.type "dict", none, .dict es2 ep2, #[]⟩ := by rw [List.getElem?_set_ne hne]; exact ha
    refine wpAny_bind (wpAny_dictEntries (mkS_get ha' rfl) rfl ?_)
    have hi : i < es2.toList.length := by rw [Array.length_toList, hsz]; exact hlt
    obtain ⟨x, hx, t, u', he⟩ := hE2.get (List.getElem?_eq_getElem hi)
    have he' : es2[i]? = some ⟨hashInt x.1, .int x.1 t, .str x.2 u'⟩ := by
      rw [← Array.getElem?_toList, List.getElem?_eq_getElem hi, he]
    rw [he']
    have hlen : (L ++ xs.take i).length ≤ sizeLine := by
      have : (L ++ xs.take i).length ≤ (L ++ xs).length := by simp; (first | lia | omega)
      (first | lia | omega)
    dsimp only
    refine wpAny_bind (wpAny_holding ?_)
    rw [if_neg Bool.false_ne_true]
    refine dput_ok (getSet hd) hDo (new_key hp hx) hlen fun o'' hD'' => ?_
    rw [List.set_set]
    refine wpAny_bind (wpAny_dictEpoch (mkS_get (by rw [List.getElem?_set_ne hne]; exact ha) rfl) rfl ?_)
    rw [if_neg (by simp)]
    refine wpAny_pure (.mk (i + 1) o'' rfl hlt ?_)
    rw [List.take_add_one, hx, ← List.append_assoc]
    exact hD''
  · rintro u s ⟨j, o', hr, hj, hDo⟩
    rw [List.take_of_length_le (range_nil hr)] at hDo
    exact wpAny_pure (hQ o' hDo)
  · have := MergeI.mk (s0 := s0) (objs := objs) (n := n) (d := d) (L := L) (xs := xs) (rest := List.range es2.size) 0 _ (by rw [hsz, List.range_eq_range', Nat.sub_zero]) (Nat.zero_le _) (by rw [List.take_zero, List.append_nil]; exact hD)
    rwa [set_self hd] at this

inductive DispS (s0 : Shared) (objs : List Obj) (n : Nat) : Option Addr → List (Int × Str) → Shared → Prop
  | no : DispS s0 objs n none [] (mkS s0 objs n)
  | yes (dn : List (Int × Str)) (ds : List Obj) (o : Obj) (hd : ds.length = (dn.length + 16) / 17) (h0 : ds[0]? = some o) (hD : DObj o dn) : DispS s0 objs n (some objs.length) dn (mkS s0 (objs ++ ds) (n + 3 * dn.length))
inductive DispI (s0 : Shared) (objs : List Obj) (n : Nat) (pos : Pos) (whole : List (Int × Str)) (rest : List (Option (Sem Value) × Sem Value)) : Option Addr × List (Sem Value × Sem Value) → Shared → Prop
  | mk (dn run left : List (Int × Str)) (m : Option Addr) (s : Shared) (hr : rest = left.map fun x => (some (pk pos x).1, (pk pos x).2)) (hw : dn ++ run ++ left = whole) (hl : run.length < 17) (h0 : dn.length % 17 = 0) (hs : DispS s0 objs n m dn s) :
      DispI s0 objs n pos whole rest (m, run.map (pk pos)) s
theorem main_pos {ds : List Obj} {o : Obj} (h : ds[0]? = some o) : 0 < ds.length := (List.getElem?_eq_some_iff.mp h).1
theorem main_get {ds : List Obj} {o o' : Obj} (h : ds[0]? = some o) : (objs ++ ds ++ [o'])[objs.length]? = some o := by
  rw [List.append_assoc, List.getElem?_append_right (Nat.le_refl _), Nat.sub_self, List.getElem?_append_left (main_pos h)]; exact h
theorem main_set {ds : List Obj} {o o' o'' : Obj} (h : ds[0]? = some o) : (objs ++ ds ++ [o']).set objs.length o'' = objs ++ (ds.set 0 o'' ++ [o']) := by
  rw [List.append_assoc, List.set_append_right _ _ (Nat.le_refl _), Nat.sub_self, List.set_append_left _ _ (main_pos h)]
theorem main_new {ds : List Obj} {o o' o'' : Obj} (h : ds[0]? = some o) : (ds.set 0 o'' ++ [o'])[0]? = some o'' := by
  rw [List.getElem?_append_left (by rw [List.length_set]; exact main_pos h), List.getElem?_set_self (main_pos h)]
theorem pw_left {xs ys : List (Int × Str)} (h : (xs ++ ys).Pairwise fun x y => x.1 ≠ y.1) : xs.Pairwise fun x y => x.1 ≠ y.1 := (List.pairwise_append.mp h).1
theorem pw_right {xs ys : List (Int × Str)} (h : (xs ++ ys).Pairwise fun x y => x.1 ≠ y.1) : ys.Pairwise fun x y => x.1 ≠ y.1 := (List.pairwise_append.mp h).2.1
theorem disp_count {a b k : Nat} (h : k = (a + 16) / 17) (h0 : a % 17 = 0) (hb : 0 < b) (hb' : b ≤ 17) : k + 1 = (a + b + 16) / 17 := by (first | lia | omega)

noncomputable def flushM (run : List (Sem Value × Sem Value)) (main : Option Addr) : Sem (Option Addr) := do
  if run.isEmpty then return main
  match main with
  | none => return some (← subDict run)
  | some d =>
    let sub ← holding [.ref d] (subDict run)
    (holding [.ref d, .ref sub] (mergeMapping d (.ref sub) false)).onRaise fun x => do let _ ← holding [.ref d, x] (runValue (.builtin "proto.let_go" {}))
    return some d
theorem flush_ok {pos : Pos} {m : Option Addr} {dn : List (Int × Str)} {s : Shared} (hs : DispS s0 objs n m dn s) : ∀ {run : List (Int × Str)} {Q : Option Addr → Shared → Prop} (_ : (dn ++ run).Pairwise fun x y => x.1 ≠ y.1) (_ : (dn ++ run).length ≤ sizeLine) (_ : 2 ≤ objs.length) (_ : run.length ≤ 17) (_ : dn.length % 17 = 0)
    (_ : ∀ m' s', DispS s0 objs n m' (dn ++ run) s' → Q m' s'), wpAny (model prog w) A (flushM (run.map (pk pos)) m) Q E s
  | [], Q, hp, hz, hb, hl, h0, hQ => wpAny_pure (hQ _ _ (by rw [List.append_nil]; exact hs))
  | y :: run, Q, hp, hz, hb, hl, hm0, hQ => by
    have hzr : (y :: run).length ≤ sizeLine := Nat.le_trans (by rw [List.length_append]; exact Nat.le_add_left _ _) hz
    cases hs with
    | no =>
      refine wpAny_bind (subDict_ok hp hzr fun o' hD' => wpAny_pure ?_)
      exact hQ _ _ (.yes _ [o'] o' ((disp_count (a := 0) (k := 0) rfl rfl (Nat.succ_pos _) hl).trans (by rw [Nat.zero_add]; rfl)) rfl hD')
    | yes _ ds o hd h0 hDo =>
      have hpos := main_pos h0
      have hdn : dn ≠ [] := fun e => by rw [e, List.length_nil] at hd; (first | lia | omega)
      have hl2 : (objs ++ ds).length = objs.length + ds.length := List.length_append
      refine wpAny_bind (wpAny_holding (subDict_ok (pw_right hp) hzr fun o' hD' => ?_))
      refine wpAny_bind (wpAny_onRaise (wpAny_holding ?_))
      refine merge_ok (d := objs.length) (a := (objs ++ ds).length) (main_get h0) hDo List.getElem?_concat_length hD' (by show (objs.length : Nat) ≠ (objs ++ ds).length; (first | lia | omega)) hdn (beq_eq_false_iff_ne.mpr (by show (objs ++ ds).length ≠ 1; (first | lia | omega))) hp hz fun o'' hD'' => wpAny_pure ?_
      rw [main_set h0, show n + 3 * dn.length + 3 * (y :: run).length = n + 3 * (dn ++ y :: run).length by rw [List.length_append]; (first | lia | omega)]
      exact hQ _ _ (.yes _ _ _ (by rw [List.length_append, List.length_set, List.length_append]; exact disp_count hd hm0 (Nat.succ_pos _) hl) (main_new h0) hD'')

theorem display_ok {pos : Pos} {whole : List (Int × Str)} {Q : Value → Shared → Prop} (hp : whole.Pairwise fun x y => x.1 ≠ y.1) (hz : whole.length ≤ 16777216) (h17 : 17 ≤ whole.length) (hb : 2 ≤ objs.length)
    (hQ : ∀ ds o, ds.length = (whole.length + 16) / 17 → ds[0]? = some o → DObj o whole → Q (.ref objs.length) (mkS s0 (objs ++ ds) (n + 3 * whole.length))) :
    wpAny (model prog w) A (dictDisplay (whole.map fun x => (some (pk pos x).1, (pk pos x).2))) Q E (mkS s0 objs n) := by
  have hz : whole.length ≤ sizeLine := by rw [sizeLine_eq]; (first | lia | omega)
  unfold dictDisplay
  refine wpAny_bind (wpAny_forIn_list _ (fun (rest : List (Option (Sem Value) × Sem Value)) (b : Option Addr × List (Sem Value × Sem Value)) s => DispI s0 objs n pos whole rest b s) _ ?_ ?_ _ _
    (.mk [] [] whole _ _ rfl rfl (by decide) rfl .no))
  · rintro x rest ⟨mainD, runT⟩ s ⟨dn, run, left, _, _, hr, hw, hl, h0, hs⟩
    cases left with
    | nil => cases hr
    | cons y left =>
      injection hr with e1 e2
      subst e1 e2
      have hmap : run.map (pk pos) ++ [((pk pos y).1, (pk pos y).2)] = (run ++ [y]).map (pk pos) := (List.map_append (l₂ := [y])).symm
      have hlen : (run ++ [y]).length = run.length + 1 := List.length_append
      have hw' : dn ++ (run ++ [y]) ++ left = whole := by rw [← hw, List.append_assoc, List.append_assoc, List.append_assoc]; rfl
      dsimp only
      rw [hmap, List.length_map, hlen]
      by_cases h : run.length + 1 = 17
      · rw [if_pos (beq_iff_eq.mpr h)]
        refine wpAny_bind (flush_ok hs (pw_left (ys := left) (hw' ▸ hp)) (Nat.le_trans (by rw [← hw', List.length_append (as := dn ++ _)]; exact Nat.le_add_right _ _) hz) hb (Nat.le_of_eq (hlen.trans h)) h0 fun m' s' D => wpAny_pure ?_)
        exact .mk _ [] left _ _ rfl (by rw [List.append_nil]; exact hw') (by decide) (by rw [List.length_append, hlen, h, Nat.add_mod_right]; exact h0) D
      · rw [if_neg fun e => h (beq_iff_eq.mp e)]
        exact wpAny_pure (.mk dn (run ++ [y]) left _ _ rfl hw' (by (first | lia | omega)) h0 hs)
  · rintro ⟨mainD, runT⟩ s ⟨dn, run, left, _, _, hr, hw, hl, h0, hs⟩
    cases left with
    | cons => cases hr
    | nil =>
      rw [List.append_nil] at hw
      refine wpAny_bind (flush_ok hs (hw ▸ hp) (hw ▸ hz) hb (Nat.le_of_lt hl) h0 fun m' s' D => ?_)
      rw [hw] at D
      cases D with
      | no => exact absurd h17 (by decide)
      | yes _ ds o hd h0 hD => exact wpAny_pure (hQ ds o hd h0 hD)
end
end Mine
end

section
open PySem PySem.W PyProof.Rows
set_option Elab.async false
set_option linter.unusedVariables false
namespace Mine
open Sem (wp)

section
variable {M : Model} {Γ : Ctx} {env : Env}
theorem wp_execs_app (l rest : List Stmt) (Q : Flow → Pos → Shared → Prop) (E : Value → Pos → Shared → Prop) (p : Pos) (s : Shared) :
    wp M Γ (execs (l ++ rest) env) Q E p s = wp M Γ (execs l env) (fun f p s => match f with | .next => wp M Γ (execs rest env) Q E p s | f => Q f p s) E p s := by
  induction l generalizing p s with
  | nil => rfl
  | cons st l ih =>
    rw [List.cons_append, execs_cons, execs_cons, Sem.wp_bind', Sem.wp_bind']
    congr 1
    funext f p' s'
    cases f with
    | next => exact ih p' s'
    | _ => rfl
theorem wp_app {l rest : List Stmt} {Q : Flow → Pos → Shared → Prop} {E : Value → Pos → Shared → Prop} {p : Pos} {s : Shared}
    (h : wp M Γ (execs l env) (fun f p s => match f with | .next => wp M Γ (execs rest env) Q E p s | f => Q f p s) E p s) : wp M Γ (execs (l ++ rest) env) Q E p s := by
  rw [wp_execs_app]; exact h
end

theorem finish_done {o : Outcome} {s s' : Shared} {f : Flow} (h : finish o s = .halt (.done f) s') : o = .done f := by
  unfold finish at h
  split at h
  · cases h
  · cases h; rfl
/-- a step that ends it all stands at its end -/
theorem step_done {den : Code → Sem Fin} {p : Program} {w : World} {f : Flow} {s s' : Shared} {t : Thread} (hs : step den p w s t = .halt (.done f) s') : through t = true := by
  obtain ⟨heap, gens, drawn, toks, os⟩ := s
  obtain ⟨cur, code, pos, stack⟩ := t
  cases cur
  case pure fin =>
    cases fin with
    | again c => exact nomatch hs
    | done f' =>
      cases stack with
      | nil => rfl
      | cons F r => cases F <;> exact nomatch hs
  case raise e =>
    cases stack with
    | nil => exact nomatch finish_done (show finish (.uncaught e) _ = _ from hs)
    | cons F r => cases F <;> exact nomatch hs
  case finish e => revert hs; unfold step; dsimp only; split <;> exact fun h => nomatch h
  case load a part k => revert hs; unfold step; dsimp only; split <;> exact fun h => nomatch h
  case update a part g k => revert hs; unfold step; dsimp only; split <;> exact fun h => nomatch h
  case choose src n k => revert hs; unfold step; dsimp only; split <;> exact fun h => nomatch h
  case genState g k => revert hs; unfold step; dsimp only; split <;> exact fun h => nomatch h
  case resume g r l k =>
    revert hs; unfold step; dsimp only
    split
    · exact fun h => nomatch h
    · split <;> exact fun h => nomatch h
    · exact fun h => nomatch h
    · exact fun h => nomatch h
    · exact fun h => nomatch h
  case yield v g0 l kk => revert hs; unfold step; dsimp only; split <;> exact fun h => nomatch h
  all_goals exact nomatch hs
theorem runN_through {den : Code → Sem Fin} {p : Program} {w : World} {f : Flow} : ∀ {n : Nat} {s s' : Shared} {t : Thread}, runN den p w n s t = .halted (.done f) s' →
    ∃ m t', runN den p w m s t = .running s' t' ∧ through t' = true
  | 0, _, _, _, h => by cases h
  | n + 1, s, s', t, h => by
    unfold runN at h
    cases hs : step den p w s t with
    | go s₁ t₁ =>
      rw [hs] at h
      obtain ⟨m, t', a, b⟩ := runN_through h
      exact ⟨m + 1, t', by unfold runN; rw [hs]; exact a, b⟩
    | halt o s₁ =>
      rw [hs] at h
      simp only [Run.halted.injEq] at h
      obtain ⟨rfl, rfl⟩ := h
      have e := step_halt_same den p w s s₁ t _ hs
      subst e
      exact ⟨0, t, rfl, step_done hs⟩
end Mine
end

section
open PySem PySem.W PyProof.Rows PySem.Calls
set_option Elab.async false
set_option linter.unusedVariables false
namespace Mine
open Sem (wp)

/-- what stands behind the top -/
noncomputable def Behind (p q : Program) (loose : List Str) (YP : World → Heap → Prop) (w : World) : Prop :=
  (∃ s, AfterRun (opening p) w s) ∧ ∀ s, AfterRun (opening p) w s → ∃ s₀, fenceModules? p s = some s₀ ∧ s₀.gens = #[] ∧ ∃ s₁, TopRan p w s₀ s₁ ∧ s₁.asleep ∧ s₁.gens = #[] ∧ s₁.heap.isNs mainGlobals = true ∧
    Ground q loose [] (fun _ _ => True) w s₁ (s₁.heap.nsMap mainGlobals) (s₁.heap.nsMap builtinsNs) s₁.heap ∧ YP w s₁.heap

theorem holds_mine {r : OpenRow} {q : Program} {loose : List Str} {YP : World → Heap → Prop} {d : DefRec} {kwd : List (Str × Expr)} (beh : ∀ w, Behind r.prog q loose YP w) (hR : r.records = [])
    (hYk : ∀ w h h', YP w h → (∀ b o, h.get? b = some o → h'.get? b = some o) → YP w h')
    (hdef : defOf q r.name = some (d, kwd)) (hp : r.prog.theDef r.name = some (d.params, d.body, d.scope)) (hk : kwWritten? d.params.kwonlyargs d.params.kw_defaults = some kwd) (hwr : r.writes = false)
    (k1 : r.wellSaid = true) (ok : (chainsOk q && opensWell r.prog && (frees r.toRowW && r.within.isEmpty)) = true) (hb : r.prog.bare) (hw : r.toRowW.promised)
    (call : ∀ (w : World) (s₀ s₁ : Shared) (mg mb : Str → Option Value), Ground q loose [] (fun _ _ => True) w s₀ mg mb s₁.heap → YP w s₁.heap → ∀ (args : List WData) (vs : List Value) (as : List Addr),
      r.toRowW.claim.pre args = true → WData.layableAll args = true → s₁.gens = #[] → ReadsAllW [] (classAt s₀.heap) s₁.heap vs args as → ∃ f, mg r.name = some f ∧
        wpAny (model r.prog w) callerA (PySem.call f vs) (fun v s' => GoodW r.toRowW.claim (classAt s₀.heap) (ExcName.means s₀.heap) args s₁ (.ok (.ret v)) s') (fun _ _ => False) s₁) : r.Holds := by
  obtain ⟨ok, k5⟩ := Bool.and_eq_true_iff.mp ok
  obtain ⟨hch, o1⟩ := Bool.and_eq_true_iff.mp ok
  obtain ⟨k5, k6⟩ := Bool.and_eq_true_iff.mp k5
  obtain ⟨hsame, hu, ha, hap, hm⟩ := frees_parts k5
  have hRc : r.toRowW.claim.records = [] := hR
  refine ⟨k1, hw, ⟨hb, o1, by show r.makers.map _ = []; rw [hm]; rfl⟩, hw.witness, fun w => ⟨(beh w).1, fun s' hs' => ?_⟩⟩
  obtain ⟨s₀, hf, hg0, s, hT, hz, hgens, hg, G, y⟩ := (beh w).2 s' hs'
  refine ⟨s₀, hf, hg0, s, hT, fun n hn => ?_, by rw [hRc]; exact fun x hx => (nomatch hx), by rw [hRc]; exact fun x hx => (nomatch hx), ?_⟩
  · obtain rfl : n = r.name := by split at hn <;> simp_all
    exact pinned_of_view hg G hdef hp hk
  refine ClaimW.callFrom_of_specN (c := r.toRowW.claim) (tree := fun vs => do match ← nsGet mainNs r.name with
      | some f => do ret (← PySem.call f vs)
      | none => unsupported "claim.caller:no-such-global") hz (by rw [hgens]; simp [leftWithCleanup]) fun args hpre hlay ord hord => ?_
  have hpre' := hpre
  obtain ⟨⟨vs, s₁⟩, hlaid⟩ := Option.isSome_iff_exists.mp (layAllW_isSome (P := w.params) (ord := ord) (R := r.toRowW.claim.records) (by rw [hRc]; exact G.has) args r.args s (pre_splitW hpre).1)
  have keeps := layAllW_keeps _ _ _ hlaid
  have hal := layAllW_rest _ _ _ hlaid
  obtain ⟨as, hrd, hin, hold⟩ := reads_layAllW hord _ _ _ hlaid hlay s₁.heap (fun _ _ e => e)
  have G₁ := G.keeps (fun _ _ _ _ _ => trivial) keeps
  have hwi : r.within = [] := List.isEmpty_iff.mp k6
  have hi := ident_freeW hu ha hap
  obtain ⟨f, hfn, h⟩ := call w s { s₁ with gens := #[] } _ _ G₁ (hYk _ _ _ y keeps) args vs as hpre hlay rfl (by rw [← hRc]; exact hrd)
  have hal0 := hal.2.2.1
  refine ⟨vs, s₁, hlaid, ?_⟩
  refine wpAny_bind (wpAny_nsGet G₁.T.g ?_)
  rw [hfn]
  refine wpAny_bind (wpAny_mono h (fun v s' g => ?_) fun _ _ x => x.elim)
  have z := GoodW.endsN (c := r.toRowW.claim) hsame hwi hi hrd hold hal0 g
  exact wpAny_pure ⟨_, rfl, z.1, z.2.1, z.2.2, fun q => by rw [hwr] at q; cases q⟩

noncomputable abbrev Γ₀ : Ctx := ⟨.builtin "claim.caller" {}, none, none, [], none⟩

theorem behind_of {p q : Program} {loose : List Str} {YP : World → Heap → Prop} {N : Nat} {Good : OsState → Shared → Prop} (w : World) {H₀ : Heap} {d₀ : Drawn} {k₀ : Nat} (hch : chainsOk q = true)
    (open_ : (fencedOpening treeTable p w N).map (fun s => (s.heap, s.gens, s.drawn, s.toks)) = some (H₀, Array.mk [], d₀, k₀))
    (hn : H₀.isNs mainGlobals = true)
    (run : ∀ os, wp ⟨denote table, p, w⟩ Γ₀ (topStub p).cur (Sem.finPost ⟨denote table, p, w⟩ Γ₀ fun r s' => r = .ok (.ret .none) ∧ Good os s') (fun _ _ _ => False) default ⟨H₀, Array.mk [], d₀, k₀, os⟩)
    (good : ∀ os s₁, Good os s₁ → s₁.gens = #[] ∧ s₁.os = os ∧ YP w s₁.heap ∧
      (staticsOk (importedModules p.main.body) H₀ s₁.heap && namesBound p s₁.heap && gensDone s₁ && laidKept H₀ s₁.heap) = true ∧
      openSeen q loose (importedModules p.main.body) (fun _ => true) true s₁ = openGood q loose ∧
      (∀ b o, H₀.get? b = some o → ¬ theTopsOwn H₀ b → s₁.heap.get? b = some o)) : Behind p q loose YP w := by
  rw [← table_eq_tree] at open_
  obtain ⟨⟨h, gs, d, k, os⟩, h2, e'⟩ := Option.map_eq_some_iff.mp open_
  obtain ⟨rfl, rfl, rfl, rfl⟩ : h = H₀ ∧ gs = Array.mk [] ∧ d = d₀ ∧ k = k₀ := by simpa using e'
  unfold fencedOpening at h2
  obtain ⟨s, h4, h5⟩ := Option.bind_eq_some_iff.mp h2
  have A := AfterImport.of_importEnds h4
  refine ⟨⟨s, A⟩, fun s' hs' => ?_⟩
  obtain rfl : s' = s := AfterImport.unique hs' A
  have z : (⟨h, Array.mk [], d, k, os⟩ : Shared).asleep := Shared.asleep_of_life (fence_lifeW h5) A.life
  have hwp := run os
  obtain ⟨n, r, s₁, hrun, ⟨rfl, hgood⟩, hg2⟩ := (wp_iff_halts (M := ⟨denote table, p, w⟩) (c := .builtin "claim.caller" {}) (topStub p).cur (fun r s' => (r = .ok (.ret .none) ∧ Good os s') ∧ s'.gens = #[]) default ⟨h, Array.mk [], d, k, os⟩).mp
    (Sem.wp_mono _ _ _ (fun fin q s' h => by
      cases fin with
      | done f =>
        have g1 := (good os s' h.2).1
        exact ⟨⟨h, g1⟩, by rw [g1]; simp [leftWithCleanup]⟩
      | again c => exact ⟨h.1, wpCode_mono (fun r t ht => by
          have g1 := (good os t ht.2).1
          exact ⟨⟨ht, g1⟩, by rw [g1]; simp [leftWithCleanup]⟩) h.2⟩) (fun _ _ _ x => x.elim) _ _ hwp)
  obtain ⟨g1, os1, y, hl, hseen, hold⟩ := good os s₁ hgood
  simp only [Bool.and_eq_true] at hl
  obtain ⟨⟨⟨l1, l2⟩, l3⟩, l4⟩ := hl
  obtain ⟨s₃, hr, hfo, hc⟩ := runNI_real _ _ _ hrun (outcomeOf_ends _)
  obtain rfl := Shared.eq_of_forget_eq hfo g1
  have hne : ∀ k' s₂, runN (denote table) p w k' ⟨h, Array.mk [], d, k, os⟩ (topStub p) ≠ .halted (.unsupported "lifetime:generator-with-cleanup-left-suspended") s₂ := by
    intro k' s₂ hk
    have a := runN_mono _ _ _ n k' _ _ _ _ hr
    have b := runN_mono _ _ _ k' n _ _ _ _ hk
    rw [Nat.add_comm, show (topStub p) = ⟨(topStub p).cur, .builtin "claim.caller" {}, default, []⟩ from rfl] at b
    rw [b] at a
    injection a with a1 _
    cases a1
  obtain ⟨m, t', hm, ht⟩ := runN_through (f := .ret .none) hr
  have hsch : schedN (denote table) p w m (.single ⟨h, Array.mk [], d, k, os⟩ (topStub p)) = .running (.single s₃ t') := by
    exact (schedN_eq_runN (denote table) p w ⟨h, Array.mk [], d, k, os⟩ (topStub p) z ⟨hc, hne⟩ m).trans (congrArg Run.lift hm)
  have hlife : s₃.heap.life = h.life := runN_life_running hm
  obtain ⟨G, g0, hg, g2, g3, g4, g5⟩ := ground_of_open (w := w) (XP := fun _ _ => True) (fun _ _ => trivial) hch hseen
  exact ⟨_, h5, rfl, s₃, ⟨⟨m, t', hsch, ht⟩, hlife, Shared.rest_eq os1, hold, g2, statics_of_ok l1, g3, g4, g5, gens_of_done l3, names_of_bound l2, laid_of_kept l4⟩,
    Shared.asleep_of_life hlife z, g1, hg, G, y⟩
end Mine
end

section
open PySem PySem.W PyProof.Rows PySem.Calls
set_option Elab.async false
set_option linter.unusedVariables false
namespace Mine
open Sem (wp)

noncomputable abbrev topEnv (p : Program) (cd : Value) (fr : Addr) : Env := { scope := p.main.scope, locals := mainNs, globals := mainNs, cells := [], code := cd, frame := some fr }
noncomputable abbrev topPre (p : Program) : Sem (Value × Addr) := moduleCode p.main >>= fun code => newBodyFrame code mainNs mainNs >>= fun frame => pure (code, frame)
noncomputable abbrev wrM (p : Program) (w : World) (Γ : Ctx) {α : Type} (t : Sem α) (q : Pos) (s : SharedT) : Option (Except Value α × Pos × SharedT) :=
  wr (denote tableM) p w (runCode (denote tableM) p w 2000) Γ t q s
theorem wrM_sound {p : Program} {w : World} {Γ : Ctx} {α : Type} {t : Sem α} {q q' : Pos} {s s' : SharedT} {a : α} {Q : α → Pos → Shared → Prop} {E : Value → Pos → Shared → Prop}
    (h : wrM p w Γ t q s = some (.ok a, q', s')) (hq : Q a q' s'.abs) : wp ⟨denote table, p, w⟩ Γ t Q E q s.abs := by
  rw [table_eq_M]
  exact wr_sound (runCode_sound 2000) t q s _ _ _ Q E h hq

theorem topWp {p : Program} {w : World} {Sb S0 : SharedT} {cd : Value} {fr : Addr} {q1 : Pos} {Good : Shared → Prop}
    (h1 : wrM p w Γ₀ (topPre p) default Sb = some (.ok (cd, fr), q1, S0))
    (hann : hasAnns (behindTheImports p) = false) (hdoc : docOf (behindTheImports p) = none)
    (h2 : wp ⟨denote table, p, w⟩ (Γ₀.enter (.body (behindTheImports p) (topEnv p cd fr)) none q1) (execs (behindTheImports p) (topEnv p cd fr)) (fun f _ s' => f = .next ∧ Good s') (fun _ _ _ => False) q1 S0.abs) :
    wp ⟨denote table, p, w⟩ Γ₀ (topStub p).cur (Sem.finPost ⟨denote table, p, w⟩ Γ₀ fun rr s' => rr = .ok (.ret .none) ∧ Good s') (fun _ _ _ => False) default Sb.abs := by
  have e : (topStub p).cur = (topPre p >>= fun x => (do
      let _ ← run (.body (behindTheImports p) (topEnv p x.1 x.2))
      ret .none)) := by
    show (moduleCode p.main >>= fun code => newBodyFrame code mainNs mainNs >>= fun frame => (do
      let _ ← run (.body (behindTheImports p) (topEnv p code frame))
      ret .none)) = _
    unfold topPre
    simp only [bind_assoc, pure_bind]
  rw [e, Sem.wp_bind']
  refine wrM_sound h1 ?_
  dsimp only
  rw [Sem.wp_bind', Sem.wp_run]
  rw [wpCode_iff_wp]
  have hb : blockStart (behindTheImports p) (topEnv p cd fr) = pure () := by
    unfold blockStart
    rw [hann, hdoc]
    cases interactive (topEnv p cd fr) <;> rfl
  show wp _ _ (do blockStart (behindTheImports p) (topEnv p cd fr); return Fin.done (← (execs (behindTheImports p) (topEnv p cd fr)).onRaise (leaving (topEnv p cd fr)))) _ _ _ _
  rw [hb, pure_bind, Sem.wp_bind', Sem.wp_onRaise]
  refine Sem.wp_mono _ _ _ (fun f q s' h => ?_) (fun _ _ _ x => x.elim) _ _ h2
  obtain ⟨rfl, h⟩ := h
  exact ⟨rfl, h⟩

noncomputable def aroundOf (Γ : Ctx) : Around := { handled := Γ.handled, depth := frameCount Γ.below + Γ.code.weight, frames := none, guards := none, units := Γ.units }
theorem in_around (Γ : Ctx) : Γ.In (aroundOf Γ) := ⟨rfl, Nat.le_refl _, fun l hl => (nomatch hl), fun g hg => (nomatch hg), Nat.le_refl _⟩
theorem wp_of_any {M : Model} {Γ : Ctx} {α : Type} {t : Sem α} {Q : α → Shared → Prop} {E : Value → Shared → Prop} {p : Pos} {s : Shared} (h : wpAny M (aroundOf Γ) t Q E s) :
    wp M Γ t (fun a _ s' => Q a s') (fun e _ s' => E e s') p s := h Γ p (in_around Γ)

noncomputable def dKey : Option Expr → Option Int
  | some (.Constant (.int i) _ _) => some i
  | _ => none
noncomputable def dStr : Expr → Option Str
  | .Constant (.str s) _ _ => some s
  | _ => none
inductive KeyAt (i : Int) : Option Expr → Prop
  | mk (a : Nat) (p : Pos) : KeyAt i (some (.Constant (.int i) a p))
inductive StrAt (s : Str) : Expr → Prop
  | mk (a : Nat) (p : Pos) : StrAt s (.Constant (.str s) a p)
theorem noOpt {α : Type} {x : α} {P : Prop} (h : (none : Option α) = some x) : P := nomatch h
theorem dKey_at {i : Int} {k : Option Expr} (h : dKey k = some i) : KeyAt i k := by
  cases k with
  | none => exact noOpt h
  | some e =>
    cases e with
    | Constant c a p =>
      cases c with
      | int j => obtain rfl := Option.some.inj h; exact .mk a p
      | _ => exact noOpt h
    | _ => exact noOpt h
theorem dStr_at {s : Str} {e : Expr} (h : dStr e = some s) : StrAt s e := by
  cases e with
  | Constant c a p =>
    cases c with
    | str j => obtain rfl := Option.some.inj h; exact .mk a p
    | _ => exact noOpt h
  | _ => exact noOpt h
noncomputable def pairsOf : List (Option Expr) → List Expr → Option (List (Int × Str))
  | [], [] => some []
  | [], _ :: _ => none
  | _ :: _, [] => none
  | k :: ks, v :: vs => (dKey k).bind fun i => (dStr v).bind fun s => (pairsOf ks vs).bind fun l => some ((i, s) :: l)
theorem pairsOf_items {env : Env} {pos : Pos} : ∀ {ks : List (Option Expr)} {vs : List Expr} {L : List (Int × Str)}, pairsOf ks vs = some L →
    (evalEachOpt ks env).zip ((evalEach vs env).map fun v => do let x ← v; standAt pos; pure x) = L.map fun x => (some (pk pos x).1, (pk pos x).2) := by
  intro ks
  induction ks with
  | nil =>
    intro vs L h
    cases vs with
    | nil => cases Option.some.inj h; rfl
    | cons => cases h
  | cons k ks ih =>
    intro vs L h
    cases vs with
    | nil => cases h
    | cons v vs =>
      obtain ⟨i, h1, h⟩ := Option.bind_eq_some_iff.mp (show (dKey k).bind (fun i => (dStr v).bind fun s => (pairsOf ks vs).bind fun l => some ((i, s) :: l)) = some L from h)
      obtain ⟨s, h2, h⟩ := Option.bind_eq_some_iff.mp h
      obtain ⟨l, h3, e⟩ := Option.bind_eq_some_iff.mp h
      obtain ⟨a, p⟩ := dKey_at h1
      obtain ⟨b, q⟩ := dStr_at h2
      cases Option.some.inj e
      rw [arm_evalEachOpt_cons, arm_evalEach_cons, List.map_cons, List.zip_cons_cons, ih h3, List.map_cons]
      rfl

noncomputable def ascB : List (Int × Str) → Bool
  | [] => true
  | [_] => true
  | x :: y :: r => decide (x.1 < y.1) && ascB (y :: r)
theorem ascB_lt : ∀ {l : List (Int × Str)} {x : Int × Str}, ascB (x :: l) = true → ∀ y ∈ l, x.1 < y.1
  | [], _, _, y, hy => nomatch hy
  | z :: l, x, h, y, hy => by
    simp only [ascB, Bool.and_eq_true, decide_eq_true_eq] at h
    cases hy with
    | head => exact h.1
    | tail _ hy => exact Int.lt_trans h.1 (ascB_lt h.2 y hy)
theorem ascB_tail {l : List (Int × Str)} {x : Int × Str} (h : ascB (x :: l) = true) : ascB l = true := by
  cases l with
  | nil => rfl
  | cons y l => simp only [ascB, Bool.and_eq_true] at h; exact h.2
theorem ascB_pair : ∀ {l : List (Int × Str)}, ascB l = true → l.Pairwise fun x y => x.1 ≠ y.1
  | [], _ => .nil
  | x :: l, h => .cons (fun y hy => Int.ne_of_lt (ascB_lt h y hy)) (ascB_pair (ascB_tail h))

theorem b3_step {p : Program} {w : World} {Γ : Ctx} {env : Env} {ks : List (Option Expr)} {vs : List Expr} {pD pN pA : Pos} {x : Str} {L : List (Int × Str)} {objs : List Obj} {s0 : Shared}
    {Q : Flow → Pos → Shared → Prop} {q : Pos} (hL : pairsOf ks vs = some L) (ha : ascB L = true) (h17 : 17 ≤ L.length) (hz : L.length ≤ 16777216) (hb : 2 ≤ objs.length) (hs : s0.heap.objs = objs.toArray)
    (hsw : swapsWith (.Dict ks vs pD) (some (.Name x pN)) pA.line env = pure false)
    (hQ : ∀ ds o q, ds.length = (L.length + 16) / 17 → ds[0]? = some o → DObj o L →
      wp ⟨denote table, p, w⟩ Γ (do standAt pN; bindName env x (.ref objs.length)) (fun _ q s => Q .next q s) (fun _ _ _ => False) q (mkS s0 (objs ++ ds) (3 * L.length))) :
    wp ⟨denote table, p, w⟩ Γ (execs [.Assign [.Name x pN] (.Dict ks vs pD) pA] env) Q (fun _ _ _ => False) q s0 := by
  have e : s0 = mkS s0 objs 0 := by
    obtain ⟨⟨o, l⟩, g, d, t, os⟩ := s0
    dsimp only at hs
    subst hs
    rfl
  rw [execs_cons, exec_Assign_Name env x pN (.Dict ks vs pD) pA hsw]
  simp only [Sem.wp_bind']
  have this : wp ⟨denote table, p, w⟩ Γ (dictDisplay (L.map fun x => (some (pk pD x).1, (pk pD x).2)))
      (fun v _ s' => ∃ ds o, v = .ref objs.length ∧ ds.length = (L.length + 16) / 17 ∧ ds[0]? = some o ∧ DObj o L ∧ s' = mkS s0 (objs ++ ds) (3 * L.length)) (fun _ _ _ => False) pD (mkS s0 objs 0) :=
    wp_of_any (display_ok (prog := p) (w := w) (ascB_pair ha) hz h17 hb fun ds o h1 h2 h3 => ⟨ds, o, rfl, h1, h2, h3, by rw [Nat.zero_add]⟩)
  have hd : eval (.Dict ks vs pD) env = (do standAt pD; dictDisplay (L.map fun x => (some (pk pD x).1, (pk pD x).2))) := by rw [arm_eval_Dict, pairsOf_items hL]
  rw [hd]
  rw [← e] at this
  show wp _ _ (dictDisplay _) _ _ pD s0
  refine Sem.wp_mono _ _ _ (fun v q' s' h => ?_) (fun _ _ _ h => h) _ _ this
  obtain ⟨ds, o, rfl, h1, h2, h3, rfl⟩ := h
  have z := hQ ds o q' h1 h2 h3
  simp only [Sem.wp_bind'] at z ⊢
  exact z

/-- a run, closed to unfolding -/
structure Wp (p : Program) (w : World) (Γ : Ctx) {α : Type} (t : Sem α) (Q : α → Pos → Shared → Prop) (q : Pos) (s : Shared) : Prop where
  out : wp ⟨denote table, p, w⟩ Γ t Q (fun _ _ _ => False) q s
theorem Wp.nil {p : Program} {w : World} {Γ : Ctx} {env : Env} {Q : Flow → Pos → Shared → Prop} {q : Pos} {s : Shared} (h : Q .next q s) : Wp p w Γ (execs [] env) Q q s := ⟨h⟩
theorem Wp.piece {p : Program} {w : World} {Γ : Ctx} {env : Env} {l rest : List Stmt} {Q : Flow → Pos → Shared → Prop} {q q' : Pos} {s s' : SharedT}
    (h : wrM p w Γ (execs l env) q s = some (.ok .next, q', s')) (k : Wp p w Γ (execs rest env) Q q' s'.abs) : Wp p w Γ (execs (l ++ rest) env) Q q s.abs :=
  ⟨wp_app (wrM_sound h k.out)⟩
theorem Wp.b3 {p : Program} {w : World} {Γ : Ctx} {env : Env} {l rest : List Stmt} {ks : List (Option Expr)} {vs : List Expr} {pD pN pA : Pos} {x : Str} {L : List (Int × Str)} {objs : List Obj} {s0 : Shared}
    {Q : Flow → Pos → Shared → Prop} {q : Pos} (hl : l = [.Assign [.Name x pN] (.Dict ks vs pD) pA]) (hL : pairsOf ks vs = some L) (ha : ascB L = true) (h17 : 17 ≤ L.length) (hz : L.length ≤ 16777216) (hb : 2 ≤ objs.length) (hs : s0.heap.objs = objs.toArray)
    (hsw : swapsWith (.Dict ks vs pD) (some (.Name x pN)) pA.line env = pure false)
    (hQ : ∀ ds o, ds.length = (L.length + 16) / 17 → ds[0]? = some o → DObj o L → ∃ (sm s' : SharedT) (q' : Pos), (∀ q, wrM p w Γ (do standAt pN; bindName env x (.ref objs.length)) q sm = some (.ok (), q', s')) ∧
      mkS s0 (objs ++ ds) (3 * L.length) = sm.abs ∧ Wp p w Γ (execs rest env) Q q' s'.abs) : Wp p w Γ (execs (l ++ rest) env) Q q s0 := by
  subst hl
  refine ⟨wp_app (b3_step hL ha h17 hz hb hs hsw fun ds o q h1 h2 h3 => ?_)⟩
  obtain ⟨sm, s', q', h4, h5, h6⟩ := hQ ds o h1 h2 h3
  rw [h5]
  exact wrM_sound (h4 q) h6.out
end Mine
end

section
open PySem PySem.W PyProof.Rows PySem.Calls
set_option Elab.async false
set_option linter.unusedVariables false
set_option maxRecDepth 100000
namespace Mine
open Sem (wp)
noncomputable section
noncomputable abbrev S (s : String) : Str := Str.ofString s
namespace P2
noncomputable abbrev pw : Program := PySem.Challenge.pw_wf0082_02
noncomputable def bdy : List Stmt := behindTheImports pw
noncomputable def stAt (i : Nat) : Stmt := (bdy[i]?).getD (.Pass ⟨0, 0, 0, 0⟩)
noncomputable def fdOf (i : Nat) (g : Addr) (pm cd : Value) (b : Addr) : FuncData := match stAt i with
  | .FunctionDef name args body _ _ _ scope _ _ _ => { name := name, qualname := name, params := args, body := .stmts body, scope := scope, globals := g, closure := [], defaults := .none, kwdefaults := .none, pyModule := pm, code := cd, builtins := b }
  | _ => default
noncomputable abbrev env : Env := topEnv pw (.ref 13) 14
noncomputable abbrev Γ₁ : Ctx := Γ₀.enter (.body (behindTheImports pw) (topEnv pw (.ref 13) 14)) none ⟨0, 0, 0, 0⟩
noncomputable def tree_b (P : Params) : BT := (.node (boot_o_0 P) (.node (boot_o_1 P) (.node (boot_o_3 P) (.node (boot_o_7 P) .nil .nil) .nil) (.node (boot_o_5 P) (.node (boot_o_9 P) .nil .nil) .nil)) (.node (boot_o_2 P) (.node (boot_o_4 P) (.node (boot_o_8 P) .nil .nil) .nil) (.node (boot_o_6 P) (.node (boot_o_10 P) .nil .nil) .nil)))
noncomputable def S_b (P : Params) (os : OsState) : SharedT := ⟨tree_b P, 11, {}, #[], boot_drawn, boot_toks, os⟩
noncomputable def o11_0 (P : Params) : Obj := ⟨(.type "tuple"), none, (.seq #[] 0), #[]⟩
noncomputable def o12_0 (P : Params) : Obj := ⟨.none, none, (.fields #[]), #[]⟩
noncomputable def o13_0 (P : Params) : Obj := ⟨(.type "code"), none, (.fields #[(.str (S "<module>") 182), (.str (S "<module>") 183), (.str (S "/claim/cut.py") 184), (.int 1 0), (.int 0 0), (.int 0 0), (.int 0 0), (.int 0 0), (.ref 11), (.bool false), (.int 181 0), (.ref 12), .none, .none, .none, .none, (.int 185 0), (.int 1 0), (.str (S "/claim/cut.py") 186)]), #[]⟩
noncomputable def o14_0 (P : Params) : Obj := ⟨(.type "frame"), none, .plain, #[(some (.ref 13)), (some (.ref 3)), (some (.ref 3)), none, (some (.str (S "__main__") 164)), none, (some (.ref 0))]⟩
noncomputable def tree_0 (P : Params) : BT := (.node (boot_o_0 P) (.node (boot_o_1 P) (.node (boot_o_3 P) (.node (boot_o_7 P) .nil .nil) (.node (o11_0 P) .nil .nil)) (.node (boot_o_5 P) (.node (boot_o_9 P) .nil .nil) (.node (o13_0 P) .nil .nil))) (.node (boot_o_2 P) (.node (boot_o_4 P) (.node (boot_o_8 P) .nil .nil) (.node (o12_0 P) .nil .nil)) (.node (boot_o_6 P) (.node (boot_o_10 P) .nil .nil) (.node (o14_0 P) .nil .nil))))
noncomputable def S_0 (P : Params) (os : OsState) : SharedT := ⟨tree_0 P, 15, {}, #[], boot_drawn, 187, os⟩
theorem pre (w : World) (os : OsState) : wrM pw w Γ₀ (topPre pw) default (S_b w.params os) = some (.ok ((.ref 13), 14), ⟨0, 0, 0, 0⟩, S_0 w.params os) := by kernel_rfl
noncomputable def e3_1 (P : Params) : List DictEntry := [⟨PyData.keyHash P (S "__name__"), (.str (S "__name__") 165), (.str (S "cpy313.ftplib") 187)⟩, ⟨PyData.keyHash P (S "__doc__"), (.str (S "__doc__") 166), .none⟩, ⟨PyData.keyHash P (S "__package__"), (.str (S "__package__") 167), .none⟩, ⟨PyData.keyHash P (S "__loader__"), (.str (S "__loader__") 168), (.builtin "__main__.__loader__#opaque")⟩, ⟨PyData.keyHash P (S "__spec__"), (.str (S "__spec__") 169), .none⟩, ⟨PyData.keyHash P (S "__annotations__"), (.str (S "__annotations__") 170), (.ref 6)⟩, ⟨PyData.keyHash P (S "__builtins__"), (.str (S "__builtins__") 171), (.ref 4)⟩, ⟨PyData.keyHash P (S "__file__"), (.str (S "__file__") 173), (.str (S "/claim/cut.py") 172)⟩, ⟨PyData.keyHash P (S "__cached__"), (.str (S "__cached__") 174), .none⟩]
noncomputable def o3_1 (P : Params) : Obj := ⟨(.type "dict"), none, (.dict (e3_1 P).toArray 9), #[]⟩
noncomputable def tree_1 (P : Params) : BT := (.node (boot_o_0 P) (.node (boot_o_1 P) (.node (o3_1 P) (.node (boot_o_7 P) .nil .nil) (.node (o11_0 P) .nil .nil)) (.node (boot_o_5 P) (.node (boot_o_9 P) .nil .nil) (.node (o13_0 P) .nil .nil))) (.node (boot_o_2 P) (.node (boot_o_4 P) (.node (boot_o_8 P) .nil .nil) (.node (o12_0 P) .nil .nil)) (.node (boot_o_6 P) (.node (boot_o_10 P) .nil .nil) (.node (o14_0 P) .nil .nil))))
noncomputable def S_1 (P : Params) (os : OsState) : SharedT := ⟨tree_1 P, 15, {}, #[], boot_drawn, 189, os⟩
theorem pc_1 (w : World) (os : OsState) (q : Pos) : wrM pw w Γ₁ (execs ((bdy.drop 0).take 1) env) q (S_0 w.params os) = some (.ok .next, ⟨1, 0, 1, 8⟩, S_1 w.params os) := by kernel_rfl
noncomputable def e2_1 (P : Params) : List DictEntry := [⟨PyData.keyHash P (S "type.__subclasses__.Exception.0"), (.str (S "type.__subclasses__.Exception.0") 205), (.int 24 0)⟩, ⟨PyData.keyHash P (S "type.__subclasses__.Exception.n"), (.str (S "type.__subclasses__.Exception.n") 206), (.int 1 0)⟩]
noncomputable def o2_1 (P : Params) : Obj := ⟨.none, none, (.dict (e2_1 P).toArray 2), #[]⟩
noncomputable def e3_2 (P : Params) : List DictEntry := e3_1 P ++ [⟨PyData.keyHash P (S "Error"), (.str (S "Error") 208), (.ref 24)⟩]
noncomputable def o3_2 (P : Params) : Obj := ⟨(.type "dict"), none, (.dict (e3_2 P).toArray 10), #[]⟩
noncomputable def o12_1 (P : Params) : Obj := ⟨.none, none, (.fields #[(.int 2 0), (.int 0 0), (.ref 20)]), #[]⟩
noncomputable def o15_0 (P : Params) : Obj := ⟨(.type "tuple"), none, (.seq #[(.type "Exception")] 0), #[]⟩
noncomputable def o16_0 (P : Params) : Obj := ⟨(.type "builtin_function_or_method"), none, (.fields #[(.builtin "type.__prepare__"), (.type "type")]), #[]⟩
noncomputable def e17_0 (P : Params) : List DictEntry := [⟨PyData.keyHash P (S "__module__"), (.str (S "__module__") 196), (.str (S "cpy313.ftplib") 187)⟩, ⟨PyData.keyHash P (S "__qualname__"), (.str (S "__qualname__") 198), (.str (S "Error") 197)⟩, ⟨PyData.keyHash P (S "__firstlineno__"), (.str (S "__firstlineno__") 200), (.int 2 199)⟩, ⟨PyData.keyHash P (S "__static_attributes__"), (.str (S "__static_attributes__") 201), (.ref 22)⟩]
noncomputable def o17_0 (P : Params) : Obj := ⟨(.type "dict"), none, (.dict (e17_0 P).toArray 4), #[]⟩
noncomputable def o18_0 (P : Params) : Obj := ⟨(.type "tuple"), none, (.seq #[] 0), #[]⟩
noncomputable def o19_0 (P : Params) : Obj := ⟨.none, none, (.fields #[]), #[]⟩
noncomputable def o20_0 (P : Params) : Obj := ⟨(.type "code"), none, (.fields #[(.str (S "Error") 191), (.str (S "Error") 192), (.str (S "/claim/cut.py") 193), (.int 2 0), (.int 0 0), (.int 0 0), (.int 0 0), (.int 0 0), (.ref 18), (.bool false), (.int 181 0), (.ref 19), .none, .none, .none, .none, (.int 194 0), (.int 2 0), (.str (S "/claim/cut.py") 195)]), #[]⟩
noncomputable def o21_0 (P : Params) : Obj := ⟨(.type "frame"), none, .plain, #[(some (.ref 20)), (some (.ref 3)), (some (.ref 17)), none, (some (.str (S "cpy313.ftplib") 187)), none, (some (.ref 0))]⟩
noncomputable def o22_0 (P : Params) : Obj := ⟨(.type "tuple"), none, (.seq #[] 0), #[]⟩
noncomputable def e23_0 (P : Params) : List DictEntry := [⟨PyData.keyHash P (S "__module__"), (.str (S "__module__") 196), (.str (S "cpy313.ftplib") 187)⟩, ⟨PyData.keyHash P (S "__firstlineno__"), (.str (S "__firstlineno__") 200), (.int 2 199)⟩, ⟨PyData.keyHash P (S "__static_attributes__"), (.str (S "__static_attributes__") 201), (.ref 22)⟩, ⟨PyData.keyHash P (S "__weakref__"), (.str (S "__weakref__") 203), (.ref 25)⟩, ⟨PyData.keyHash P (S "__doc__"), (.str (S "__doc__") 204), .none⟩]
noncomputable def o23_0 (P : Params) : Obj := ⟨(.type "dict"), none, (.dict (e23_0 P).toArray 3), #[]⟩
noncomputable def o24_0 (P : Params) : Obj := ⟨(.type "type"), none, (.cls ⟨(S "Error"), [(.type "Exception")], [(.ref 24), (.type "Exception"), (.type "BaseException"), (.type "object")], 23, (S "Error"), true, [], [], false, none, false⟩), #[(some (.ref 15)), none, (some (.str (S "Error") 189)), (some (.str (S "Error") 197)), (some (.builtin "Exception.__new__")), (some (.bool true))]⟩
noncomputable def o25_0 (P : Params) : Obj := ⟨(.type "getset_descriptor"), none, (.fields #[(.str (S "__weakref__") 202), (.ref 24), (.builtin "ExceptionGroup.__weakref__"), .none]), #[]⟩
noncomputable def o26_0 (P : Params) : Obj := ⟨(.type "super"), none, (.fields #[(.ref 24), (.ref 24), (.ref 24)]), #[]⟩
noncomputable def o27_0 (P : Params) : Obj := ⟨(.type "builtin_function_or_method"), none, (.fields #[(.builtin "object.__init_subclass__"), (.ref 24)]), #[]⟩
noncomputable def tree_2 (P : Params) : BT := (.node (boot_o_0 P) (.node (boot_o_1 P) (.node (o3_2 P) (.node (boot_o_7 P) (.node (o15_0 P) .nil .nil) (.node (o23_0 P) .nil .nil)) (.node (o11_0 P) (.node (o19_0 P) .nil .nil) (.node (o27_0 P) .nil .nil))) (.node (boot_o_5 P) (.node (boot_o_9 P) (.node (o17_0 P) .nil .nil) (.node (o25_0 P) .nil .nil)) (.node (o13_0 P) (.node (o21_0 P) .nil .nil) .nil))) (.node (o2_1 P) (.node (boot_o_4 P) (.node (boot_o_8 P) (.node (o16_0 P) .nil .nil) (.node (o24_0 P) .nil .nil)) (.node (o12_1 P) (.node (o20_0 P) .nil .nil) .nil)) (.node (boot_o_6 P) (.node (boot_o_10 P) (.node (o18_0 P) .nil .nil) (.node (o26_0 P) .nil .nil)) (.node (o14_0 P) (.node (o22_0 P) .nil .nil) .nil))))
noncomputable def S_2 (P : Params) (os : OsState) : SharedT := ⟨tree_2 P, 28, {}, #[], boot_drawn, 209, os⟩
theorem pc_2 (w : World) (os : OsState) (q : Pos) : wrM pw w Γ₁ (execs ((bdy.drop 1).take 1) env) q (S_1 w.params os) = some (.ok .next, ⟨2, 0, 3, 8⟩, S_2 w.params os) := by kernel_rfl
noncomputable def e3_3 (P : Params) : List DictEntry := e3_2 P ++ [⟨PyData.keyHash P (S "error_reply"), (.str (S "error_reply") 224), (.ref 37)⟩]
noncomputable def o3_3 (P : Params) : Obj := ⟨(.type "dict"), none, (.dict (e3_3 P).toArray 11), #[]⟩
noncomputable def o12_2 (P : Params) : Obj := ⟨.none, none, (.fields #[(.int 2 0), (.int 0 0), (.ref 20), (.int 4 0), (.int 0 0), (.ref 33)]), #[]⟩
noncomputable def o24_1 (P : Params) : Obj := ⟨(.type "type"), none, (.cls ⟨(S "Error"), [(.type "Exception")], [(.ref 24), (.type "Exception"), (.type "BaseException"), (.type "object")], 23, (S "Error"), true, [], [(.ref 37)], false, none, false⟩), #[(some (.ref 15)), none, (some (.str (S "Error") 189)), (some (.str (S "Error") 197)), (some (.builtin "Exception.__new__")), (some (.bool true))]⟩
noncomputable def o28_0 (P : Params) : Obj := ⟨(.type "tuple"), none, (.seq #[(.ref 24)] 0), #[]⟩
noncomputable def o29_0 (P : Params) : Obj := ⟨(.type "builtin_function_or_method"), none, (.fields #[(.builtin "type.__prepare__"), (.type "type")]), #[]⟩
noncomputable def e30_0 (P : Params) : List DictEntry := [⟨PyData.keyHash P (S "__module__"), (.str (S "__module__") 216), (.str (S "cpy313.ftplib") 187)⟩, ⟨PyData.keyHash P (S "__qualname__"), (.str (S "__qualname__") 218), (.str (S "error_reply") 217)⟩, ⟨PyData.keyHash P (S "__firstlineno__"), (.str (S "__firstlineno__") 220), (.int 4 219)⟩, ⟨PyData.keyHash P (S "__static_attributes__"), (.str (S "__static_attributes__") 221), (.ref 35)⟩]
noncomputable def o30_0 (P : Params) : Obj := ⟨(.type "dict"), none, (.dict (e30_0 P).toArray 4), #[]⟩
noncomputable def o31_0 (P : Params) : Obj := ⟨(.type "tuple"), none, (.seq #[] 0), #[]⟩
noncomputable def o32_0 (P : Params) : Obj := ⟨.none, none, (.fields #[]), #[]⟩
noncomputable def o33_0 (P : Params) : Obj := ⟨(.type "code"), none, (.fields #[(.str (S "error_reply") 211), (.str (S "error_reply") 212), (.str (S "/claim/cut.py") 213), (.int 4 0), (.int 0 0), (.int 0 0), (.int 0 0), (.int 0 0), (.ref 31), (.bool false), (.int 181 0), (.ref 32), .none, .none, .none, .none, (.int 214 0), (.int 4 0), (.str (S "/claim/cut.py") 215)]), #[]⟩
noncomputable def o34_0 (P : Params) : Obj := ⟨(.type "frame"), none, .plain, #[(some (.ref 33)), (some (.ref 3)), (some (.ref 30)), none, (some (.str (S "cpy313.ftplib") 187)), none, (some (.ref 0))]⟩
noncomputable def o35_0 (P : Params) : Obj := ⟨(.type "tuple"), none, (.seq #[] 0), #[]⟩
noncomputable def e36_0 (P : Params) : List DictEntry := [⟨PyData.keyHash P (S "__module__"), (.str (S "__module__") 216), (.str (S "cpy313.ftplib") 187)⟩, ⟨PyData.keyHash P (S "__firstlineno__"), (.str (S "__firstlineno__") 220), (.int 4 219)⟩, ⟨PyData.keyHash P (S "__static_attributes__"), (.str (S "__static_attributes__") 221), (.ref 35)⟩, ⟨PyData.keyHash P (S "__doc__"), (.str (S "__doc__") 222), .none⟩]
noncomputable def o36_0 (P : Params) : Obj := ⟨(.type "dict"), none, (.dict (e36_0 P).toArray 2), #[]⟩
noncomputable def o37_0 (P : Params) : Obj := ⟨(.type "type"), none, (.cls ⟨(S "error_reply"), [(.ref 24)], [(.ref 37), (.ref 24), (.type "Exception"), (.type "BaseException"), (.type "object")], 36, (S "error_reply"), true, [], [], false, none, false⟩), #[(some (.ref 28)), none, (some (.str (S "error_reply") 209)), (some (.str (S "error_reply") 217)), (some (.builtin "Exception.__new__")), (some (.bool true))]⟩
noncomputable def o38_0 (P : Params) : Obj := ⟨(.type "super"), none, (.fields #[(.ref 37), (.ref 37), (.ref 37)]), #[]⟩
noncomputable def o39_0 (P : Params) : Obj := ⟨(.type "builtin_function_or_method"), none, (.fields #[(.builtin "object.__init_subclass__"), (.ref 37)]), #[]⟩
noncomputable def tree_3 (P : Params) : BT := (.node (boot_o_0 P) (.node (boot_o_1 P) (.node (o3_3 P) (.node (boot_o_7 P) (.node (o15_0 P) (.node (o31_0 P) .nil .nil) .nil) (.node (o23_0 P) (.node (o39_0 P) .nil .nil) .nil)) (.node (o11_0 P) (.node (o19_0 P) (.node (o35_0 P) .nil .nil) .nil) (.node (o27_0 P) .nil .nil))) (.node (boot_o_5 P) (.node (boot_o_9 P) (.node (o17_0 P) (.node (o33_0 P) .nil .nil) .nil) (.node (o25_0 P) .nil .nil)) (.node (o13_0 P) (.node (o21_0 P) (.node (o37_0 P) .nil .nil) .nil) (.node (o29_0 P) .nil .nil)))) (.node (o2_1 P) (.node (boot_o_4 P) (.node (boot_o_8 P) (.node (o16_0 P) (.node (o32_0 P) .nil .nil) .nil) (.node (o24_1 P) .nil .nil)) (.node (o12_2 P) (.node (o20_0 P) (.node (o36_0 P) .nil .nil) .nil) (.node (o28_0 P) .nil .nil))) (.node (boot_o_6 P) (.node (boot_o_10 P) (.node (o18_0 P) (.node (o34_0 P) .nil .nil) .nil) (.node (o26_0 P) .nil .nil)) (.node (o14_0 P) (.node (o22_0 P) (.node (o38_0 P) .nil .nil) .nil) (.node (o30_0 P) .nil .nil)))))
noncomputable def S_3 (P : Params) (os : OsState) : SharedT := ⟨tree_3 P, 40, {}, #[], boot_drawn, 225, os⟩
theorem pc_3 (w : World) (os : OsState) (q : Pos) : wrM pw w Γ₁ (execs ((bdy.drop 2).take 1) env) q (S_2 w.params os) = some (.ok .next, ⟨4, 0, 5, 8⟩, S_3 w.params os) := by kernel_rfl
noncomputable def e3_4 (P : Params) : List DictEntry := [⟨PyData.keyHash P (S "__name__"), (.str (S "__name__") 165), (.str (S "cpy313.stringprep") 236)⟩, ⟨PyData.keyHash P (S "__doc__"), (.str (S "__doc__") 166), .none⟩, ⟨PyData.keyHash P (S "__package__"), (.str (S "__package__") 167), .none⟩, ⟨PyData.keyHash P (S "__loader__"), (.str (S "__loader__") 168), (.builtin "__main__.__loader__#opaque")⟩, ⟨PyData.keyHash P (S "__spec__"), (.str (S "__spec__") 169), .none⟩, ⟨PyData.keyHash P (S "__annotations__"), (.str (S "__annotations__") 170), (.ref 6)⟩, ⟨PyData.keyHash P (S "__builtins__"), (.str (S "__builtins__") 171), (.ref 4)⟩, ⟨PyData.keyHash P (S "__file__"), (.str (S "__file__") 173), (.str (S "/claim/cut.py") 172)⟩, ⟨PyData.keyHash P (S "__cached__"), (.str (S "__cached__") 174), .none⟩, ⟨PyData.keyHash P (S "Error"), (.str (S "Error") 208), (.ref 24)⟩, ⟨PyData.keyHash P (S "error_reply"), (.str (S "error_reply") 224), (.ref 37)⟩, ⟨PyData.keyHash P (S "parse257"), (.str (S "parse257") 235), (.ref 46)⟩]
noncomputable def o3_4 (P : Params) : Obj := ⟨(.type "dict"), none, (.dict (e3_4 P).toArray 12), #[]⟩
noncomputable def o12_3 (P : Params) : Obj := ⟨.none, none, (.fields #[(.int 2 0), (.int 0 0), (.ref 20), (.int 4 0), (.int 0 0), (.ref 33), (.int 6 0), (.int 0 0), (.ref 45)]), #[]⟩
noncomputable def o40_0 (P : Params) : Obj := ⟨(.type "tuple"), none, (.seq #[] 0), #[]⟩
noncomputable def o41_0 (P : Params) : Obj := ⟨.none, none, (.fields #[]), #[]⟩
noncomputable def o42_0 (P : Params) : Obj := ⟨(.type "tuple"), none, (.seq #[(.str (S "resp") 228), (.str (S "dirname") 229), (.str (S "i") 230), (.str (S "n") 231), (.str (S "c") 232)] 0), #[]⟩
noncomputable def o43_0 (P : Params) : Obj := ⟨(.type "tuple"), none, (.seq #[] 0), #[]⟩
noncomputable def o44_0 (P : Params) : Obj := ⟨.none, none, (.func (fdOf 3 0 .none .none 0)), #[]⟩
noncomputable def o45_0 (P : Params) : Obj := ⟨(.type "code"), none, (.fields #[(.str (S "parse257") 225), (.str (S "parse257") 226), (.str (S "/claim/cut.py") 227), (.int 6 0), (.int 1 0), (.int 0 0), (.int 0 0), (.int 3 0), (.ref 40), (.bool true), (.int 181 0), (.ref 41), .none, (.ref 42), (.ref 43), (.ref 44), (.int 233 0), (.int 6 0), (.str (S "/claim/cut.py") 234)]), #[]⟩
noncomputable def o46_0 (P : Params) : Obj := ⟨(.type "function"), none, (.func (fdOf 3 3 (.str (S "cpy313.ftplib") 187) (.ref 45) 0)), #[]⟩
noncomputable def tree_4 (P : Params) : BT := (.node (boot_o_0 P) (.node (boot_o_1 P) (.node (o3_4 P) (.node (boot_o_7 P) (.node (o15_0 P) (.node (o31_0 P) .nil .nil) .nil) (.node (o23_0 P) (.node (o39_0 P) .nil .nil) .nil)) (.node (o11_0 P) (.node (o19_0 P) (.node (o35_0 P) .nil .nil) .nil) (.node (o27_0 P) (.node (o43_0 P) .nil .nil) .nil))) (.node (boot_o_5 P) (.node (boot_o_9 P) (.node (o17_0 P) (.node (o33_0 P) .nil .nil) .nil) (.node (o25_0 P) (.node (o41_0 P) .nil .nil) .nil)) (.node (o13_0 P) (.node (o21_0 P) (.node (o37_0 P) .nil .nil) .nil) (.node (o29_0 P) (.node (o45_0 P) .nil .nil) .nil)))) (.node (o2_1 P) (.node (boot_o_4 P) (.node (boot_o_8 P) (.node (o16_0 P) (.node (o32_0 P) .nil .nil) .nil) (.node (o24_1 P) (.node (o40_0 P) .nil .nil) .nil)) (.node (o12_3 P) (.node (o20_0 P) (.node (o36_0 P) .nil .nil) .nil) (.node (o28_0 P) (.node (o44_0 P) .nil .nil) .nil))) (.node (boot_o_6 P) (.node (boot_o_10 P) (.node (o18_0 P) (.node (o34_0 P) .nil .nil) .nil) (.node (o26_0 P) (.node (o42_0 P) .nil .nil) .nil)) (.node (o14_0 P) (.node (o22_0 P) (.node (o38_0 P) .nil .nil) .nil) (.node (o30_0 P) (.node (o46_0 P) .nil .nil) .nil)))))
noncomputable def S_4 (P : Params) (os : OsState) : SharedT := ⟨tree_4 P, 47, {}, #[], boot_drawn, 238, os⟩
theorem pc_4 (w : World) (os : OsState) (q : Pos) : wrM pw w Γ₁ (execs ((bdy.drop 3).take 2) env) q (S_3 w.params os) = some (.ok .next, ⟨23, 0, 23, 8⟩, S_4 w.params os) := by kernel_rfl
noncomputable def e3_5 (P : Params) : List DictEntry := e3_4 P ++ [⟨PyData.keyHash P (S "b1_set"), (.str (S "b1_set") 297), (.ref 54)⟩]
noncomputable def o3_5 (P : Params) : Obj := ⟨(.type "dict"), none, (.dict (e3_5 P).toArray 13), #[]⟩
noncomputable def o47_0 (P : Params) : Obj := ⟨(.type "list"), none, (.seq #[(.int 173 238), (.int 847 239), (.int 6150 240), (.int 6155 241), (.int 6156 242), (.int 6157 243), (.int 8203 244), (.int 8204 245), (.int 8205 246), (.int 8288 247), (.int 65279 248)] 0), #[]⟩
noncomputable def o48_0 (P : Params) : Obj := ⟨(.type "range"), none, (.fields #[(.int 65024 249), (.int 65040 250), (.int 1 251)]), #[]⟩
noncomputable def o49_0 (P : Params) : Obj := ⟨(.type "list"), none, (.seq #[(.int 65024 254), (.int 65025 255), (.int 65026 256), (.int 65027 257), (.int 65028 258), (.int 65029 259), (.int 65030 260), (.int 65031 261), (.int 65032 262), (.int 65033 263), (.int 65034 264), (.int 65035 265), (.int 65036 266), (.int 65037 267), (.int 65038 268), (.int 65039 269)] 18), #[]⟩
noncomputable def o50_0 (P : Params) : Obj := ⟨(.type "range_iterator"), none, (.fields #[(.int 65040 0), (.int 0 0), (.int 1 0)]), #[]⟩
noncomputable def o51_0 (P : Params) : Obj := ⟨(.type "tuple"), none, (.seq #[] 0), #[]⟩
noncomputable def o52_0 (P : Params) : Obj := ⟨(.type "StopIteration"), none, (.fields #[(.ref 51), .none, .none, .none, (.bool false), .none]), #[]⟩
noncomputable def o53_0 (P : Params) : Obj := ⟨(.type "list"), none, (.seq #[(.int 173 238), (.int 847 239), (.int 6150 240), (.int 6155 241), (.int 6156 242), (.int 6157 243), (.int 8203 244), (.int 8204 245), (.int 8205 246), (.int 8288 247), (.int 65279 248), (.int 65024 254), (.int 65025 255), (.int 65026 256), (.int 65027 257), (.int 65028 258), (.int 65029 259), (.int 65030 260), (.int 65031 261), (.int 65032 262), (.int 65033 263), (.int 65034 264), (.int 65035 265), (.int 65036 266), (.int 65037 267), (.int 65038 268), (.int 65039 269)] 0), #[]⟩
noncomputable def o54_0 (P : Params) : Obj := ⟨(.type "set"), none, (.set #[(65024, (.int 65024 254)), (65025, (.int 65025 255)), (65026, (.int 65026 256)), (65027, (.int 65027 257)), (65028, (.int 65028 258)), (65029, (.int 65029 259)), (6150, (.int 6150 240)), (65030, (.int 65030 260)), (65031, (.int 65031 261)), (65032, (.int 65032 262)), (65033, (.int 65033 263)), (6155, (.int 6155 241)), (6156, (.int 6156 242)), (6157, (.int 6157 243)), (8203, (.int 8203 244)), (8204, (.int 8204 245)), (8205, (.int 8205 246)), (65034, (.int 65034 264)), (65035, (.int 65035 265)), (65036, (.int 65036 266)), (65037, (.int 65037 267)), (65038, (.int 65038 268)), (65039, (.int 65039 269)), (173, (.int 173 238)), (847, (.int 847 239)), (8288, (.int 8288 247)), (65279, (.int 65279 248))] 29 ⟨127, #[0, 1, 2, 3, 4, 5, 6, 7, 8, 9, 10, 11, 12, 13, 14, 15, 16, 17, 18, 19, 20, 21, 22, 45, 79, 96, 127], #[], 0, !P.followText "set-order", 2, true⟩), #[]⟩
noncomputable def o55_0 (P : Params) : Obj := ⟨(.type "list_iterator"), none, (.fields #[.none, (.int 27 0)]), #[]⟩
noncomputable def o56_0 (P : Params) : Obj := ⟨(.type "tuple"), none, (.seq #[] 0), #[]⟩
noncomputable def o57_0 (P : Params) : Obj := ⟨(.type "StopIteration"), none, (.fields #[(.ref 56), .none, .none, .none, (.bool false), .none]), #[]⟩
noncomputable def tree_5 (P : Params) : BT := (.node (boot_o_0 P) (.node (boot_o_1 P) (.node (o3_5 P) (.node (boot_o_7 P) (.node (o15_0 P) (.node (o31_0 P) .nil .nil) (.node (o47_0 P) .nil .nil)) (.node (o23_0 P) (.node (o39_0 P) .nil .nil) (.node (o55_0 P) .nil .nil))) (.node (o11_0 P) (.node (o19_0 P) (.node (o35_0 P) .nil .nil) (.node (o51_0 P) .nil .nil)) (.node (o27_0 P) (.node (o43_0 P) .nil .nil) .nil))) (.node (boot_o_5 P) (.node (boot_o_9 P) (.node (o17_0 P) (.node (o33_0 P) .nil .nil) (.node (o49_0 P) .nil .nil)) (.node (o25_0 P) (.node (o41_0 P) .nil .nil) (.node (o57_0 P) .nil .nil))) (.node (o13_0 P) (.node (o21_0 P) (.node (o37_0 P) .nil .nil) (.node (o53_0 P) .nil .nil)) (.node (o29_0 P) (.node (o45_0 P) .nil .nil) .nil)))) (.node (o2_1 P) (.node (boot_o_4 P) (.node (boot_o_8 P) (.node (o16_0 P) (.node (o32_0 P) .nil .nil) (.node (o48_0 P) .nil .nil)) (.node (o24_1 P) (.node (o40_0 P) .nil .nil) (.node (o56_0 P) .nil .nil))) (.node (o12_3 P) (.node (o20_0 P) (.node (o36_0 P) .nil .nil) (.node (o52_0 P) .nil .nil)) (.node (o28_0 P) (.node (o44_0 P) .nil .nil) .nil))) (.node (boot_o_6 P) (.node (boot_o_10 P) (.node (o18_0 P) (.node (o34_0 P) .nil .nil) (.node (o50_0 P) .nil .nil)) (.node (o26_0 P) (.node (o42_0 P) .nil .nil) .nil)) (.node (o14_0 P) (.node (o22_0 P) (.node (o38_0 P) .nil .nil) (.node (o54_0 P) .nil .nil)) (.node (o30_0 P) (.node (o46_0 P) .nil .nil) .nil)))))
noncomputable def S_5 (P : Params) (os : OsState) : SharedT := ⟨tree_5 P, 58, {}, #[], boot_drawn, 298, os⟩
theorem pc_5false (w : World) (os : OsState) (q : Pos) : wrM pw (w.withFollow "special-get-raises" false) Γ₁ (execs ((bdy.drop 5).take 1) env) q (S_4 (w.withFollow "special-get-raises" false).params os) = some (.ok .next, ⟨24, 0, 24, 6⟩, S_5 (w.withFollow "special-get-raises" false).params os) := by kernel_rfl
theorem pc_5true (w : World) (os : OsState) (q : Pos) : wrM pw (w.withFollow "special-get-raises" true) Γ₁ (execs ((bdy.drop 5).take 1) env) q (S_4 (w.withFollow "special-get-raises" true).params os) = some (.ok .next, ⟨24, 0, 24, 6⟩, S_5 (w.withFollow "special-get-raises" true).params os) := by kernel_rfl
theorem pc_5 (w : World) (os : OsState) (q : Pos) : wrM pw w Γ₁ (execs ((bdy.drop 5).take 1) env) q (S_4 w.params os) = some (.ok .next, ⟨24, 0, 24, 6⟩, S_5 w.params os) :=
  byRow2 "special-get-raises" (P := fun w => wrM pw w Γ₁ (execs ((bdy.drop 5).take 1) env) q (S_4 w.params os) = some (.ok .next, ⟨24, 0, 24, 6⟩, S_5 w.params os)) (fun w => pc_5false w os q) (fun w => pc_5true w os q) w
noncomputable def e3_6 (P : Params) : List DictEntry := e3_5 P ++ [⟨PyData.keyHash P (S "in_table_b1"), (.str (S "in_table_b1") 304), (.ref 64)⟩]
noncomputable def o3_6 (P : Params) : Obj := ⟨(.type "dict"), none, (.dict (e3_6 P).toArray 14), #[]⟩
noncomputable def o12_4 (P : Params) : Obj := ⟨.none, none, (.fields #[(.int 2 0), (.int 0 0), (.ref 20), (.int 4 0), (.int 0 0), (.ref 33), (.int 6 0), (.int 0 0), (.ref 45), (.int 25 0), (.int 0 0), (.ref 63)]), #[]⟩
noncomputable def o58_0 (P : Params) : Obj := ⟨(.type "tuple"), none, (.seq #[] 0), #[]⟩
noncomputable def o59_0 (P : Params) : Obj := ⟨.none, none, (.fields #[]), #[]⟩
noncomputable def o60_0 (P : Params) : Obj := ⟨(.type "tuple"), none, (.seq #[(.str (S "code") 301)] 0), #[]⟩
noncomputable def o61_0 (P : Params) : Obj := ⟨(.type "tuple"), none, (.seq #[] 0), #[]⟩
noncomputable def o62_0 (P : Params) : Obj := ⟨.none, none, (.func (fdOf 6 0 .none .none 0)), #[]⟩
noncomputable def o63_0 (P : Params) : Obj := ⟨(.type "code"), none, (.fields #[(.str (S "in_table_b1") 298), (.str (S "in_table_b1") 299), (.str (S "/claim/cut.py") 300), (.int 25 0), (.int 1 0), (.int 0 0), (.int 0 0), (.int 3 0), (.ref 58), (.bool true), (.int 181 0), (.ref 59), .none, (.ref 60), (.ref 61), (.ref 62), (.int 302 0), (.int 25 0), (.str (S "/claim/cut.py") 303)]), #[]⟩
noncomputable def o64_0 (P : Params) : Obj := ⟨(.type "function"), none, (.func (fdOf 6 3 (.str (S "cpy313.stringprep") 236) (.ref 63) 0)), #[]⟩
noncomputable def tree_6 (P : Params) : BT := (.node (boot_o_0 P) (.node (boot_o_1 P) (.node (o3_6 P) (.node (boot_o_7 P) (.node (o15_0 P) (.node (o31_0 P) (.node (o63_0 P) .nil .nil) .nil) (.node (o47_0 P) .nil .nil)) (.node (o23_0 P) (.node (o39_0 P) .nil .nil) (.node (o55_0 P) .nil .nil))) (.node (o11_0 P) (.node (o19_0 P) (.node (o35_0 P) .nil .nil) (.node (o51_0 P) .nil .nil)) (.node (o27_0 P) (.node (o43_0 P) .nil .nil) (.node (o59_0 P) .nil .nil)))) (.node (boot_o_5 P) (.node (boot_o_9 P) (.node (o17_0 P) (.node (o33_0 P) .nil .nil) (.node (o49_0 P) .nil .nil)) (.node (o25_0 P) (.node (o41_0 P) .nil .nil) (.node (o57_0 P) .nil .nil))) (.node (o13_0 P) (.node (o21_0 P) (.node (o37_0 P) .nil .nil) (.node (o53_0 P) .nil .nil)) (.node (o29_0 P) (.node (o45_0 P) .nil .nil) (.node (o61_0 P) .nil .nil))))) (.node (o2_1 P) (.node (boot_o_4 P) (.node (boot_o_8 P) (.node (o16_0 P) (.node (o32_0 P) (.node (o64_0 P) .nil .nil) .nil) (.node (o48_0 P) .nil .nil)) (.node (o24_1 P) (.node (o40_0 P) .nil .nil) (.node (o56_0 P) .nil .nil))) (.node (o12_4 P) (.node (o20_0 P) (.node (o36_0 P) .nil .nil) (.node (o52_0 P) .nil .nil)) (.node (o28_0 P) (.node (o44_0 P) .nil .nil) (.node (o60_0 P) .nil .nil)))) (.node (boot_o_6 P) (.node (boot_o_10 P) (.node (o18_0 P) (.node (o34_0 P) .nil .nil) (.node (o50_0 P) .nil .nil)) (.node (o26_0 P) (.node (o42_0 P) .nil .nil) (.node (o58_0 P) .nil .nil))) (.node (o14_0 P) (.node (o22_0 P) (.node (o38_0 P) .nil .nil) (.node (o54_0 P) .nil .nil)) (.node (o30_0 P) (.node (o46_0 P) .nil .nil) (.node (o62_0 P) .nil .nil))))))
noncomputable def S_6 (P : Params) (os : OsState) : SharedT := ⟨tree_6 P, 65, {}, #[], boot_drawn, 305, os⟩
theorem pc_6 (w : World) (os : OsState) (q : Pos) : wrM pw w Γ₁ (execs ((bdy.drop 6).take 1) env) q (S_5 w.params os) = some (.ok .next, ⟨25, 0, 26, 30⟩, S_6 w.params os) := by kernel_rfl
noncomputable def tree_m (P : Params) (u : Nat → Obj) : BT := (.node (boot_o_0 P) (.node (boot_o_1 P) (.node (o3_6 P) (.node (boot_o_7 P) (.node (o15_0 P) (.node (o31_0 P) (.node (o63_0 P) .nil .nil) (.node (u 95) .nil .nil)) (.node (o47_0 P) (.node (u 79) .nil .nil) .nil)) (.node (o23_0 P) (.node (o39_0 P) (.node (u 71) .nil .nil) (.node (u 103) .nil .nil)) (.node (o55_0 P) (.node (u 87) .nil .nil) .nil))) (.node (o11_0 P) (.node (o19_0 P) (.node (o35_0 P) (.node (u 67) .nil .nil) (.node (u 99) .nil .nil)) (.node (o51_0 P) (.node (u 83) .nil .nil) .nil)) (.node (o27_0 P) (.node (o43_0 P) (.node (u 75) .nil .nil) .nil) (.node (o59_0 P) (.node (u 91) .nil .nil) .nil)))) (.node (boot_o_5 P) (.node (boot_o_9 P) (.node (o17_0 P) (.node (o33_0 P) (.node (u 65) .nil .nil) (.node (u 97) .nil .nil)) (.node (o49_0 P) (.node (u 81) .nil .nil) .nil)) (.node (o25_0 P) (.node (o41_0 P) (.node (u 73) .nil .nil) .nil) (.node (o57_0 P) (.node (u 89) .nil .nil) .nil))) (.node (o13_0 P) (.node (o21_0 P) (.node (o37_0 P) (.node (u 69) .nil .nil) (.node (u 101) .nil .nil)) (.node (o53_0 P) (.node (u 85) .nil .nil) .nil)) (.node (o29_0 P) (.node (o45_0 P) (.node (u 77) .nil .nil) .nil) (.node (o61_0 P) (.node (u 93) .nil .nil) .nil))))) (.node (o2_1 P) (.node (boot_o_4 P) (.node (boot_o_8 P) (.node (o16_0 P) (.node (o32_0 P) (.node (o64_0 P) .nil .nil) (.node (u 96) .nil .nil)) (.node (o48_0 P) (.node (u 80) .nil .nil) .nil)) (.node (o24_1 P) (.node (o40_0 P) (.node (u 72) .nil .nil) .nil) (.node (o56_0 P) (.node (u 88) .nil .nil) .nil))) (.node (o12_4 P) (.node (o20_0 P) (.node (o36_0 P) (.node (u 68) .nil .nil) (.node (u 100) .nil .nil)) (.node (o52_0 P) (.node (u 84) .nil .nil) .nil)) (.node (o28_0 P) (.node (o44_0 P) (.node (u 76) .nil .nil) .nil) (.node (o60_0 P) (.node (u 92) .nil .nil) .nil)))) (.node (boot_o_6 P) (.node (boot_o_10 P) (.node (o18_0 P) (.node (o34_0 P) (.node (u 66) .nil .nil) (.node (u 98) .nil .nil)) (.node (o50_0 P) (.node (u 82) .nil .nil) .nil)) (.node (o26_0 P) (.node (o42_0 P) (.node (u 74) .nil .nil) .nil) (.node (o58_0 P) (.node (u 90) .nil .nil) .nil))) (.node (o14_0 P) (.node (o22_0 P) (.node (o38_0 P) (.node (u 70) .nil .nil) (.node (u 102) .nil .nil)) (.node (o54_0 P) (.node (u 86) .nil .nil) .nil)) (.node (o30_0 P) (.node (o46_0 P) (.node (u 78) .nil .nil) .nil) (.node (o62_0 P) (.node (u 94) .nil .nil) .nil))))))
noncomputable def S_m (P : Params) (u : Nat → Obj) (os : OsState) : SharedT := ⟨tree_m P u, 104, {}, #[], boot_drawn, 2255, os⟩
noncomputable def b3at : Nat := 7
noncomputable def b3lo : Nat := 65
noncomputable def b3n : Nat := 39
noncomputable def b3tok : Nat := 305
noncomputable def e3_7 (P : Params) : List DictEntry := e3_6 P ++ [⟨PyData.keyHash P (S "b3_exceptions"), (.str (S "b3_exceptions") 2255), (.ref 65)⟩]
noncomputable def o3_7 (P : Params) : Obj := ⟨(.type "dict"), none, (.dict (e3_7 P).toArray 15), #[]⟩
noncomputable def tree_7 (P : Params) (u : Nat → Obj) : BT := (.node (boot_o_0 P) (.node (boot_o_1 P) (.node (o3_7 P) (.node (boot_o_7 P) (.node (o15_0 P) (.node (o31_0 P) (.node (o63_0 P) .nil .nil) (.node (u 95) .nil .nil)) (.node (o47_0 P) (.node (u 79) .nil .nil) .nil)) (.node (o23_0 P) (.node (o39_0 P) (.node (u 71) .nil .nil) (.node (u 103) .nil .nil)) (.node (o55_0 P) (.node (u 87) .nil .nil) .nil))) (.node (o11_0 P) (.node (o19_0 P) (.node (o35_0 P) (.node (u 67) .nil .nil) (.node (u 99) .nil .nil)) (.node (o51_0 P) (.node (u 83) .nil .nil) .nil)) (.node (o27_0 P) (.node (o43_0 P) (.node (u 75) .nil .nil) .nil) (.node (o59_0 P) (.node (u 91) .nil .nil) .nil)))) (.node (boot_o_5 P) (.node (boot_o_9 P) (.node (o17_0 P) (.node (o33_0 P) (.node (u 65) .nil .nil) (.node (u 97) .nil .nil)) (.node (o49_0 P) (.node (u 81) .nil .nil) .nil)) (.node (o25_0 P) (.node (o41_0 P) (.node (u 73) .nil .nil) .nil) (.node (o57_0 P) (.node (u 89) .nil .nil) .nil))) (.node (o13_0 P) (.node (o21_0 P) (.node (o37_0 P) (.node (u 69) .nil .nil) (.node (u 101) .nil .nil)) (.node (o53_0 P) (.node (u 85) .nil .nil) .nil)) (.node (o29_0 P) (.node (o45_0 P) (.node (u 77) .nil .nil) .nil) (.node (o61_0 P) (.node (u 93) .nil .nil) .nil))))) (.node (o2_1 P) (.node (boot_o_4 P) (.node (boot_o_8 P) (.node (o16_0 P) (.node (o32_0 P) (.node (o64_0 P) .nil .nil) (.node (u 96) .nil .nil)) (.node (o48_0 P) (.node (u 80) .nil .nil) .nil)) (.node (o24_1 P) (.node (o40_0 P) (.node (u 72) .nil .nil) .nil) (.node (o56_0 P) (.node (u 88) .nil .nil) .nil))) (.node (o12_4 P) (.node (o20_0 P) (.node (o36_0 P) (.node (u 68) .nil .nil) (.node (u 100) .nil .nil)) (.node (o52_0 P) (.node (u 84) .nil .nil) .nil)) (.node (o28_0 P) (.node (o44_0 P) (.node (u 76) .nil .nil) .nil) (.node (o60_0 P) (.node (u 92) .nil .nil) .nil)))) (.node (boot_o_6 P) (.node (boot_o_10 P) (.node (o18_0 P) (.node (o34_0 P) (.node (u 66) .nil .nil) (.node (u 98) .nil .nil)) (.node (o50_0 P) (.node (u 82) .nil .nil) .nil)) (.node (o26_0 P) (.node (o42_0 P) (.node (u 74) .nil .nil) .nil) (.node (o58_0 P) (.node (u 90) .nil .nil) .nil))) (.node (o14_0 P) (.node (o22_0 P) (.node (o38_0 P) (.node (u 70) .nil .nil) (.node (u 102) .nil .nil)) (.node (o54_0 P) (.node (u 86) .nil .nil) .nil)) (.node (o30_0 P) (.node (o46_0 P) (.node (u 78) .nil .nil) .nil) (.node (o62_0 P) (.node (u 94) .nil .nil) .nil))))))
noncomputable def S_7 (P : Params) (u : Nat → Obj) (os : OsState) : SharedT := ⟨tree_7 P u, 104, {}, #[], boot_drawn, 2256, os⟩
theorem pc_7b (w : World) (u : Nat → Obj) (os : OsState) (q : Pos) : wrM pw w Γ₁ (do standAt ⟨27, 0, 27, 13⟩; bindName env (Str.ofString "b3_exceptions") (.ref 65)) q (S_m w.params u os) = some (.ok (), ⟨27, 0, 27, 13⟩, S_7 w.params u os) := by kernel_rfl
noncomputable def b3S := S_7
-- pos of the name: ⟨27, 0, 27, 13⟩
noncomputable def e3_8 (P : Params) : List DictEntry := [⟨PyData.keyHash P (S "__name__"), (.str (S "__name__") 165), (.str (S "cpy313.token") 2264)⟩, ⟨PyData.keyHash P (S "__doc__"), (.str (S "__doc__") 166), .none⟩, ⟨PyData.keyHash P (S "__package__"), (.str (S "__package__") 167), .none⟩, ⟨PyData.keyHash P (S "__loader__"), (.str (S "__loader__") 168), (.builtin "__main__.__loader__#opaque")⟩, ⟨PyData.keyHash P (S "__spec__"), (.str (S "__spec__") 169), .none⟩, ⟨PyData.keyHash P (S "__annotations__"), (.str (S "__annotations__") 170), (.ref 6)⟩, ⟨PyData.keyHash P (S "__builtins__"), (.str (S "__builtins__") 171), (.ref 4)⟩, ⟨PyData.keyHash P (S "__file__"), (.str (S "__file__") 173), (.str (S "/claim/cut.py") 172)⟩, ⟨PyData.keyHash P (S "__cached__"), (.str (S "__cached__") 174), .none⟩, ⟨PyData.keyHash P (S "Error"), (.str (S "Error") 208), (.ref 24)⟩, ⟨PyData.keyHash P (S "error_reply"), (.str (S "error_reply") 224), (.ref 37)⟩, ⟨PyData.keyHash P (S "parse257"), (.str (S "parse257") 235), (.ref 46)⟩, ⟨PyData.keyHash P (S "b1_set"), (.str (S "b1_set") 297), (.ref 54)⟩, ⟨PyData.keyHash P (S "in_table_b1"), (.str (S "in_table_b1") 304), (.ref 64)⟩, ⟨PyData.keyHash P (S "b3_exceptions"), (.str (S "b3_exceptions") 2255), (.ref 65)⟩, ⟨PyData.keyHash P (S "map_table_b3"), (.str (S "map_table_b3") 2263), (.ref 110)⟩, ⟨PyData.keyHash P (S "ENDMARKER"), (.str (S "ENDMARKER") 2267), (.int 0 2266)⟩, ⟨PyData.keyHash P (S "LPAR"), (.str (S "LPAR") 2269), (.int 7 2268)⟩, ⟨PyData.keyHash P (S "RPAR"), (.str (S "RPAR") 2271), (.int 8 2270)⟩, ⟨PyData.keyHash P (S "LSQB"), (.str (S "LSQB") 2273), (.int 9 2272)⟩, ⟨PyData.keyHash P (S "RSQB"), (.str (S "RSQB") 2275), (.int 10 2274)⟩, ⟨PyData.keyHash P (S "COLON"), (.str (S "COLON") 2277), (.int 11 2276)⟩, ⟨PyData.keyHash P (S "COMMA"), (.str (S "COMMA") 2279), (.int 12 2278)⟩, ⟨PyData.keyHash P (S "SEMI"), (.str (S "SEMI") 2281), (.int 13 2280)⟩, ⟨PyData.keyHash P (S "PLUS"), (.str (S "PLUS") 2283), (.int 14 2282)⟩, ⟨PyData.keyHash P (S "MINUS"), (.str (S "MINUS") 2285), (.int 15 2284)⟩, ⟨PyData.keyHash P (S "STAR"), (.str (S "STAR") 2287), (.int 16 2286)⟩, ⟨PyData.keyHash P (S "SLASH"), (.str (S "SLASH") 2289), (.int 17 2288)⟩, ⟨PyData.keyHash P (S "VBAR"), (.str (S "VBAR") 2291), (.int 18 2290)⟩, ⟨PyData.keyHash P (S "AMPER"), (.str (S "AMPER") 2293), (.int 19 2292)⟩, ⟨PyData.keyHash P (S "LESS"), (.str (S "LESS") 2295), (.int 20 2294)⟩, ⟨PyData.keyHash P (S "GREATER"), (.str (S "GREATER") 2297), (.int 21 2296)⟩, ⟨PyData.keyHash P (S "EQUAL"), (.str (S "EQUAL") 2299), (.int 22 2298)⟩, ⟨PyData.keyHash P (S "DOT"), (.str (S "DOT") 2301), (.int 23 2300)⟩, ⟨PyData.keyHash P (S "PERCENT"), (.str (S "PERCENT") 2303), (.int 24 2302)⟩, ⟨PyData.keyHash P (S "LBRACE"), (.str (S "LBRACE") 2305), (.int 25 2304)⟩, ⟨PyData.keyHash P (S "RBRACE"), (.str (S "RBRACE") 2307), (.int 26 2306)⟩, ⟨PyData.keyHash P (S "EQEQUAL"), (.str (S "EQEQUAL") 2309), (.int 27 2308)⟩, ⟨PyData.keyHash P (S "NOTEQUAL"), (.str (S "NOTEQUAL") 2311), (.int 28 2310)⟩, ⟨PyData.keyHash P (S "LESSEQUAL"), (.str (S "LESSEQUAL") 2313), (.int 29 2312)⟩, ⟨PyData.keyHash P (S "GREATEREQUAL"), (.str (S "GREATEREQUAL") 2315), (.int 30 2314)⟩, ⟨PyData.keyHash P (S "TILDE"), (.str (S "TILDE") 2317), (.int 31 2316)⟩, ⟨PyData.keyHash P (S "CIRCUMFLEX"), (.str (S "CIRCUMFLEX") 2319), (.int 32 2318)⟩, ⟨PyData.keyHash P (S "LEFTSHIFT"), (.str (S "LEFTSHIFT") 2321), (.int 33 2320)⟩, ⟨PyData.keyHash P (S "RIGHTSHIFT"), (.str (S "RIGHTSHIFT") 2323), (.int 34 2322)⟩, ⟨PyData.keyHash P (S "DOUBLESTAR"), (.str (S "DOUBLESTAR") 2325), (.int 35 2324)⟩, ⟨PyData.keyHash P (S "PLUSEQUAL"), (.str (S "PLUSEQUAL") 2327), (.int 36 2326)⟩, ⟨PyData.keyHash P (S "MINEQUAL"), (.str (S "MINEQUAL") 2329), (.int 37 2328)⟩, ⟨PyData.keyHash P (S "STAREQUAL"), (.str (S "STAREQUAL") 2331), (.int 38 2330)⟩, ⟨PyData.keyHash P (S "SLASHEQUAL"), (.str (S "SLASHEQUAL") 2333), (.int 39 2332)⟩, ⟨PyData.keyHash P (S "PERCENTEQUAL"), (.str (S "PERCENTEQUAL") 2335), (.int 40 2334)⟩, ⟨PyData.keyHash P (S "AMPEREQUAL"), (.str (S "AMPEREQUAL") 2337), (.int 41 2336)⟩, ⟨PyData.keyHash P (S "VBAREQUAL"), (.str (S "VBAREQUAL") 2339), (.int 42 2338)⟩, ⟨PyData.keyHash P (S "CIRCUMFLEXEQUAL"), (.str (S "CIRCUMFLEXEQUAL") 2341), (.int 43 2340)⟩, ⟨PyData.keyHash P (S "LEFTSHIFTEQUAL"), (.str (S "LEFTSHIFTEQUAL") 2343), (.int 44 2342)⟩, ⟨PyData.keyHash P (S "RIGHTSHIFTEQUAL"), (.str (S "RIGHTSHIFTEQUAL") 2345), (.int 45 2344)⟩, ⟨PyData.keyHash P (S "DOUBLESTAREQUAL"), (.str (S "DOUBLESTAREQUAL") 2347), (.int 46 2346)⟩, ⟨PyData.keyHash P (S "DOUBLESLASH"), (.str (S "DOUBLESLASH") 2349), (.int 47 2348)⟩, ⟨PyData.keyHash P (S "DOUBLESLASHEQUAL"), (.str (S "DOUBLESLASHEQUAL") 2351), (.int 48 2350)⟩, ⟨PyData.keyHash P (S "AT"), (.str (S "AT") 2353), (.int 49 2352)⟩, ⟨PyData.keyHash P (S "ATEQUAL"), (.str (S "ATEQUAL") 2355), (.int 50 2354)⟩]
noncomputable def o3_8 (P : Params) : Obj := ⟨(.type "dict"), none, (.dict (e3_8 P).toArray 61), #[]⟩
noncomputable def o12_5 (P : Params) : Obj := ⟨.none, none, (.fields #[(.int 2 0), (.int 0 0), (.ref 20), (.int 4 0), (.int 0 0), (.ref 33), (.int 6 0), (.int 0 0), (.ref 45), (.int 25 0), (.int 0 0), (.ref 63), (.int 28 0), (.int 0 0), (.ref 109)]), #[]⟩
noncomputable def o104_0 (P : Params) : Obj := ⟨(.type "tuple"), none, (.seq #[] 0), #[]⟩
noncomputable def o105_0 (P : Params) : Obj := ⟨.none, none, (.fields #[]), #[]⟩
noncomputable def o106_0 (P : Params) : Obj := ⟨(.type "tuple"), none, (.seq #[(.str (S "code") 2259), (.str (S "r") 2260)] 0), #[]⟩
noncomputable def o107_0 (P : Params) : Obj := ⟨(.type "tuple"), none, (.seq #[] 0), #[]⟩
noncomputable def o108_0 (P : Params) : Obj := ⟨.none, none, (.func (fdOf 8 0 .none .none 0)), #[]⟩
noncomputable def o109_0 (P : Params) : Obj := ⟨(.type "code"), none, (.fields #[(.str (S "map_table_b3") 2256), (.str (S "map_table_b3") 2257), (.str (S "/claim/cut.py") 2258), (.int 28 0), (.int 1 0), (.int 0 0), (.int 0 0), (.int 3 0), (.ref 104), (.bool true), (.int 181 0), (.ref 105), .none, (.ref 106), (.ref 107), (.ref 108), (.int 2261 0), (.int 28 0), (.str (S "/claim/cut.py") 2262)]), #[]⟩
noncomputable def o110_0 (P : Params) : Obj := ⟨(.type "function"), none, (.func (fdOf 8 3 (.str (S "cpy313.stringprep") 236) (.ref 109) 0)), #[]⟩
noncomputable def tree_8 (P : Params) (u : Nat → Obj) : BT := (.node (boot_o_0 P) (.node (boot_o_1 P) (.node (o3_8 P) (.node (boot_o_7 P) (.node (o15_0 P) (.node (o31_0 P) (.node (o63_0 P) .nil .nil) (.node (u 95) .nil .nil)) (.node (o47_0 P) (.node (u 79) .nil .nil) .nil)) (.node (o23_0 P) (.node (o39_0 P) (.node (u 71) .nil .nil) (.node (u 103) .nil .nil)) (.node (o55_0 P) (.node (u 87) .nil .nil) .nil))) (.node (o11_0 P) (.node (o19_0 P) (.node (o35_0 P) (.node (u 67) .nil .nil) (.node (u 99) .nil .nil)) (.node (o51_0 P) (.node (u 83) .nil .nil) .nil)) (.node (o27_0 P) (.node (o43_0 P) (.node (u 75) .nil .nil) (.node (o107_0 P) .nil .nil)) (.node (o59_0 P) (.node (u 91) .nil .nil) .nil)))) (.node (boot_o_5 P) (.node (boot_o_9 P) (.node (o17_0 P) (.node (o33_0 P) (.node (u 65) .nil .nil) (.node (u 97) .nil .nil)) (.node (o49_0 P) (.node (u 81) .nil .nil) .nil)) (.node (o25_0 P) (.node (o41_0 P) (.node (u 73) .nil .nil) (.node (o105_0 P) .nil .nil)) (.node (o57_0 P) (.node (u 89) .nil .nil) .nil))) (.node (o13_0 P) (.node (o21_0 P) (.node (o37_0 P) (.node (u 69) .nil .nil) (.node (u 101) .nil .nil)) (.node (o53_0 P) (.node (u 85) .nil .nil) .nil)) (.node (o29_0 P) (.node (o45_0 P) (.node (u 77) .nil .nil) (.node (o109_0 P) .nil .nil)) (.node (o61_0 P) (.node (u 93) .nil .nil) .nil))))) (.node (o2_1 P) (.node (boot_o_4 P) (.node (boot_o_8 P) (.node (o16_0 P) (.node (o32_0 P) (.node (o64_0 P) .nil .nil) (.node (u 96) .nil .nil)) (.node (o48_0 P) (.node (u 80) .nil .nil) .nil)) (.node (o24_1 P) (.node (o40_0 P) (.node (u 72) .nil .nil) (.node (o104_0 P) .nil .nil)) (.node (o56_0 P) (.node (u 88) .nil .nil) .nil))) (.node (o12_5 P) (.node (o20_0 P) (.node (o36_0 P) (.node (u 68) .nil .nil) (.node (u 100) .nil .nil)) (.node (o52_0 P) (.node (u 84) .nil .nil) .nil)) (.node (o28_0 P) (.node (o44_0 P) (.node (u 76) .nil .nil) (.node (o108_0 P) .nil .nil)) (.node (o60_0 P) (.node (u 92) .nil .nil) .nil)))) (.node (boot_o_6 P) (.node (boot_o_10 P) (.node (o18_0 P) (.node (o34_0 P) (.node (u 66) .nil .nil) (.node (u 98) .nil .nil)) (.node (o50_0 P) (.node (u 82) .nil .nil) .nil)) (.node (o26_0 P) (.node (o42_0 P) (.node (u 74) .nil .nil) (.node (o106_0 P) .nil .nil)) (.node (o58_0 P) (.node (u 90) .nil .nil) .nil))) (.node (o14_0 P) (.node (o22_0 P) (.node (o38_0 P) (.node (u 70) .nil .nil) (.node (u 102) .nil .nil)) (.node (o54_0 P) (.node (u 86) .nil .nil) .nil)) (.node (o30_0 P) (.node (o46_0 P) (.node (u 78) .nil .nil) (.node (o110_0 P) .nil .nil)) (.node (o62_0 P) (.node (u 94) .nil .nil) .nil))))))
noncomputable def S_8 (P : Params) (u : Nat → Obj) (os : OsState) : SharedT := ⟨tree_8 P u, 111, {}, #[], boot_drawn, 2356, os⟩
theorem pc_8 (w : World) (u : Nat → Obj) (os : OsState) (q : Pos) : wrM pw w Γ₁ (execs ((bdy.drop 8).take 47) env) q (S_7 w.params u os) = some (.ok .next, ⟨78, 0, 78, 7⟩, S_8 w.params u os) := by kernel_rfl
noncomputable def e3_9 (P : Params) : List DictEntry := e3_8 P ++ [⟨PyData.keyHash P (S "RARROW"), (.str (S "RARROW") 2357), (.int 51 2356)⟩, ⟨PyData.keyHash P (S "ELLIPSIS"), (.str (S "ELLIPSIS") 2359), (.int 52 2358)⟩, ⟨PyData.keyHash P (S "COLONEQUAL"), (.str (S "COLONEQUAL") 2361), (.int 53 2360)⟩, ⟨PyData.keyHash P (S "EXCLAMATION"), (.str (S "EXCLAMATION") 2363), (.int 54 2362)⟩, ⟨PyData.keyHash P (S "NT_OFFSET"), (.str (S "NT_OFFSET") 2365), (.int 256 2364)⟩]
noncomputable def o3_9 (P : Params) : Obj := ⟨(.type "dict"), none, (.dict (e3_9 P).toArray 66), #[]⟩
noncomputable def tree_9 (P : Params) (u : Nat → Obj) : BT := (.node (boot_o_0 P) (.node (boot_o_1 P) (.node (o3_9 P) (.node (boot_o_7 P) (.node (o15_0 P) (.node (o31_0 P) (.node (o63_0 P) .nil .nil) (.node (u 95) .nil .nil)) (.node (o47_0 P) (.node (u 79) .nil .nil) .nil)) (.node (o23_0 P) (.node (o39_0 P) (.node (u 71) .nil .nil) (.node (u 103) .nil .nil)) (.node (o55_0 P) (.node (u 87) .nil .nil) .nil))) (.node (o11_0 P) (.node (o19_0 P) (.node (o35_0 P) (.node (u 67) .nil .nil) (.node (u 99) .nil .nil)) (.node (o51_0 P) (.node (u 83) .nil .nil) .nil)) (.node (o27_0 P) (.node (o43_0 P) (.node (u 75) .nil .nil) (.node (o107_0 P) .nil .nil)) (.node (o59_0 P) (.node (u 91) .nil .nil) .nil)))) (.node (boot_o_5 P) (.node (boot_o_9 P) (.node (o17_0 P) (.node (o33_0 P) (.node (u 65) .nil .nil) (.node (u 97) .nil .nil)) (.node (o49_0 P) (.node (u 81) .nil .nil) .nil)) (.node (o25_0 P) (.node (o41_0 P) (.node (u 73) .nil .nil) (.node (o105_0 P) .nil .nil)) (.node (o57_0 P) (.node (u 89) .nil .nil) .nil))) (.node (o13_0 P) (.node (o21_0 P) (.node (o37_0 P) (.node (u 69) .nil .nil) (.node (u 101) .nil .nil)) (.node (o53_0 P) (.node (u 85) .nil .nil) .nil)) (.node (o29_0 P) (.node (o45_0 P) (.node (u 77) .nil .nil) (.node (o109_0 P) .nil .nil)) (.node (o61_0 P) (.node (u 93) .nil .nil) .nil))))) (.node (o2_1 P) (.node (boot_o_4 P) (.node (boot_o_8 P) (.node (o16_0 P) (.node (o32_0 P) (.node (o64_0 P) .nil .nil) (.node (u 96) .nil .nil)) (.node (o48_0 P) (.node (u 80) .nil .nil) .nil)) (.node (o24_1 P) (.node (o40_0 P) (.node (u 72) .nil .nil) (.node (o104_0 P) .nil .nil)) (.node (o56_0 P) (.node (u 88) .nil .nil) .nil))) (.node (o12_5 P) (.node (o20_0 P) (.node (o36_0 P) (.node (u 68) .nil .nil) (.node (u 100) .nil .nil)) (.node (o52_0 P) (.node (u 84) .nil .nil) .nil)) (.node (o28_0 P) (.node (o44_0 P) (.node (u 76) .nil .nil) (.node (o108_0 P) .nil .nil)) (.node (o60_0 P) (.node (u 92) .nil .nil) .nil)))) (.node (boot_o_6 P) (.node (boot_o_10 P) (.node (o18_0 P) (.node (o34_0 P) (.node (u 66) .nil .nil) (.node (u 98) .nil .nil)) (.node (o50_0 P) (.node (u 82) .nil .nil) .nil)) (.node (o26_0 P) (.node (o42_0 P) (.node (u 74) .nil .nil) (.node (o106_0 P) .nil .nil)) (.node (o58_0 P) (.node (u 90) .nil .nil) .nil))) (.node (o14_0 P) (.node (o22_0 P) (.node (o38_0 P) (.node (u 70) .nil .nil) (.node (u 102) .nil .nil)) (.node (o54_0 P) (.node (u 86) .nil .nil) .nil)) (.node (o30_0 P) (.node (o46_0 P) (.node (u 78) .nil .nil) (.node (o110_0 P) .nil .nil)) (.node (o62_0 P) (.node (u 94) .nil .nil) .nil))))))
noncomputable def S_9 (P : Params) (u : Nat → Obj) (os : OsState) : SharedT := ⟨tree_9 P u, 111, {}, #[], boot_drawn, 2366, os⟩
theorem pc_9 (w : World) (u : Nat → Obj) (os : OsState) (q : Pos) : wrM pw w Γ₁ (execs ((bdy.drop 55).take 5) env) q (S_8 w.params u os) = some (.ok .next, ⟨83, 0, 83, 9⟩, S_9 w.params u os) := by kernel_rfl
noncomputable def e3_10 (P : Params) : List DictEntry := e3_9 P ++ [⟨PyData.keyHash P (S "EXACT_TOKEN_TYPES"), (.str (S "EXACT_TOKEN_TYPES") 2462), (.ref 111)⟩]
noncomputable def o3_10 (P : Params) : Obj := ⟨(.type "dict"), none, (.dict (e3_10 P).toArray 67), #[]⟩
noncomputable def e111_0 (P : Params) : List DictEntry := [⟨PyData.keyHash P (S "!"), (.str (S "!") 2366), (.int 54 2362)⟩, ⟨PyData.keyHash P (S "!="), (.str (S "!=") 2368), (.int 28 2310)⟩, ⟨PyData.keyHash P (S "%"), (.str (S "%") 2370), (.int 24 2302)⟩, ⟨PyData.keyHash P (S "%="), (.str (S "%=") 2372), (.int 40 2334)⟩, ⟨PyData.keyHash P (S "&"), (.str (S "&") 2374), (.int 19 2292)⟩, ⟨PyData.keyHash P (S "&="), (.str (S "&=") 2376), (.int 41 2336)⟩, ⟨PyData.keyHash P (S "("), (.str (S "(") 2378), (.int 7 2268)⟩, ⟨PyData.keyHash P (S ")"), (.str (S ")") 2380), (.int 8 2270)⟩, ⟨PyData.keyHash P (S "*"), (.str (S "*") 2382), (.int 16 2286)⟩, ⟨PyData.keyHash P (S "**"), (.str (S "**") 2384), (.int 35 2324)⟩, ⟨PyData.keyHash P (S "**="), (.str (S "**=") 2386), (.int 46 2346)⟩, ⟨PyData.keyHash P (S "*="), (.str (S "*=") 2388), (.int 38 2330)⟩, ⟨PyData.keyHash P (S "+"), (.str (S "+") 2390), (.int 14 2282)⟩, ⟨PyData.keyHash P (S "+="), (.str (S "+=") 2392), (.int 36 2326)⟩, ⟨PyData.keyHash P (S ","), (.str (S ",") 2394), (.int 12 2278)⟩, ⟨PyData.keyHash P (S "-"), (.str (S "-") 2396), (.int 15 2284)⟩, ⟨PyData.keyHash P (S "-="), (.str (S "-=") 2398), (.int 37 2328)⟩, ⟨PyData.keyHash P (S "->"), (.str (S "->") 2400), (.int 51 2356)⟩, ⟨PyData.keyHash P (S "."), (.str (S ".") 2402), (.int 23 2300)⟩, ⟨PyData.keyHash P (S "..."), (.str (S "...") 2404), (.int 52 2358)⟩, ⟨PyData.keyHash P (S "/"), (.str (S "/") 2406), (.int 17 2288)⟩, ⟨PyData.keyHash P (S "//"), (.str (S "//") 2408), (.int 47 2348)⟩, ⟨PyData.keyHash P (S "//="), (.str (S "//=") 2410), (.int 48 2350)⟩, ⟨PyData.keyHash P (S "/="), (.str (S "/=") 2412), (.int 39 2332)⟩, ⟨PyData.keyHash P (S ":"), (.str (S ":") 2414), (.int 11 2276)⟩, ⟨PyData.keyHash P (S ":="), (.str (S ":=") 2416), (.int 53 2360)⟩, ⟨PyData.keyHash P (S ";"), (.str (S ";") 2418), (.int 13 2280)⟩, ⟨PyData.keyHash P (S "<"), (.str (S "<") 2420), (.int 20 2294)⟩, ⟨PyData.keyHash P (S "<<"), (.str (S "<<") 2422), (.int 33 2320)⟩, ⟨PyData.keyHash P (S "<<="), (.str (S "<<=") 2424), (.int 44 2342)⟩, ⟨PyData.keyHash P (S "<="), (.str (S "<=") 2426), (.int 29 2312)⟩, ⟨PyData.keyHash P (S "="), (.str (S "=") 2428), (.int 22 2298)⟩, ⟨PyData.keyHash P (S "=="), (.str (S "==") 2430), (.int 27 2308)⟩, ⟨PyData.keyHash P (S ">"), (.str (S ">") 2432), (.int 21 2296)⟩, ⟨PyData.keyHash P (S ">="), (.str (S ">=") 2434), (.int 30 2314)⟩, ⟨PyData.keyHash P (S ">>"), (.str (S ">>") 2435), (.int 34 2322)⟩, ⟨PyData.keyHash P (S ">>="), (.str (S ">>=") 2436), (.int 45 2344)⟩, ⟨PyData.keyHash P (S "@"), (.str (S "@") 2437), (.int 49 2352)⟩, ⟨PyData.keyHash P (S "@="), (.str (S "@=") 2438), (.int 50 2354)⟩, ⟨PyData.keyHash P (S "["), (.str (S "[") 2439), (.int 9 2272)⟩, ⟨PyData.keyHash P (S "]"), (.str (S "]") 2440), (.int 10 2274)⟩, ⟨PyData.keyHash P (S "^"), (.str (S "^") 2441), (.int 32 2318)⟩, ⟨PyData.keyHash P (S "^="), (.str (S "^=") 2442), (.int 43 2340)⟩, ⟨PyData.keyHash P (S "{"), (.str (S "{") 2443), (.int 25 2304)⟩, ⟨PyData.keyHash P (S "|"), (.str (S "|") 2444), (.int 18 2290)⟩, ⟨PyData.keyHash P (S "|="), (.str (S "|=") 2445), (.int 42 2338)⟩, ⟨PyData.keyHash P (S "}"), (.str (S "}") 2446), (.int 26 2306)⟩, ⟨PyData.keyHash P (S "~"), (.str (S "~") 2447), (.int 31 2316)⟩]
noncomputable def o111_0 (P : Params) : Obj := ⟨(.type "dict"), none, (.dict (e111_0 P).toArray 48), #[]⟩
noncomputable def e112_0 (P : Params) : List DictEntry := [⟨PyData.keyHash P (S "->"), (.str (S "->") 2400), (.int 51 2356)⟩, ⟨PyData.keyHash P (S "."), (.str (S ".") 2402), (.int 23 2300)⟩, ⟨PyData.keyHash P (S "..."), (.str (S "...") 2404), (.int 52 2358)⟩, ⟨PyData.keyHash P (S "/"), (.str (S "/") 2406), (.int 17 2288)⟩, ⟨PyData.keyHash P (S "//"), (.str (S "//") 2408), (.int 47 2348)⟩, ⟨PyData.keyHash P (S "//="), (.str (S "//=") 2410), (.int 48 2350)⟩, ⟨PyData.keyHash P (S "/="), (.str (S "/=") 2412), (.int 39 2332)⟩, ⟨PyData.keyHash P (S ":"), (.str (S ":") 2414), (.int 11 2276)⟩, ⟨PyData.keyHash P (S ":="), (.str (S ":=") 2416), (.int 53 2360)⟩, ⟨PyData.keyHash P (S ";"), (.str (S ";") 2418), (.int 13 2280)⟩, ⟨PyData.keyHash P (S "<"), (.str (S "<") 2420), (.int 20 2294)⟩, ⟨PyData.keyHash P (S "<<"), (.str (S "<<") 2422), (.int 33 2320)⟩, ⟨PyData.keyHash P (S "<<="), (.str (S "<<=") 2424), (.int 44 2342)⟩, ⟨PyData.keyHash P (S "<="), (.str (S "<=") 2426), (.int 29 2312)⟩, ⟨PyData.keyHash P (S "="), (.str (S "=") 2428), (.int 22 2298)⟩, ⟨PyData.keyHash P (S "=="), (.str (S "==") 2430), (.int 27 2308)⟩, ⟨PyData.keyHash P (S ">"), (.str (S ">") 2432), (.int 21 2296)⟩]
noncomputable def o112_0 (P : Params) : Obj := ⟨(.type "dict"), none, (.dict (e112_0 P).toArray 17), #[]⟩
noncomputable def e113_0 (P : Params) : List DictEntry := [⟨PyData.keyHash P (S ">="), (.str (S ">=") 2434), (.int 30 2314)⟩, ⟨PyData.keyHash P (S ">>"), (.str (S ">>") 2435), (.int 34 2322)⟩, ⟨PyData.keyHash P (S ">>="), (.str (S ">>=") 2436), (.int 45 2344)⟩, ⟨PyData.keyHash P (S "@"), (.str (S "@") 2437), (.int 49 2352)⟩, ⟨PyData.keyHash P (S "@="), (.str (S "@=") 2438), (.int 50 2354)⟩, ⟨PyData.keyHash P (S "["), (.str (S "[") 2439), (.int 9 2272)⟩, ⟨PyData.keyHash P (S "]"), (.str (S "]") 2440), (.int 10 2274)⟩, ⟨PyData.keyHash P (S "^"), (.str (S "^") 2441), (.int 32 2318)⟩, ⟨PyData.keyHash P (S "^="), (.str (S "^=") 2442), (.int 43 2340)⟩, ⟨PyData.keyHash P (S "{"), (.str (S "{") 2443), (.int 25 2304)⟩, ⟨PyData.keyHash P (S "|"), (.str (S "|") 2444), (.int 18 2290)⟩, ⟨PyData.keyHash P (S "|="), (.str (S "|=") 2445), (.int 42 2338)⟩, ⟨PyData.keyHash P (S "}"), (.str (S "}") 2446), (.int 26 2306)⟩, ⟨PyData.keyHash P (S "~"), (.str (S "~") 2447), (.int 31 2316)⟩]
noncomputable def o113_0 (P : Params) : Obj := ⟨(.type "dict"), none, (.dict (e113_0 P).toArray 14), #[]⟩
noncomputable def tree_10 (P : Params) (u : Nat → Obj) : BT := (.node (boot_o_0 P) (.node (boot_o_1 P) (.node (o3_10 P) (.node (boot_o_7 P) (.node (o15_0 P) (.node (o31_0 P) (.node (o63_0 P) .nil .nil) (.node (u 95) .nil .nil)) (.node (o47_0 P) (.node (u 79) .nil .nil) (.node (o111_0 P) .nil .nil))) (.node (o23_0 P) (.node (o39_0 P) (.node (u 71) .nil .nil) (.node (u 103) .nil .nil)) (.node (o55_0 P) (.node (u 87) .nil .nil) .nil))) (.node (o11_0 P) (.node (o19_0 P) (.node (o35_0 P) (.node (u 67) .nil .nil) (.node (u 99) .nil .nil)) (.node (o51_0 P) (.node (u 83) .nil .nil) .nil)) (.node (o27_0 P) (.node (o43_0 P) (.node (u 75) .nil .nil) (.node (o107_0 P) .nil .nil)) (.node (o59_0 P) (.node (u 91) .nil .nil) .nil)))) (.node (boot_o_5 P) (.node (boot_o_9 P) (.node (o17_0 P) (.node (o33_0 P) (.node (u 65) .nil .nil) (.node (u 97) .nil .nil)) (.node (o49_0 P) (.node (u 81) .nil .nil) (.node (o113_0 P) .nil .nil))) (.node (o25_0 P) (.node (o41_0 P) (.node (u 73) .nil .nil) (.node (o105_0 P) .nil .nil)) (.node (o57_0 P) (.node (u 89) .nil .nil) .nil))) (.node (o13_0 P) (.node (o21_0 P) (.node (o37_0 P) (.node (u 69) .nil .nil) (.node (u 101) .nil .nil)) (.node (o53_0 P) (.node (u 85) .nil .nil) .nil)) (.node (o29_0 P) (.node (o45_0 P) (.node (u 77) .nil .nil) (.node (o109_0 P) .nil .nil)) (.node (o61_0 P) (.node (u 93) .nil .nil) .nil))))) (.node (o2_1 P) (.node (boot_o_4 P) (.node (boot_o_8 P) (.node (o16_0 P) (.node (o32_0 P) (.node (o64_0 P) .nil .nil) (.node (u 96) .nil .nil)) (.node (o48_0 P) (.node (u 80) .nil .nil) (.node (o112_0 P) .nil .nil))) (.node (o24_1 P) (.node (o40_0 P) (.node (u 72) .nil .nil) (.node (o104_0 P) .nil .nil)) (.node (o56_0 P) (.node (u 88) .nil .nil) .nil))) (.node (o12_5 P) (.node (o20_0 P) (.node (o36_0 P) (.node (u 68) .nil .nil) (.node (u 100) .nil .nil)) (.node (o52_0 P) (.node (u 84) .nil .nil) .nil)) (.node (o28_0 P) (.node (o44_0 P) (.node (u 76) .nil .nil) (.node (o108_0 P) .nil .nil)) (.node (o60_0 P) (.node (u 92) .nil .nil) .nil)))) (.node (boot_o_6 P) (.node (boot_o_10 P) (.node (o18_0 P) (.node (o34_0 P) (.node (u 66) .nil .nil) (.node (u 98) .nil .nil)) (.node (o50_0 P) (.node (u 82) .nil .nil) .nil)) (.node (o26_0 P) (.node (o42_0 P) (.node (u 74) .nil .nil) (.node (o106_0 P) .nil .nil)) (.node (o58_0 P) (.node (u 90) .nil .nil) .nil))) (.node (o14_0 P) (.node (o22_0 P) (.node (o38_0 P) (.node (u 70) .nil .nil) (.node (u 102) .nil .nil)) (.node (o54_0 P) (.node (u 86) .nil .nil) .nil)) (.node (o30_0 P) (.node (o46_0 P) (.node (u 78) .nil .nil) (.node (o110_0 P) .nil .nil)) (.node (o62_0 P) (.node (u 94) .nil .nil) .nil))))))
noncomputable def S_10 (P : Params) (u : Nat → Obj) (os : OsState) : SharedT := ⟨tree_10 P u, 114, {}, #[], boot_drawn, 2463, os⟩
theorem pc_10false (w : World) (u : Nat → Obj) (os : OsState) (q : Pos) : wrM pw (w.withFollow "special-get-raises" false) Γ₁ (execs ((bdy.drop 60).take 1) env) q (S_9 (w.withFollow "special-get-raises" false).params u os) = some (.ok .next, ⟨84, 0, 84, 17⟩, S_10 (w.withFollow "special-get-raises" false).params u os) := by kernel_rfl
theorem pc_10true (w : World) (u : Nat → Obj) (os : OsState) (q : Pos) : wrM pw (w.withFollow "special-get-raises" true) Γ₁ (execs ((bdy.drop 60).take 1) env) q (S_9 (w.withFollow "special-get-raises" true).params u os) = some (.ok .next, ⟨84, 0, 84, 17⟩, S_10 (w.withFollow "special-get-raises" true).params u os) := by kernel_rfl
theorem pc_10 (w : World) (u : Nat → Obj) (os : OsState) (q : Pos) : wrM pw w Γ₁ (execs ((bdy.drop 60).take 1) env) q (S_9 w.params u os) = some (.ok .next, ⟨84, 0, 84, 17⟩, S_10 w.params u os) :=
  byRow2 "special-get-raises" (P := fun w => wrM pw w Γ₁ (execs ((bdy.drop 60).take 1) env) q (S_9 w.params u os) = some (.ok .next, ⟨84, 0, 84, 17⟩, S_10 w.params u os)) (fun w => pc_10false w u os q) (fun w => pc_10true w u os q) w
noncomputable def e3_11 (P : Params) : List DictEntry := [⟨PyData.keyHash P (S "__name__"), (.str (S "__name__") 165), (.str (S "law_wf0082_02") 2484)⟩, ⟨PyData.keyHash P (S "__doc__"), (.str (S "__doc__") 166), .none⟩, ⟨PyData.keyHash P (S "__package__"), (.str (S "__package__") 167), .none⟩, ⟨PyData.keyHash P (S "__loader__"), (.str (S "__loader__") 168), (.builtin "__main__.__loader__#opaque")⟩, ⟨PyData.keyHash P (S "__spec__"), (.str (S "__spec__") 169), .none⟩, ⟨PyData.keyHash P (S "__annotations__"), (.str (S "__annotations__") 170), (.ref 6)⟩, ⟨PyData.keyHash P (S "__builtins__"), (.str (S "__builtins__") 171), (.ref 4)⟩, ⟨PyData.keyHash P (S "__file__"), (.str (S "__file__") 173), (.str (S "/claim/cut.py") 172)⟩, ⟨PyData.keyHash P (S "__cached__"), (.str (S "__cached__") 174), .none⟩, ⟨PyData.keyHash P (S "Error"), (.str (S "Error") 208), (.ref 24)⟩, ⟨PyData.keyHash P (S "error_reply"), (.str (S "error_reply") 224), (.ref 37)⟩, ⟨PyData.keyHash P (S "parse257"), (.str (S "parse257") 235), (.ref 46)⟩, ⟨PyData.keyHash P (S "b1_set"), (.str (S "b1_set") 297), (.ref 54)⟩, ⟨PyData.keyHash P (S "in_table_b1"), (.str (S "in_table_b1") 304), (.ref 64)⟩, ⟨PyData.keyHash P (S "b3_exceptions"), (.str (S "b3_exceptions") 2255), (.ref 65)⟩, ⟨PyData.keyHash P (S "map_table_b3"), (.str (S "map_table_b3") 2263), (.ref 110)⟩, ⟨PyData.keyHash P (S "ENDMARKER"), (.str (S "ENDMARKER") 2267), (.int 0 2266)⟩, ⟨PyData.keyHash P (S "LPAR"), (.str (S "LPAR") 2269), (.int 7 2268)⟩, ⟨PyData.keyHash P (S "RPAR"), (.str (S "RPAR") 2271), (.int 8 2270)⟩, ⟨PyData.keyHash P (S "LSQB"), (.str (S "LSQB") 2273), (.int 9 2272)⟩, ⟨PyData.keyHash P (S "RSQB"), (.str (S "RSQB") 2275), (.int 10 2274)⟩, ⟨PyData.keyHash P (S "COLON"), (.str (S "COLON") 2277), (.int 11 2276)⟩, ⟨PyData.keyHash P (S "COMMA"), (.str (S "COMMA") 2279), (.int 12 2278)⟩, ⟨PyData.keyHash P (S "SEMI"), (.str (S "SEMI") 2281), (.int 13 2280)⟩, ⟨PyData.keyHash P (S "PLUS"), (.str (S "PLUS") 2283), (.int 14 2282)⟩, ⟨PyData.keyHash P (S "MINUS"), (.str (S "MINUS") 2285), (.int 15 2284)⟩, ⟨PyData.keyHash P (S "STAR"), (.str (S "STAR") 2287), (.int 16 2286)⟩, ⟨PyData.keyHash P (S "SLASH"), (.str (S "SLASH") 2289), (.int 17 2288)⟩, ⟨PyData.keyHash P (S "VBAR"), (.str (S "VBAR") 2291), (.int 18 2290)⟩, ⟨PyData.keyHash P (S "AMPER"), (.str (S "AMPER") 2293), (.int 19 2292)⟩, ⟨PyData.keyHash P (S "LESS"), (.str (S "LESS") 2295), (.int 20 2294)⟩, ⟨PyData.keyHash P (S "GREATER"), (.str (S "GREATER") 2297), (.int 21 2296)⟩, ⟨PyData.keyHash P (S "EQUAL"), (.str (S "EQUAL") 2299), (.int 22 2298)⟩, ⟨PyData.keyHash P (S "DOT"), (.str (S "DOT") 2301), (.int 23 2300)⟩, ⟨PyData.keyHash P (S "PERCENT"), (.str (S "PERCENT") 2303), (.int 24 2302)⟩, ⟨PyData.keyHash P (S "LBRACE"), (.str (S "LBRACE") 2305), (.int 25 2304)⟩, ⟨PyData.keyHash P (S "RBRACE"), (.str (S "RBRACE") 2307), (.int 26 2306)⟩, ⟨PyData.keyHash P (S "EQEQUAL"), (.str (S "EQEQUAL") 2309), (.int 27 2308)⟩, ⟨PyData.keyHash P (S "NOTEQUAL"), (.str (S "NOTEQUAL") 2311), (.int 28 2310)⟩, ⟨PyData.keyHash P (S "LESSEQUAL"), (.str (S "LESSEQUAL") 2313), (.int 29 2312)⟩, ⟨PyData.keyHash P (S "GREATEREQUAL"), (.str (S "GREATEREQUAL") 2315), (.int 30 2314)⟩, ⟨PyData.keyHash P (S "TILDE"), (.str (S "TILDE") 2317), (.int 31 2316)⟩, ⟨PyData.keyHash P (S "CIRCUMFLEX"), (.str (S "CIRCUMFLEX") 2319), (.int 32 2318)⟩, ⟨PyData.keyHash P (S "LEFTSHIFT"), (.str (S "LEFTSHIFT") 2321), (.int 33 2320)⟩, ⟨PyData.keyHash P (S "RIGHTSHIFT"), (.str (S "RIGHTSHIFT") 2323), (.int 34 2322)⟩, ⟨PyData.keyHash P (S "DOUBLESTAR"), (.str (S "DOUBLESTAR") 2325), (.int 35 2324)⟩, ⟨PyData.keyHash P (S "PLUSEQUAL"), (.str (S "PLUSEQUAL") 2327), (.int 36 2326)⟩, ⟨PyData.keyHash P (S "MINEQUAL"), (.str (S "MINEQUAL") 2329), (.int 37 2328)⟩, ⟨PyData.keyHash P (S "STAREQUAL"), (.str (S "STAREQUAL") 2331), (.int 38 2330)⟩, ⟨PyData.keyHash P (S "SLASHEQUAL"), (.str (S "SLASHEQUAL") 2333), (.int 39 2332)⟩, ⟨PyData.keyHash P (S "PERCENTEQUAL"), (.str (S "PERCENTEQUAL") 2335), (.int 40 2334)⟩, ⟨PyData.keyHash P (S "AMPEREQUAL"), (.str (S "AMPEREQUAL") 2337), (.int 41 2336)⟩, ⟨PyData.keyHash P (S "VBAREQUAL"), (.str (S "VBAREQUAL") 2339), (.int 42 2338)⟩, ⟨PyData.keyHash P (S "CIRCUMFLEXEQUAL"), (.str (S "CIRCUMFLEXEQUAL") 2341), (.int 43 2340)⟩, ⟨PyData.keyHash P (S "LEFTSHIFTEQUAL"), (.str (S "LEFTSHIFTEQUAL") 2343), (.int 44 2342)⟩, ⟨PyData.keyHash P (S "RIGHTSHIFTEQUAL"), (.str (S "RIGHTSHIFTEQUAL") 2345), (.int 45 2344)⟩, ⟨PyData.keyHash P (S "DOUBLESTAREQUAL"), (.str (S "DOUBLESTAREQUAL") 2347), (.int 46 2346)⟩, ⟨PyData.keyHash P (S "DOUBLESLASH"), (.str (S "DOUBLESLASH") 2349), (.int 47 2348)⟩, ⟨PyData.keyHash P (S "DOUBLESLASHEQUAL"), (.str (S "DOUBLESLASHEQUAL") 2351), (.int 48 2350)⟩, ⟨PyData.keyHash P (S "AT"), (.str (S "AT") 2353), (.int 49 2352)⟩, ⟨PyData.keyHash P (S "ATEQUAL"), (.str (S "ATEQUAL") 2355), (.int 50 2354)⟩, ⟨PyData.keyHash P (S "RARROW"), (.str (S "RARROW") 2357), (.int 51 2356)⟩, ⟨PyData.keyHash P (S "ELLIPSIS"), (.str (S "ELLIPSIS") 2359), (.int 52 2358)⟩, ⟨PyData.keyHash P (S "COLONEQUAL"), (.str (S "COLONEQUAL") 2361), (.int 53 2360)⟩, ⟨PyData.keyHash P (S "EXCLAMATION"), (.str (S "EXCLAMATION") 2363), (.int 54 2362)⟩, ⟨PyData.keyHash P (S "NT_OFFSET"), (.str (S "NT_OFFSET") 2365), (.int 256 2364)⟩, ⟨PyData.keyHash P (S "EXACT_TOKEN_TYPES"), (.str (S "EXACT_TOKEN_TYPES") 2462), (.ref 111)⟩, ⟨PyData.keyHash P (S "ISTERMINAL"), (.str (S "ISTERMINAL") 2469), (.ref 120)⟩, ⟨PyData.keyHash P (S "ISNONTERMINAL"), (.str (S "ISNONTERMINAL") 2476), (.ref 127)⟩, ⟨PyData.keyHash P (S "ISEOF"), (.str (S "ISEOF") 2483), (.ref 134)⟩, ⟨PyData.keyHash P (S "_law_numbers"), (.str (S "_law_numbers") 2494), (.ref 141)⟩, ⟨PyData.keyHash P (S "_law_drawn"), (.str (S "_law_drawn") 2500), (.ref 146)⟩, ⟨PyData.keyHash P (S "_law_free"), (.str (S "_law_free") 2506), (.ref 151)⟩, ⟨PyData.keyHash P (S "_law_value"), (.str (S "_law_value") 2515), (.ref 158)⟩, ⟨PyData.keyHash P (S "_law_quoted"), (.str (S "_law_quoted") 2522), (.ref 165)⟩, ⟨PyData.keyHash P (S "_law_spelled"), (.str (S "_law_spelled") 2532), (.ref 172)⟩, ⟨PyData.keyHash P (S "_law_pieces"), (.str (S "_law_pieces") 2541), (.ref 179)⟩, ⟨PyData.keyHash P (S "_law_line"), (.str (S "_law_line") 2550), (.ref 186)⟩, ⟨PyData.keyHash P (S "_law_read"), (.str (S "_law_read") 2556), (.ref 191)⟩, ⟨PyData.keyHash P (S "_law_trees"), (.str (S "_law_trees") 2565), (.ref 198)⟩, ⟨PyData.keyHash P (S "_law_without"), (.str (S "_law_without") 2575), (.ref 205)⟩]
noncomputable def o3_11 (P : Params) : Obj := ⟨(.type "dict"), none, (.dict (e3_11 P).toArray 81), #[]⟩
noncomputable def o12_6 (P : Params) : Obj := ⟨.none, none, (.fields #[(.int 2 0), (.int 0 0), (.ref 20), (.int 4 0), (.int 0 0), (.ref 33), (.int 6 0), (.int 0 0), (.ref 45), (.int 25 0), (.int 0 0), (.ref 63), (.int 28 0), (.int 0 0), (.ref 109), (.int 85 0), (.int 0 0), (.ref 119), (.int 87 0), (.int 0 0), (.ref 126), (.int 89 0), (.int 0 0), (.ref 133), (.int 92 0), (.int 0 0), (.ref 140), (.int 97 0), (.int 0 0), (.ref 145), (.int 107 0), (.int 0 0), (.ref 150), (.int 113 0), (.int 0 0), (.ref 157), (.int 121 0), (.int 0 0), (.ref 164), (.int 123 0), (.int 0 0), (.ref 171), (.int 128 0), (.int 0 0), (.ref 178), (.int 142 0), (.int 0 0), (.ref 185), (.int 147 0), (.int 0 0), (.ref 190), (.int 166 0), (.int 0 0), (.ref 197), (.int 178 0), (.int 0 0), (.ref 204)]), #[]⟩
noncomputable def o114_0 (P : Params) : Obj := ⟨(.type "tuple"), none, (.seq #[] 0), #[]⟩
noncomputable def o115_0 (P : Params) : Obj := ⟨.none, none, (.fields #[]), #[]⟩
noncomputable def o116_0 (P : Params) : Obj := ⟨(.type "tuple"), none, (.seq #[(.str (S "x") 2466)] 0), #[]⟩
noncomputable def o117_0 (P : Params) : Obj := ⟨(.type "tuple"), none, (.seq #[] 0), #[]⟩
noncomputable def o118_0 (P : Params) : Obj := ⟨.none, none, (.func (fdOf 61 0 .none .none 0)), #[]⟩
noncomputable def o119_0 (P : Params) : Obj := ⟨(.type "code"), none, (.fields #[(.str (S "ISTERMINAL") 2463), (.str (S "ISTERMINAL") 2464), (.str (S "/claim/cut.py") 2465), (.int 85 0), (.int 1 0), (.int 0 0), (.int 0 0), (.int 3 0), (.ref 114), (.bool true), (.int 181 0), (.ref 115), .none, (.ref 116), (.ref 117), (.ref 118), (.int 2467 0), (.int 85 0), (.str (S "/claim/cut.py") 2468)]), #[]⟩
noncomputable def o120_0 (P : Params) : Obj := ⟨(.type "function"), none, (.func (fdOf 61 3 (.str (S "cpy313.token") 2264) (.ref 119) 0)), #[]⟩
noncomputable def o121_0 (P : Params) : Obj := ⟨(.type "tuple"), none, (.seq #[] 0), #[]⟩
noncomputable def o122_0 (P : Params) : Obj := ⟨.none, none, (.fields #[]), #[]⟩
noncomputable def o123_0 (P : Params) : Obj := ⟨(.type "tuple"), none, (.seq #[(.str (S "x") 2473)] 0), #[]⟩
noncomputable def o124_0 (P : Params) : Obj := ⟨(.type "tuple"), none, (.seq #[] 0), #[]⟩
noncomputable def o125_0 (P : Params) : Obj := ⟨.none, none, (.func (fdOf 62 0 .none .none 0)), #[]⟩
noncomputable def o126_0 (P : Params) : Obj := ⟨(.type "code"), none, (.fields #[(.str (S "ISNONTERMINAL") 2470), (.str (S "ISNONTERMINAL") 2471), (.str (S "/claim/cut.py") 2472), (.int 87 0), (.int 1 0), (.int 0 0), (.int 0 0), (.int 3 0), (.ref 121), (.bool true), (.int 181 0), (.ref 122), .none, (.ref 123), (.ref 124), (.ref 125), (.int 2474 0), (.int 87 0), (.str (S "/claim/cut.py") 2475)]), #[]⟩
noncomputable def o127_0 (P : Params) : Obj := ⟨(.type "function"), none, (.func (fdOf 62 3 (.str (S "cpy313.token") 2264) (.ref 126) 0)), #[]⟩
noncomputable def o128_0 (P : Params) : Obj := ⟨(.type "tuple"), none, (.seq #[] 0), #[]⟩
noncomputable def o129_0 (P : Params) : Obj := ⟨.none, none, (.fields #[]), #[]⟩
noncomputable def o130_0 (P : Params) : Obj := ⟨(.type "tuple"), none, (.seq #[(.str (S "x") 2480)] 0), #[]⟩
noncomputable def o131_0 (P : Params) : Obj := ⟨(.type "tuple"), none, (.seq #[] 0), #[]⟩
noncomputable def o132_0 (P : Params) : Obj := ⟨.none, none, (.func (fdOf 63 0 .none .none 0)), #[]⟩
noncomputable def o133_0 (P : Params) : Obj := ⟨(.type "code"), none, (.fields #[(.str (S "ISEOF") 2477), (.str (S "ISEOF") 2478), (.str (S "/claim/cut.py") 2479), (.int 89 0), (.int 1 0), (.int 0 0), (.int 0 0), (.int 3 0), (.ref 128), (.bool true), (.int 181 0), (.ref 129), .none, (.ref 130), (.ref 131), (.ref 132), (.int 2481 0), (.int 89 0), (.str (S "/claim/cut.py") 2482)]), #[]⟩
noncomputable def o134_0 (P : Params) : Obj := ⟨(.type "function"), none, (.func (fdOf 63 3 (.str (S "cpy313.token") 2264) (.ref 133) 0)), #[]⟩
noncomputable def o135_0 (P : Params) : Obj := ⟨(.type "tuple"), none, (.seq #[] 0), #[]⟩
noncomputable def o136_0 (P : Params) : Obj := ⟨.none, none, (.fields #[]), #[]⟩
noncomputable def o137_0 (P : Params) : Obj := ⟨(.type "tuple"), none, (.seq #[(.str (S "script") 2489), (.str (S "row") 2490), (.str (S "k") 2491)] 0), #[]⟩
noncomputable def o138_0 (P : Params) : Obj := ⟨(.type "tuple"), none, (.seq #[] 0), #[]⟩
noncomputable def o139_0 (P : Params) : Obj := ⟨.none, none, (.func (fdOf 65 0 .none .none 0)), #[]⟩
noncomputable def o140_0 (P : Params) : Obj := ⟨(.type "code"), none, (.fields #[(.str (S "_law_numbers") 2486), (.str (S "_law_numbers") 2487), (.str (S "/claim/cut.py") 2488), (.int 92 0), (.int 1 0), (.int 0 0), (.int 0 0), (.int 3 0), (.ref 135), (.bool true), (.int 181 0), (.ref 136), .none, (.ref 137), (.ref 138), (.ref 139), (.int 2492 0), (.int 92 0), (.str (S "/claim/cut.py") 2493)]), #[]⟩
noncomputable def o141_0 (P : Params) : Obj := ⟨(.type "function"), none, (.func (fdOf 65 3 (.str (S "law_wf0082_02") 2484) (.ref 140) 0)), #[]⟩
noncomputable def o142_0 (P : Params) : Obj := ⟨(.type "tuple"), none, (.seq #[] 0), #[]⟩
noncomputable def o143_0 (P : Params) : Obj := ⟨.none, none, (.fields #[]), #[]⟩
noncomputable def o144_0 (P : Params) : Obj := ⟨.none, none, (.func (fdOf 66 0 .none .none 0)), #[]⟩
noncomputable def o145_0 (P : Params) : Obj := ⟨(.type "code"), none, (.fields #[(.str (S "_law_drawn") 2495), (.str (S "_law_drawn") 2496), (.str (S "/claim/cut.py") 2497), (.int 97 0), (.int 1 0), (.int 0 0), (.int 0 0), (.int 3 0), (.ref 142), (.bool true), (.int 181 0), (.ref 143), .none, .none, .none, (.ref 144), (.int 2498 0), (.int 97 0), (.str (S "/claim/cut.py") 2499)]), #[]⟩
noncomputable def o146_0 (P : Params) : Obj := ⟨(.type "function"), none, (.func (fdOf 66 3 (.str (S "law_wf0082_02") 2484) (.ref 145) 0)), #[]⟩
noncomputable def o147_0 (P : Params) : Obj := ⟨(.type "tuple"), none, (.seq #[] 0), #[]⟩
noncomputable def o148_0 (P : Params) : Obj := ⟨.none, none, (.fields #[]), #[]⟩
noncomputable def o149_0 (P : Params) : Obj := ⟨.none, none, (.func (fdOf 67 0 .none .none 0)), #[]⟩
noncomputable def o150_0 (P : Params) : Obj := ⟨(.type "code"), none, (.fields #[(.str (S "_law_free") 2501), (.str (S "_law_free") 2502), (.str (S "/claim/cut.py") 2503), (.int 107 0), (.int 1 0), (.int 0 0), (.int 0 0), (.int 3 0), (.ref 147), (.bool true), (.int 181 0), (.ref 148), .none, .none, .none, (.ref 149), (.int 2504 0), (.int 107 0), (.str (S "/claim/cut.py") 2505)]), #[]⟩
noncomputable def o151_0 (P : Params) : Obj := ⟨(.type "function"), none, (.func (fdOf 67 3 (.str (S "law_wf0082_02") 2484) (.ref 150) 0)), #[]⟩
noncomputable def o152_0 (P : Params) : Obj := ⟨(.type "tuple"), none, (.seq #[] 0), #[]⟩
noncomputable def o153_0 (P : Params) : Obj := ⟨.none, none, (.fields #[]), #[]⟩
noncomputable def o154_0 (P : Params) : Obj := ⟨(.type "tuple"), none, (.seq #[(.str (S "tree") 2510), (.str (S "known") 2511), (.str (S "inner") 2512)] 0), #[]⟩
noncomputable def o155_0 (P : Params) : Obj := ⟨(.type "tuple"), none, (.seq #[] 0), #[]⟩
noncomputable def o156_0 (P : Params) : Obj := ⟨.none, none, (.func (fdOf 68 0 .none .none 0)), #[]⟩
noncomputable def o157_0 (P : Params) : Obj := ⟨(.type "code"), none, (.fields #[(.str (S "_law_value") 2507), (.str (S "_law_value") 2508), (.str (S "/claim/cut.py") 2509), (.int 113 0), (.int 2 0), (.int 0 0), (.int 0 0), (.int 3 0), (.ref 152), (.bool true), (.int 181 0), (.ref 153), .none, (.ref 154), (.ref 155), (.ref 156), (.int 2513 0), (.int 113 0), (.str (S "/claim/cut.py") 2514)]), #[]⟩
noncomputable def o158_0 (P : Params) : Obj := ⟨(.type "function"), none, (.func (fdOf 68 3 (.str (S "law_wf0082_02") 2484) (.ref 157) 0)), #[]⟩
noncomputable def o159_0 (P : Params) : Obj := ⟨(.type "tuple"), none, (.seq #[] 0), #[]⟩
noncomputable def o160_0 (P : Params) : Obj := ⟨.none, none, (.fields #[]), #[]⟩
noncomputable def o161_0 (P : Params) : Obj := ⟨(.type "tuple"), none, (.seq #[(.str (S "name") 2519)] 0), #[]⟩
noncomputable def o162_0 (P : Params) : Obj := ⟨(.type "tuple"), none, (.seq #[] 0), #[]⟩
noncomputable def o163_0 (P : Params) : Obj := ⟨.none, none, (.func (fdOf 69 0 .none .none 0)), #[]⟩
noncomputable def o164_0 (P : Params) : Obj := ⟨(.type "code"), none, (.fields #[(.str (S "_law_quoted") 2516), (.str (S "_law_quoted") 2517), (.str (S "/claim/cut.py") 2518), (.int 121 0), (.int 1 0), (.int 0 0), (.int 0 0), (.int 3 0), (.ref 159), (.bool true), (.int 181 0), (.ref 160), .none, (.ref 161), (.ref 162), (.ref 163), (.int 2520 0), (.int 121 0), (.str (S "/claim/cut.py") 2521)]), #[]⟩
noncomputable def o165_0 (P : Params) : Obj := ⟨(.type "function"), none, (.func (fdOf 69 3 (.str (S "law_wf0082_02") 2484) (.ref 164) 0)), #[]⟩
noncomputable def o166_0 (P : Params) : Obj := ⟨(.type "tuple"), none, (.seq #[] 0), #[]⟩
noncomputable def o167_0 (P : Params) : Obj := ⟨.none, none, (.fields #[]), #[]⟩
noncomputable def o168_0 (P : Params) : Obj := ⟨(.type "tuple"), none, (.seq #[(.str (S "name") 2526), (.str (S "ending") 2527), (.str (S "seed") 2528), (.str (S "letter") 2529)] 0), #[]⟩
noncomputable def o169_0 (P : Params) : Obj := ⟨(.type "tuple"), none, (.seq #[] 0), #[]⟩
noncomputable def o170_0 (P : Params) : Obj := ⟨.none, none, (.func (fdOf 70 0 .none .none 0)), #[]⟩
noncomputable def o171_0 (P : Params) : Obj := ⟨(.type "code"), none, (.fields #[(.str (S "_law_spelled") 2523), (.str (S "_law_spelled") 2524), (.str (S "/claim/cut.py") 2525), (.int 123 0), (.int 3 0), (.int 0 0), (.int 0 0), (.int 3 0), (.ref 166), (.bool true), (.int 181 0), (.ref 167), .none, (.ref 168), (.ref 169), (.ref 170), (.int 2530 0), (.int 123 0), (.str (S "/claim/cut.py") 2531)]), #[]⟩
noncomputable def o172_0 (P : Params) : Obj := ⟨(.type "function"), none, (.func (fdOf 70 3 (.str (S "law_wf0082_02") 2484) (.ref 171) 0)), #[]⟩
noncomputable def o173_0 (P : Params) : Obj := ⟨(.type "tuple"), none, (.seq #[] 0), #[]⟩
noncomputable def o174_0 (P : Params) : Obj := ⟨.none, none, (.fields #[]), #[]⟩
noncomputable def o175_0 (P : Params) : Obj := ⟨(.type "tuple"), none, (.seq #[(.str (S "tree") 2536), (.str (S "row") 2537), (.str (S "pieces") 2538)] 0), #[]⟩
noncomputable def o176_0 (P : Params) : Obj := ⟨(.type "tuple"), none, (.seq #[] 0), #[]⟩
noncomputable def o177_0 (P : Params) : Obj := ⟨.none, none, (.func (fdOf 71 0 .none .none 0)), #[]⟩
noncomputable def o178_0 (P : Params) : Obj := ⟨(.type "code"), none, (.fields #[(.str (S "_law_pieces") 2533), (.str (S "_law_pieces") 2534), (.str (S "/claim/cut.py") 2535), (.int 128 0), (.int 3 0), (.int 0 0), (.int 0 0), (.int 3 0), (.ref 173), (.bool true), (.int 181 0), (.ref 174), .none, (.ref 175), (.ref 176), (.ref 177), (.int 2539 0), (.int 128 0), (.str (S "/claim/cut.py") 2540)]), #[]⟩
noncomputable def o179_0 (P : Params) : Obj := ⟨(.type "function"), none, (.func (fdOf 71 3 (.str (S "law_wf0082_02") 2484) (.ref 178) 0)), #[]⟩
noncomputable def o180_0 (P : Params) : Obj := ⟨(.type "tuple"), none, (.seq #[] 0), #[]⟩
noncomputable def o181_0 (P : Params) : Obj := ⟨.none, none, (.fields #[]), #[]⟩
noncomputable def o182_0 (P : Params) : Obj := ⟨(.type "tuple"), none, (.seq #[(.str (S "pieces") 2545), (.str (S "line") 2546), (.str (S "k") 2547)] 0), #[]⟩
noncomputable def o183_0 (P : Params) : Obj := ⟨(.type "tuple"), none, (.seq #[] 0), #[]⟩
noncomputable def o184_0 (P : Params) : Obj := ⟨.none, none, (.func (fdOf 72 0 .none .none 0)), #[]⟩
noncomputable def o185_0 (P : Params) : Obj := ⟨(.type "code"), none, (.fields #[(.str (S "_law_line") 2542), (.str (S "_law_line") 2543), (.str (S "/claim/cut.py") 2544), (.int 142 0), (.int 1 0), (.int 0 0), (.int 0 0), (.int 3 0), (.ref 180), (.bool true), (.int 181 0), (.ref 181), .none, (.ref 182), (.ref 183), (.ref 184), (.int 2548 0), (.int 142 0), (.str (S "/claim/cut.py") 2549)]), #[]⟩
noncomputable def o186_0 (P : Params) : Obj := ⟨(.type "function"), none, (.func (fdOf 72 3 (.str (S "law_wf0082_02") 2484) (.ref 185) 0)), #[]⟩
noncomputable def o187_0 (P : Params) : Obj := ⟨(.type "tuple"), none, (.seq #[] 0), #[]⟩
noncomputable def o188_0 (P : Params) : Obj := ⟨.none, none, (.fields #[]), #[]⟩
noncomputable def o189_0 (P : Params) : Obj := ⟨.none, none, (.func (fdOf 73 0 .none .none 0)), #[]⟩
noncomputable def o190_0 (P : Params) : Obj := ⟨(.type "code"), none, (.fields #[(.str (S "_law_read") 2551), (.str (S "_law_read") 2552), (.str (S "/claim/cut.py") 2553), (.int 147 0), (.int 2 0), (.int 0 0), (.int 0 0), (.int 3 0), (.ref 187), (.bool true), (.int 181 0), (.ref 188), .none, .none, .none, (.ref 189), (.int 2554 0), (.int 147 0), (.str (S "/claim/cut.py") 2555)]), #[]⟩
noncomputable def o191_0 (P : Params) : Obj := ⟨(.type "function"), none, (.func (fdOf 73 3 (.str (S "law_wf0082_02") 2484) (.ref 190) 0)), #[]⟩
noncomputable def o192_0 (P : Params) : Obj := ⟨(.type "tuple"), none, (.seq #[] 0), #[]⟩
noncomputable def o193_0 (P : Params) : Obj := ⟨.none, none, (.fields #[]), #[]⟩
noncomputable def o194_0 (P : Params) : Obj := ⟨(.type "tuple"), none, (.seq #[(.str (S "row") 2560), (.str (S "pile") 2561), (.str (S "k") 2562)] 0), #[]⟩
noncomputable def o195_0 (P : Params) : Obj := ⟨(.type "tuple"), none, (.seq #[] 0), #[]⟩
noncomputable def o196_0 (P : Params) : Obj := ⟨.none, none, (.func (fdOf 74 0 .none .none 0)), #[]⟩
noncomputable def o197_0 (P : Params) : Obj := ⟨(.type "code"), none, (.fields #[(.str (S "_law_trees") 2557), (.str (S "_law_trees") 2558), (.str (S "/claim/cut.py") 2559), (.int 166 0), (.int 1 0), (.int 0 0), (.int 0 0), (.int 3 0), (.ref 192), (.bool true), (.int 181 0), (.ref 193), .none, (.ref 194), (.ref 195), (.ref 196), (.int 2563 0), (.int 166 0), (.str (S "/claim/cut.py") 2564)]), #[]⟩
noncomputable def o198_0 (P : Params) : Obj := ⟨(.type "function"), none, (.func (fdOf 74 3 (.str (S "law_wf0082_02") 2484) (.ref 197) 0)), #[]⟩
noncomputable def o199_0 (P : Params) : Obj := ⟨(.type "tuple"), none, (.seq #[] 0), #[]⟩
noncomputable def o200_0 (P : Params) : Obj := ⟨.none, none, (.fields #[]), #[]⟩
noncomputable def o201_0 (P : Params) : Obj := ⟨(.type "tuple"), none, (.seq #[(.str (S "symbol") 2569), (.str (S "term") 2570), (.str (S "left") 2571), (.str (S "right") 2572)] 0), #[]⟩
noncomputable def o202_0 (P : Params) : Obj := ⟨(.type "tuple"), none, (.seq #[] 0), #[]⟩
noncomputable def o203_0 (P : Params) : Obj := ⟨.none, none, (.func (fdOf 75 0 .none .none 0)), #[]⟩
noncomputable def o204_0 (P : Params) : Obj := ⟨(.type "code"), none, (.fields #[(.str (S "_law_without") 2566), (.str (S "_law_without") 2567), (.str (S "/claim/cut.py") 2568), (.int 178 0), (.int 2 0), (.int 0 0), (.int 0 0), (.int 3 0), (.ref 199), (.bool true), (.int 181 0), (.ref 200), .none, (.ref 201), (.ref 202), (.ref 203), (.int 2573 0), (.int 178 0), (.str (S "/claim/cut.py") 2574)]), #[]⟩
noncomputable def o205_0 (P : Params) : Obj := ⟨(.type "function"), none, (.func (fdOf 75 3 (.str (S "law_wf0082_02") 2484) (.ref 204) 0)), #[]⟩
noncomputable def tree_11 (P : Params) (u : Nat → Obj) : BT := (.node (boot_o_0 P) (.node (boot_o_1 P) (.node (o3_11 P) (.node (boot_o_7 P) (.node (o15_0 P) (.node (o31_0 P) (.node (o63_0 P) (.node (o127_0 P) .nil .nil) (.node (o191_0 P) .nil .nil)) (.node (u 95) (.node (o159_0 P) .nil .nil) .nil)) (.node (o47_0 P) (.node (u 79) (.node (o143_0 P) .nil .nil) .nil) (.node (o111_0 P) (.node (o175_0 P) .nil .nil) .nil))) (.node (o23_0 P) (.node (o39_0 P) (.node (u 71) (.node (o135_0 P) .nil .nil) (.node (o199_0 P) .nil .nil)) (.node (u 103) (.node (o167_0 P) .nil .nil) .nil)) (.node (o55_0 P) (.node (u 87) (.node (o151_0 P) .nil .nil) .nil) (.node (o119_0 P) (.node (o183_0 P) .nil .nil) .nil)))) (.node (o11_0 P) (.node (o19_0 P) (.node (o35_0 P) (.node (u 67) (.node (o131_0 P) .nil .nil) (.node (o195_0 P) .nil .nil)) (.node (u 99) (.node (o163_0 P) .nil .nil) .nil)) (.node (o51_0 P) (.node (u 83) (.node (o147_0 P) .nil .nil) .nil) (.node (o115_0 P) (.node (o179_0 P) .nil .nil) .nil))) (.node (o27_0 P) (.node (o43_0 P) (.node (u 75) (.node (o139_0 P) .nil .nil) (.node (o203_0 P) .nil .nil)) (.node (o107_0 P) (.node (o171_0 P) .nil .nil) .nil)) (.node (o59_0 P) (.node (u 91) (.node (o155_0 P) .nil .nil) .nil) (.node (o123_0 P) (.node (o187_0 P) .nil .nil) .nil))))) (.node (boot_o_5 P) (.node (boot_o_9 P) (.node (o17_0 P) (.node (o33_0 P) (.node (u 65) (.node (o129_0 P) .nil .nil) (.node (o193_0 P) .nil .nil)) (.node (u 97) (.node (o161_0 P) .nil .nil) .nil)) (.node (o49_0 P) (.node (u 81) (.node (o145_0 P) .nil .nil) .nil) (.node (o113_0 P) (.node (o177_0 P) .nil .nil) .nil))) (.node (o25_0 P) (.node (o41_0 P) (.node (u 73) (.node (o137_0 P) .nil .nil) (.node (o201_0 P) .nil .nil)) (.node (o105_0 P) (.node (o169_0 P) .nil .nil) .nil)) (.node (o57_0 P) (.node (u 89) (.node (o153_0 P) .nil .nil) .nil) (.node (o121_0 P) (.node (o185_0 P) .nil .nil) .nil)))) (.node (o13_0 P) (.node (o21_0 P) (.node (o37_0 P) (.node (u 69) (.node (o133_0 P) .nil .nil) (.node (o197_0 P) .nil .nil)) (.node (u 101) (.node (o165_0 P) .nil .nil) .nil)) (.node (o53_0 P) (.node (u 85) (.node (o149_0 P) .nil .nil) .nil) (.node (o117_0 P) (.node (o181_0 P) .nil .nil) .nil))) (.node (o29_0 P) (.node (o45_0 P) (.node (u 77) (.node (o141_0 P) .nil .nil) (.node (o205_0 P) .nil .nil)) (.node (o109_0 P) (.node (o173_0 P) .nil .nil) .nil)) (.node (o61_0 P) (.node (u 93) (.node (o157_0 P) .nil .nil) .nil) (.node (o125_0 P) (.node (o189_0 P) .nil .nil) .nil)))))) (.node (o2_1 P) (.node (boot_o_4 P) (.node (boot_o_8 P) (.node (o16_0 P) (.node (o32_0 P) (.node (o64_0 P) (.node (o128_0 P) .nil .nil) (.node (o192_0 P) .nil .nil)) (.node (u 96) (.node (o160_0 P) .nil .nil) .nil)) (.node (o48_0 P) (.node (u 80) (.node (o144_0 P) .nil .nil) .nil) (.node (o112_0 P) (.node (o176_0 P) .nil .nil) .nil))) (.node (o24_1 P) (.node (o40_0 P) (.node (u 72) (.node (o136_0 P) .nil .nil) (.node (o200_0 P) .nil .nil)) (.node (o104_0 P) (.node (o168_0 P) .nil .nil) .nil)) (.node (o56_0 P) (.node (u 88) (.node (o152_0 P) .nil .nil) .nil) (.node (o120_0 P) (.node (o184_0 P) .nil .nil) .nil)))) (.node (o12_6 P) (.node (o20_0 P) (.node (o36_0 P) (.node (u 68) (.node (o132_0 P) .nil .nil) (.node (o196_0 P) .nil .nil)) (.node (u 100) (.node (o164_0 P) .nil .nil) .nil)) (.node (o52_0 P) (.node (u 84) (.node (o148_0 P) .nil .nil) .nil) (.node (o116_0 P) (.node (o180_0 P) .nil .nil) .nil))) (.node (o28_0 P) (.node (o44_0 P) (.node (u 76) (.node (o140_0 P) .nil .nil) (.node (o204_0 P) .nil .nil)) (.node (o108_0 P) (.node (o172_0 P) .nil .nil) .nil)) (.node (o60_0 P) (.node (u 92) (.node (o156_0 P) .nil .nil) .nil) (.node (o124_0 P) (.node (o188_0 P) .nil .nil) .nil))))) (.node (boot_o_6 P) (.node (boot_o_10 P) (.node (o18_0 P) (.node (o34_0 P) (.node (u 66) (.node (o130_0 P) .nil .nil) (.node (o194_0 P) .nil .nil)) (.node (u 98) (.node (o162_0 P) .nil .nil) .nil)) (.node (o50_0 P) (.node (u 82) (.node (o146_0 P) .nil .nil) .nil) (.node (o114_0 P) (.node (o178_0 P) .nil .nil) .nil))) (.node (o26_0 P) (.node (o42_0 P) (.node (u 74) (.node (o138_0 P) .nil .nil) (.node (o202_0 P) .nil .nil)) (.node (o106_0 P) (.node (o170_0 P) .nil .nil) .nil)) (.node (o58_0 P) (.node (u 90) (.node (o154_0 P) .nil .nil) .nil) (.node (o122_0 P) (.node (o186_0 P) .nil .nil) .nil)))) (.node (o14_0 P) (.node (o22_0 P) (.node (o38_0 P) (.node (u 70) (.node (o134_0 P) .nil .nil) (.node (o198_0 P) .nil .nil)) (.node (u 102) (.node (o166_0 P) .nil .nil) .nil)) (.node (o54_0 P) (.node (u 86) (.node (o150_0 P) .nil .nil) .nil) (.node (o118_0 P) (.node (o182_0 P) .nil .nil) .nil))) (.node (o30_0 P) (.node (o46_0 P) (.node (u 78) (.node (o142_0 P) .nil .nil) .nil) (.node (o110_0 P) (.node (o174_0 P) .nil .nil) .nil)) (.node (o62_0 P) (.node (u 94) (.node (o158_0 P) .nil .nil) .nil) (.node (o126_0 P) (.node (o190_0 P) .nil .nil) .nil)))))))
noncomputable def S_11 (P : Params) (u : Nat → Obj) (os : OsState) : SharedT := ⟨tree_11 P u, 206, {}, #[], boot_drawn, 2576, os⟩
theorem pc_11 (w : World) (u : Nat → Obj) (os : OsState) (q : Pos) : wrM pw w Γ₁ (execs ((bdy.drop 61).take 15) env) q (S_10 w.params u os) = some (.ok .next, ⟨178, 0, 189, 30⟩, S_11 w.params u os) := by kernel_rfl
noncomputable def e3_12 (P : Params) : List DictEntry := e3_11 P ++ [⟨PyData.keyHash P (S "_law_bare"), (.str (S "_law_bare") 2584), (.ref 212)⟩, ⟨PyData.keyHash P (S "_law_signs"), (.str (S "_law_signs") 2593), (.ref 219)⟩, ⟨PyData.keyHash P (S "_law_run"), (.str (S "_law_run") 2606), (.ref 226)⟩, ⟨PyData.keyHash P (S "law"), (.str (S "law") 2612), (.ref 231)⟩]
noncomputable def o3_12 (P : Params) : Obj := ⟨(.type "dict"), none, (.dict (e3_12 P).toArray 85), #[]⟩
noncomputable def o12_7 (P : Params) : Obj := ⟨.none, none, (.fields #[(.int 2 0), (.int 0 0), (.ref 20), (.int 4 0), (.int 0 0), (.ref 33), (.int 6 0), (.int 0 0), (.ref 45), (.int 25 0), (.int 0 0), (.ref 63), (.int 28 0), (.int 0 0), (.ref 109), (.int 85 0), (.int 0 0), (.ref 119), (.int 87 0), (.int 0 0), (.ref 126), (.int 89 0), (.int 0 0), (.ref 133), (.int 92 0), (.int 0 0), (.ref 140), (.int 97 0), (.int 0 0), (.ref 145), (.int 107 0), (.int 0 0), (.ref 150), (.int 113 0), (.int 0 0), (.ref 157), (.int 121 0), (.int 0 0), (.ref 164), (.int 123 0), (.int 0 0), (.ref 171), (.int 128 0), (.int 0 0), (.ref 178), (.int 142 0), (.int 0 0), (.ref 185), (.int 147 0), (.int 0 0), (.ref 190), (.int 166 0), (.int 0 0), (.ref 197), (.int 178 0), (.int 0 0), (.ref 204), (.int 190 0), (.int 0 0), (.ref 211), (.int 198 0), (.int 0 0), (.ref 218), (.int 208 0), (.int 0 0), (.ref 225), (.int 235 0), (.int 0 0), (.ref 230)]), #[]⟩
noncomputable def o206_0 (P : Params) : Obj := ⟨(.type "tuple"), none, (.seq #[] 0), #[]⟩
noncomputable def o207_0 (P : Params) : Obj := ⟨.none, none, (.fields #[]), #[]⟩
noncomputable def o208_0 (P : Params) : Obj := ⟨(.type "tuple"), none, (.seq #[(.str (S "tree") 2579), (.str (S "term") 2580), (.str (S "handed") 2581)] 0), #[]⟩
noncomputable def o209_0 (P : Params) : Obj := ⟨(.type "tuple"), none, (.seq #[] 0), #[]⟩
noncomputable def o210_0 (P : Params) : Obj := ⟨.none, none, (.func (fdOf 76 0 .none .none 0)), #[]⟩
noncomputable def o211_0 (P : Params) : Obj := ⟨(.type "code"), none, (.fields #[(.str (S "_law_bare") 2576), (.str (S "_law_bare") 2577), (.str (S "/claim/cut.py") 2578), (.int 190 0), (.int 1 0), (.int 0 0), (.int 0 0), (.int 3 0), (.ref 206), (.bool true), (.int 181 0), (.ref 207), .none, (.ref 208), (.ref 209), (.ref 210), (.int 2582 0), (.int 190 0), (.str (S "/claim/cut.py") 2583)]), #[]⟩
noncomputable def o212_0 (P : Params) : Obj := ⟨(.type "function"), none, (.func (fdOf 76 3 (.str (S "law_wf0082_02") 2484) (.ref 211) 0)), #[]⟩
noncomputable def o213_0 (P : Params) : Obj := ⟨(.type "tuple"), none, (.seq #[] 0), #[]⟩
noncomputable def o214_0 (P : Params) : Obj := ⟨.none, none, (.fields #[]), #[]⟩
noncomputable def o215_0 (P : Params) : Obj := ⟨(.type "tuple"), none, (.seq #[(.str (S "term") 2588), (.str (S "names") 2589), (.str (S "pieces") 2590)] 0), #[]⟩
noncomputable def o216_0 (P : Params) : Obj := ⟨(.type "tuple"), none, (.seq #[] 0), #[]⟩
noncomputable def o217_0 (P : Params) : Obj := ⟨.none, none, (.func (fdOf 77 0 .none .none 0)), #[]⟩
noncomputable def o218_0 (P : Params) : Obj := ⟨(.type "code"), none, (.fields #[(.str (S "_law_signs") 2585), (.str (S "_law_signs") 2586), (.str (S "/claim/cut.py") 2587), (.int 198 0), (.int 3 0), (.int 0 0), (.int 0 0), (.int 3 0), (.ref 213), (.bool true), (.int 181 0), (.ref 214), .none, (.ref 215), (.ref 216), (.ref 217), (.int 2591 0), (.int 198 0), (.str (S "/claim/cut.py") 2592)]), #[]⟩
noncomputable def o219_0 (P : Params) : Obj := ⟨(.type "function"), none, (.func (fdOf 77 3 (.str (S "law_wf0082_02") 2484) (.ref 218) 0)), #[]⟩
noncomputable def o220_0 (P : Params) : Obj := ⟨(.type "tuple"), none, (.seq #[] 0), #[]⟩
noncomputable def o221_0 (P : Params) : Obj := ⟨.none, none, (.fields #[]), #[]⟩
noncomputable def o222_0 (P : Params) : Obj := ⟨(.type "tuple"), none, (.seq #[(.str (S "term") 2597), (.str (S "names") 2598), (.str (S "waiting") 2599), (.str (S "first") 2600), (.str (S "second") 2601), (.str (S "third") 2602), (.str (S "done") 2603)] 0), #[]⟩
noncomputable def o223_0 (P : Params) : Obj := ⟨(.type "tuple"), none, (.seq #[] 0), #[]⟩
noncomputable def o224_0 (P : Params) : Obj := ⟨.none, none, (.func (fdOf 78 0 .none .none 0)), #[]⟩
noncomputable def o225_0 (P : Params) : Obj := ⟨(.type "code"), none, (.fields #[(.str (S "_law_run") 2594), (.str (S "_law_run") 2595), (.str (S "/claim/cut.py") 2596), (.int 208 0), (.int 2 0), (.int 0 0), (.int 0 0), (.int 3 0), (.ref 220), (.bool true), (.int 181 0), (.ref 221), .none, (.ref 222), (.ref 223), (.ref 224), (.int 2604 0), (.int 208 0), (.str (S "/claim/cut.py") 2605)]), #[]⟩
noncomputable def o226_0 (P : Params) : Obj := ⟨(.type "function"), none, (.func (fdOf 78 3 (.str (S "law_wf0082_02") 2484) (.ref 225) 0)), #[]⟩
noncomputable def o227_0 (P : Params) : Obj := ⟨(.type "tuple"), none, (.seq #[] 0), #[]⟩
noncomputable def o228_0 (P : Params) : Obj := ⟨.none, none, (.fields #[]), #[]⟩
noncomputable def o229_0 (P : Params) : Obj := ⟨.none, none, (.func (fdOf 79 0 .none .none 0)), #[]⟩
noncomputable def o230_0 (P : Params) : Obj := ⟨(.type "code"), none, (.fields #[(.str (S "law") 2607), (.str (S "law") 2608), (.str (S "/claim/cut.py") 2609), (.int 235 0), (.int 1 0), (.int 0 0), (.int 0 0), (.int 3 0), (.ref 227), (.bool true), (.int 181 0), (.ref 228), .none, .none, .none, (.ref 229), (.int 2610 0), (.int 235 0), (.str (S "/claim/cut.py") 2611)]), #[]⟩
noncomputable def o231_0 (P : Params) : Obj := ⟨(.type "function"), none, (.func (fdOf 79 3 (.str (S "law_wf0082_02") 2484) (.ref 230) 0)), #[]⟩
noncomputable def tree_12 (P : Params) (u : Nat → Obj) : BT := (.node (boot_o_0 P) (.node (boot_o_1 P) (.node (o3_12 P) (.node (boot_o_7 P) (.node (o15_0 P) (.node (o31_0 P) (.node (o63_0 P) (.node (o127_0 P) .nil .nil) (.node (o191_0 P) .nil .nil)) (.node (u 95) (.node (o159_0 P) .nil .nil) (.node (o223_0 P) .nil .nil))) (.node (o47_0 P) (.node (u 79) (.node (o143_0 P) .nil .nil) (.node (o207_0 P) .nil .nil)) (.node (o111_0 P) (.node (o175_0 P) .nil .nil) .nil))) (.node (o23_0 P) (.node (o39_0 P) (.node (u 71) (.node (o135_0 P) .nil .nil) (.node (o199_0 P) .nil .nil)) (.node (u 103) (.node (o167_0 P) .nil .nil) (.node (o231_0 P) .nil .nil))) (.node (o55_0 P) (.node (u 87) (.node (o151_0 P) .nil .nil) (.node (o215_0 P) .nil .nil)) (.node (o119_0 P) (.node (o183_0 P) .nil .nil) .nil)))) (.node (o11_0 P) (.node (o19_0 P) (.node (o35_0 P) (.node (u 67) (.node (o131_0 P) .nil .nil) (.node (o195_0 P) .nil .nil)) (.node (u 99) (.node (o163_0 P) .nil .nil) (.node (o227_0 P) .nil .nil))) (.node (o51_0 P) (.node (u 83) (.node (o147_0 P) .nil .nil) (.node (o211_0 P) .nil .nil)) (.node (o115_0 P) (.node (o179_0 P) .nil .nil) .nil))) (.node (o27_0 P) (.node (o43_0 P) (.node (u 75) (.node (o139_0 P) .nil .nil) (.node (o203_0 P) .nil .nil)) (.node (o107_0 P) (.node (o171_0 P) .nil .nil) .nil)) (.node (o59_0 P) (.node (u 91) (.node (o155_0 P) .nil .nil) (.node (o219_0 P) .nil .nil)) (.node (o123_0 P) (.node (o187_0 P) .nil .nil) .nil))))) (.node (boot_o_5 P) (.node (boot_o_9 P) (.node (o17_0 P) (.node (o33_0 P) (.node (u 65) (.node (o129_0 P) .nil .nil) (.node (o193_0 P) .nil .nil)) (.node (u 97) (.node (o161_0 P) .nil .nil) (.node (o225_0 P) .nil .nil))) (.node (o49_0 P) (.node (u 81) (.node (o145_0 P) .nil .nil) (.node (o209_0 P) .nil .nil)) (.node (o113_0 P) (.node (o177_0 P) .nil .nil) .nil))) (.node (o25_0 P) (.node (o41_0 P) (.node (u 73) (.node (o137_0 P) .nil .nil) (.node (o201_0 P) .nil .nil)) (.node (o105_0 P) (.node (o169_0 P) .nil .nil) .nil)) (.node (o57_0 P) (.node (u 89) (.node (o153_0 P) .nil .nil) (.node (o217_0 P) .nil .nil)) (.node (o121_0 P) (.node (o185_0 P) .nil .nil) .nil)))) (.node (o13_0 P) (.node (o21_0 P) (.node (o37_0 P) (.node (u 69) (.node (o133_0 P) .nil .nil) (.node (o197_0 P) .nil .nil)) (.node (u 101) (.node (o165_0 P) .nil .nil) (.node (o229_0 P) .nil .nil))) (.node (o53_0 P) (.node (u 85) (.node (o149_0 P) .nil .nil) (.node (o213_0 P) .nil .nil)) (.node (o117_0 P) (.node (o181_0 P) .nil .nil) .nil))) (.node (o29_0 P) (.node (o45_0 P) (.node (u 77) (.node (o141_0 P) .nil .nil) (.node (o205_0 P) .nil .nil)) (.node (o109_0 P) (.node (o173_0 P) .nil .nil) .nil)) (.node (o61_0 P) (.node (u 93) (.node (o157_0 P) .nil .nil) (.node (o221_0 P) .nil .nil)) (.node (o125_0 P) (.node (o189_0 P) .nil .nil) .nil)))))) (.node (o2_1 P) (.node (boot_o_4 P) (.node (boot_o_8 P) (.node (o16_0 P) (.node (o32_0 P) (.node (o64_0 P) (.node (o128_0 P) .nil .nil) (.node (o192_0 P) .nil .nil)) (.node (u 96) (.node (o160_0 P) .nil .nil) (.node (o224_0 P) .nil .nil))) (.node (o48_0 P) (.node (u 80) (.node (o144_0 P) .nil .nil) (.node (o208_0 P) .nil .nil)) (.node (o112_0 P) (.node (o176_0 P) .nil .nil) .nil))) (.node (o24_1 P) (.node (o40_0 P) (.node (u 72) (.node (o136_0 P) .nil .nil) (.node (o200_0 P) .nil .nil)) (.node (o104_0 P) (.node (o168_0 P) .nil .nil) .nil)) (.node (o56_0 P) (.node (u 88) (.node (o152_0 P) .nil .nil) (.node (o216_0 P) .nil .nil)) (.node (o120_0 P) (.node (o184_0 P) .nil .nil) .nil)))) (.node (o12_7 P) (.node (o20_0 P) (.node (o36_0 P) (.node (u 68) (.node (o132_0 P) .nil .nil) (.node (o196_0 P) .nil .nil)) (.node (u 100) (.node (o164_0 P) .nil .nil) (.node (o228_0 P) .nil .nil))) (.node (o52_0 P) (.node (u 84) (.node (o148_0 P) .nil .nil) (.node (o212_0 P) .nil .nil)) (.node (o116_0 P) (.node (o180_0 P) .nil .nil) .nil))) (.node (o28_0 P) (.node (o44_0 P) (.node (u 76) (.node (o140_0 P) .nil .nil) (.node (o204_0 P) .nil .nil)) (.node (o108_0 P) (.node (o172_0 P) .nil .nil) .nil)) (.node (o60_0 P) (.node (u 92) (.node (o156_0 P) .nil .nil) (.node (o220_0 P) .nil .nil)) (.node (o124_0 P) (.node (o188_0 P) .nil .nil) .nil))))) (.node (boot_o_6 P) (.node (boot_o_10 P) (.node (o18_0 P) (.node (o34_0 P) (.node (u 66) (.node (o130_0 P) .nil .nil) (.node (o194_0 P) .nil .nil)) (.node (u 98) (.node (o162_0 P) .nil .nil) (.node (o226_0 P) .nil .nil))) (.node (o50_0 P) (.node (u 82) (.node (o146_0 P) .nil .nil) (.node (o210_0 P) .nil .nil)) (.node (o114_0 P) (.node (o178_0 P) .nil .nil) .nil))) (.node (o26_0 P) (.node (o42_0 P) (.node (u 74) (.node (o138_0 P) .nil .nil) (.node (o202_0 P) .nil .nil)) (.node (o106_0 P) (.node (o170_0 P) .nil .nil) .nil)) (.node (o58_0 P) (.node (u 90) (.node (o154_0 P) .nil .nil) (.node (o218_0 P) .nil .nil)) (.node (o122_0 P) (.node (o186_0 P) .nil .nil) .nil)))) (.node (o14_0 P) (.node (o22_0 P) (.node (o38_0 P) (.node (u 70) (.node (o134_0 P) .nil .nil) (.node (o198_0 P) .nil .nil)) (.node (u 102) (.node (o166_0 P) .nil .nil) (.node (o230_0 P) .nil .nil))) (.node (o54_0 P) (.node (u 86) (.node (o150_0 P) .nil .nil) (.node (o214_0 P) .nil .nil)) (.node (o118_0 P) (.node (o182_0 P) .nil .nil) .nil))) (.node (o30_0 P) (.node (o46_0 P) (.node (u 78) (.node (o142_0 P) .nil .nil) (.node (o206_0 P) .nil .nil)) (.node (o110_0 P) (.node (o174_0 P) .nil .nil) .nil)) (.node (o62_0 P) (.node (u 94) (.node (o158_0 P) .nil .nil) (.node (o222_0 P) .nil .nil)) (.node (o126_0 P) (.node (o190_0 P) .nil .nil) .nil)))))))
noncomputable def S_12 (P : Params) (u : Nat → Obj) (os : OsState) : SharedT := ⟨tree_12 P u, 232, {}, #[], boot_drawn, 2613, os⟩
theorem pc_12 (w : World) (u : Nat → Obj) (os : OsState) (q : Pos) : wrM pw w Γ₁ (execs ((bdy.drop 76).take 4) env) q (S_11 w.params u os) = some (.ok .next, ⟨235, 0, 249, 61⟩, S_12 w.params u os) := by kernel_rfl
noncomputable def nG : Nat := 12
theorem bdy_parts : bdy = ((bdy.drop 0).take 1) ++ (((bdy.drop 1).take 1) ++ (((bdy.drop 2).take 1) ++ (((bdy.drop 3).take 2) ++ (((bdy.drop 5).take 1) ++ (((bdy.drop 6).take 1) ++ (((bdy.drop 7).take 1) ++ (((bdy.drop 8).take 47) ++ (((bdy.drop 55).take 5) ++ (((bdy.drop 60).take 1) ++ (((bdy.drop 61).take 15) ++ (((bdy.drop 76).take 4) ++ []))))))))))) := by kernel_rfl
end P2
end
end Mine
end

section
open PySem PySem.W PyProof.Rows PySem.Calls
set_option Elab.async false
set_option linter.unusedVariables false
set_option maxRecDepth 100000
namespace Mine
open Sem (wp)
noncomputable section
namespace P2
noncomputable def b3K : List (Option Expr) := match stAt b3at with | .Assign _ (.Dict ks _ _) _ => ks | _ => []
noncomputable def b3V : List Expr := match stAt b3at with | .Assign _ (.Dict _ vs _) _ => vs | _ => []
noncomputable def L3 : List (Int × Str) := (pairsOf b3K b3V).getD []
theorem L3_is : pairsOf b3K b3V = some L3 := by kernel_rfl
theorem L3_asc : ascB L3 = true := by kernel_rfl
theorem L3_len : L3.length = 650 := by kernel_rfl
theorem st3_is : (bdy.drop 7).take 1 = [.Assign [.Name (Str.ofString "b3_exceptions") ⟨27, 0, 27, 13⟩] (.Dict b3K b3V ⟨27, 16, 27, 8704⟩) ⟨27, 0, 27, 8704⟩] := by kernel_rfl
theorem m_list (P : Params) (u : Nat → Obj) : (tree_m P u).list 104 = (tree_6 P).list 65 ++ (List.range 39).map (fun j => u (65 + j)) := by kernel_rfl
theorem l_objs (w : World) (os : OsState) : (S_6 w.params os).abs.heap.objs = ((tree_6 w.params).list 65).toArray := by kernel_rfl
theorem st3_sw : swapsWith (.Dict b3K b3V ⟨27, 16, 27, 8704⟩) (some (.Name (Str.ofString "b3_exceptions") ⟨27, 0, 27, 13⟩)) (⟨27, 0, 27, 8704⟩ : Pos).line env = pure false := by kernel_rfl
theorem l_len (P : Params) : ((tree_6 P).list 65).length = 65 := by kernel_rfl
theorem m_state (w : World) (os : OsState) (ds : List Obj) (h : ds.length = 39) : mkS (S_6 w.params os).abs ((tree_6 w.params).list 65 ++ ds) (3 * 650) = (S_m w.params (fun i => ds.getD (i - 65) default) os).abs := by
  have e : (List.range 39).map (fun j => (fun i => ds.getD (i - 65) default) (65 + j)) = ds := by
    apply List.ext_getElem
    · simp [h]
    · intro i h1 h2
      simp [Nat.add_sub_cancel_left, h2]
  show (⟨⟨((tree_6 w.params).list 65 ++ ds).toArray, _⟩, _, _, _, _⟩ : Shared) = ⟨⟨((tree_m w.params (fun i => ds.getD (i - 65) default)).list 104).toArray, _⟩, _, _, _, _⟩
  rw [m_list, e]
  rfl
theorem run_all (w : World) (os : OsState) (q : Pos) : Wp pw w Γ₁ (execs bdy env) (fun f _ s' => f = .next ∧ ∃ u : Nat → Obj, DObj (u b3lo) L3 ∧ s' = (S_12 w.params u os).abs) q (S_0 w.params os).abs := by
  rw [bdy_parts]
  refine Wp.piece (pc_1 w os _) ?_
  refine Wp.piece (pc_2 w os _) ?_
  refine Wp.piece (pc_3 w os _) ?_
  refine Wp.piece (pc_4 w os _) ?_
  refine Wp.piece (pc_5 w os _) ?_
  refine Wp.piece (pc_6 w os _) ?_
  refine Wp.b3 (objs := (tree_6 w.params).list 65) st3_is L3_is L3_asc (by rw [L3_len]; (first | lia | omega)) (by rw [L3_len]; (first | lia | omega)) (by rw [l_len]; (first | lia | omega)) (l_objs w os) st3_sw fun ds o h1 h2 h3 => ?_
  rw [L3_len] at h1
  refine ⟨S_m w.params (fun i => ds.getD (i - 65) default) os, S_7 w.params (fun i => ds.getD (i - 65) default) os, _, fun q => by rw [l_len]; exact pc_7b w _ os q, by rw [L3_len]; exact m_state w os ds h1, ?_⟩
  have hu : DObj ((fun i => ds.getD (i - 65) default) b3lo) L3 := by
    show DObj (ds.getD 0 default) L3
    rw [List.getD_eq_getElem?_getD, h2]; exact h3
  generalize (fun i => ds.getD (i - 65) default) = u at hu
  refine Wp.piece (pc_8 w u os _) ?_
  refine Wp.piece (pc_9 w u os _) ?_
  refine Wp.piece (pc_10 w u os _) ?_
  refine Wp.piece (pc_11 w u os _) ?_
  refine Wp.piece (pc_12 w u os _) ?_
  exact Wp.nil ⟨rfl, u, hu, rfl⟩
noncomputable def looseL : List Str := [Str.ofString "Error", Str.ofString "error_reply", Str.ofString "parse257", Str.ofString "b1_set", Str.ofString "in_table_b1", Str.ofString "b3_exceptions", Str.ofString "map_table_b3", Str.ofString "ENDMARKER", Str.ofString "LPAR", Str.ofString "RPAR", Str.ofString "LSQB", Str.ofString "RSQB", Str.ofString "COLON", Str.ofString "COMMA", Str.ofString "SEMI", Str.ofString "PLUS", Str.ofString "MINUS", Str.ofString "STAR", Str.ofString "SLASH", Str.ofString "VBAR", Str.ofString "AMPER", Str.ofString "LESS", Str.ofString "GREATER", Str.ofString "EQUAL", Str.ofString "DOT", Str.ofString "PERCENT", Str.ofString "LBRACE", Str.ofString "RBRACE", Str.ofString "EQEQUAL", Str.ofString "NOTEQUAL", Str.ofString "LESSEQUAL", Str.ofString "GREATEREQUAL", Str.ofString "TILDE", Str.ofString "CIRCUMFLEX", Str.ofString "LEFTSHIFT", Str.ofString "RIGHTSHIFT", Str.ofString "DOUBLESTAR", Str.ofString "PLUSEQUAL", Str.ofString "MINEQUAL", Str.ofString "STAREQUAL", Str.ofString "SLASHEQUAL", Str.ofString "PERCENTEQUAL", Str.ofString "AMPEREQUAL", Str.ofString "VBAREQUAL", Str.ofString "CIRCUMFLEXEQUAL", Str.ofString "LEFTSHIFTEQUAL", Str.ofString "RIGHTSHIFTEQUAL", Str.ofString "DOUBLESTAREQUAL", Str.ofString "DOUBLESLASH", Str.ofString "DOUBLESLASHEQUAL", Str.ofString "AT", Str.ofString "ATEQUAL", Str.ofString "RARROW", Str.ofString "ELLIPSIS", Str.ofString "COLONEQUAL", Str.ofString "EXCLAMATION", Str.ofString "NT_OFFSET", Str.ofString "EXACT_TOKEN_TYPES", Str.ofString "ISTERMINAL", Str.ofString "ISNONTERMINAL", Str.ofString "ISEOF", Str.ofString "_law_numbers", Str.ofString "_law_drawn", Str.ofString "_law_free", Str.ofString "_law_value", Str.ofString "_law_quoted", Str.ofString "_law_spelled", Str.ofString "_law_pieces", Str.ofString "_law_line", Str.ofString "_law_read", Str.ofString "_law_trees", Str.ofString "_law_without", Str.ofString "_law_bare", Str.ofString "_law_signs", Str.ofString "_law_run"]
noncomputable def lawAt : Nat := 79
noncomputable abbrev Sf := S_12
end P2
end
end Mine
end

section
open PySem PySem.W PyProof.Rows PySem.Calls
set_option Elab.async false
set_option linter.unusedVariables false
set_option maxRecDepth 100000
namespace Mine
open Sem (wp)
noncomputable section
namespace P2
noncomputable def qv : Program := { pw with main := { pw.main with body := [stAt lawAt] } }
theorem look1 (w : World) (u : Nat → Obj) (os : OsState) : (staticsOk (importedModules pw.main.body) (boot_heap w.params) (Sf w.params u os).abs.heap && namesBound pw (Sf w.params u os).abs.heap && gensDone (Sf w.params u os).abs && laidKept (boot_heap w.params) (Sf w.params u os).abs.heap) = true := by kernel_rfl
theorem look2 (w : World) (u : Nat → Obj) (os : OsState) : openSeen qv looseL (importedModules pw.main.body) (fun _ => true) true (Sf w.params u os).abs = openGood qv looseL := by kernel_rfl
theorem chains : chainsOk qv = true := by kernel_rfl
theorem sb_abs (w : World) (os : OsState) : (S_b w.params os).abs = ⟨boot_heap w.params, Array.mk [], boot_drawn, boot_toks, os⟩ := by kernel_rfl
theorem open_pw : opening pw = plainProg pw.main.scope.names := by kernel_rfl
theorem fence_pw (s : Shared) : fenceModules? pw s = some s := by kernel_rfl
theorem hann : hasAnns (behindTheImports pw) = false := by kernel_rfl
theorem hdoc : docOf (behindTheImports pw) = none := by kernel_rfl
theorem boot_ns (w : World) : (boot_heap w.params).isNs mainGlobals = true := by kernel_rfl
theorem boot_size (P : Params) : (boot_heap P).objs.size = 11 := by kernel_rfl
theorem old0 (P : Params) (u : Nat → Obj) (os : OsState) : (Sf P u os).abs.heap.get? 0 = (boot_heap P).get? 0 := by kernel_rfl
theorem old1 (P : Params) (u : Nat → Obj) (os : OsState) : (Sf P u os).abs.heap.get? 1 = (boot_heap P).get? 1 := by kernel_rfl
theorem old4 (P : Params) (u : Nat → Obj) (os : OsState) : (Sf P u os).abs.heap.get? 4 = (boot_heap P).get? 4 := by kernel_rfl
theorem old5 (P : Params) (u : Nat → Obj) (os : OsState) : (Sf P u os).abs.heap.get? 5 = (boot_heap P).get? 5 := by kernel_rfl
theorem old6 (P : Params) (u : Nat → Obj) (os : OsState) : (Sf P u os).abs.heap.get? 6 = (boot_heap P).get? 6 := by kernel_rfl
theorem old7 (P : Params) (u : Nat → Obj) (os : OsState) : (Sf P u os).abs.heap.get? 7 = (boot_heap P).get? 7 := by kernel_rfl
theorem old8 (P : Params) (u : Nat → Obj) (os : OsState) : (Sf P u os).abs.heap.get? 8 = (boot_heap P).get? 8 := by kernel_rfl
theorem old9 (P : Params) (u : Nat → Obj) (os : OsState) : (Sf P u os).abs.heap.get? 9 = (boot_heap P).get? 9 := by kernel_rfl
theorem old10 (P : Params) (u : Nat → Obj) (os : OsState) : (Sf P u os).abs.heap.get? 10 = (boot_heap P).get? 10 := by kernel_rfl
theorem old (P : Params) (u : Nat → Obj) (os : OsState) (b : Addr) (o : Obj) (h : (boot_heap P).get? b = some o) (hn : ¬ theTopsOwn (boot_heap P) b) : (Sf P u os).abs.heap.get? b = some o := by
  have hl : b < 11 := by rw [← boot_size P]; exact Heap.lt_size h
  have h3 : b ≠ 3 := fun e => hn (.inl e)
  have h2 : b ≠ 2 := fun e => hn (.inr (.inl e))
  match b, hl, h3, h2, h with
  | 0, _, _, _, h => rw [old0]; exact h
  | 1, _, _, _, h => rw [old1]; exact h
  | 2, _, _, h2, _ => exact absurd rfl h2
  | 3, _, h3, _, _ => exact absurd rfl h3
  | 4, _, _, _, h => rw [old4]; exact h
  | 5, _, _, _, h => rw [old5]; exact h
  | 6, _, _, _, h => rw [old6]; exact h
  | 7, _, _, _, h => rw [old7]; exact h
  | 8, _, _, _, h => rw [old8]; exact h
  | 9, _, _, _, h => rw [old9]; exact h
  | 10, _, _, _, h => rw [old10]; exact h
  | n + 11, hl, _, _, _ => exact absurd hl (Nat.not_lt.mpr (Nat.le_add_left 11 n))

/-- the heap behind the top -/
noncomputable def HF (P : Params) (u : Nat → Obj) : Heap := (Sf P u {}).abs.heap
noncomputable def YP (w : World) (h : Heap) : Prop := ∃ u : Nat → Obj, DObj (u b3lo) L3 ∧ ∀ b o, (HF w.params u).get? b = some o → h.get? b = some o
theorem behind (w : World) : Behind pw qv looseL YP w := by
  refine behind_of (N := 600) (Good := fun os s' => ∃ u : Nat → Obj, DObj (u b3lo) L3 ∧ s' = (Sf w.params u os).abs) w chains
    (boot_open open_pw rfl fence_pw w) (boot_ns w) (fun os => ?_) fun os s₁ hg => ?_
  · rw [← sb_abs]
    exact topWp (pre w os) hann hdoc (run_all w os _).out
  · obtain ⟨u, hu, rfl⟩ := hg
    exact ⟨rfl, rfl, ⟨u, hu, fun b o h => h⟩, look1 w u os, look2 w u os, old w.params u os⟩
end P2
end
end Mine
end

section
namespace Mine

/-- values: a list that may change is a number into the store -/
inductive V where
  | none | bool (b : Bool) | int (i : Int) | str (l : List Nat) | tup (l : List V) | lst (n : Nat) | ro (l : List Int) | rng (a c : Int) (n : Nat)
  deriving Inhabited
noncomputable abbrev Store := List (List V)

set_option genInjectivity false
inductive Uop where
  | neg | range | len | ord | chr | sum | sorted | list | isTup | inB1 | getB3 | inTok | tok | lower | dbl | pop | dict (l : List (Int × List Nat))
inductive Bop where
  | add | sub | mul | fdiv | mod | pow | min | down | eq | ne | lt | le | gt | ge | is | isnot | inn | notin | append | count | index | join | item | sliceF | sliceT
mutual
inductive Ex where
  | none | bool (b : Bool) | int (i : Int) | str (l : List Nat) | var (i : Nat)
  | un (o : Uop) (a : Ex) | bin (o : Bop) (a b : Ex) | slice (a lo hi : Ex)
  | not (a : Ex) | and (a b : Ex) | or (a b : Ex) | ite (c a b : Ex)
  | list (es : Exs) | tup (es : Exs) | call (f : Nat) (es : Exs)
  | comp (src : Ex) (elt : Ex) | compIf (src : Ex) (cond elt : Ex)
inductive Exs where
  | nil | cons (e : Ex) (r : Exs)
end
mutual
inductive St where
  | expr (e : Ex) | set (i : Nat) (e : Ex) | unpack (is : List Nat) (e : Ex) | setItem (i : Nat) (k e : Ex) | augItem (i : Nat) (k : Ex) (o : Bop) (e : Ex) | aug (i : Nat) (o : Bop) (e : Ex)
  | ite (c : Ex) (a b : Sts) | while (c : Ex) (b : Sts) | forIn (i : Nat) (e : Ex) (b : Sts)
  | ret (e : Ex) | brk | fail
inductive Sts where
  | nil | cons (s : St) (r : Sts)
end
inductive Fl where
  | next | brk | ret (v : V)

noncomputable def LIM : Nat := 16777216

/-- the world's tables, as far as the programs use them -/
structure Tabs where
  b1 : List Int
  b3 : List (Int × List Nat)
  tok : List (List Nat × Int)

/-- equality of plain values; none: not told -/
noncomputable def base1 : V → V → Option Bool
  | .none, y => match y with
    | .none => some true
    | _ => none
  | .bool a, y => match y with
    | .bool b => some (a == b)
    | _ => none
  | .int a, y => match y with
    | .int b => some (a == b)
    | _ => none
  | .str a, y => match y with
    | .str b => some (a == b)
    | _ => none
  | _, _ => none
@[simp] theorem base1_none : base1 .none .none = some true := rfl
@[simp] theorem base1_bool (a b : Bool) : base1 (.bool a) (.bool b) = some (a == b) := rfl
@[simp] theorem base1_int (a b : Int) : base1 (.int a) (.int b) = some (a == b) := rfl
@[simp] theorem base1_str (a b : List Nat) : base1 (.str a) (.str b) = some (a == b) := rfl
noncomputable def eqqs (f : V → V → Option Bool) : List V → List V → Option Bool
  | [], ys => match ys with
    | [] => some true
    | _ => none
  | x :: xs, ys => match ys with
    | [] => none
    | y :: ys => match f x y with
      | some true => eqqs f xs ys
      | _ => none
@[simp] theorem eqqs_nil (f : V → V → Option Bool) : eqqs f [] [] = some true := rfl
@[simp] theorem eqqs_cons (f : V → V → Option Bool) (x y : V) (xs ys : List V) : eqqs f (x :: xs) (y :: ys) = (match f x y with | some true => eqqs f xs ys | _ => none) := rfl
/-- equality of values that carry no list; none: not told (of tuples only «equal» is told) -/
noncomputable def V.eqq : Nat → V → V → Option Bool
  | 0, x, y => base1 x y
  | n + 1, x, y => match x with
    | .tup a => match y with
      | .tup b => eqqs (V.eqq n) a b
      | _ => Option.none
    | x => base1 x y
@[simp] theorem eqq_int (n : Nat) (a b : Int) : V.eqq n (.int a) (.int b) = some (a == b) := by cases n <;> rfl
@[simp] theorem eqq_str (n : Nat) (a b : List Nat) : V.eqq n (.str a) (.str b) = some (a == b) := by cases n <;> rfl
@[simp] theorem eqq_bool (n : Nat) (a b : Bool) : V.eqq n (.bool a) (.bool b) = some (a == b) := by cases n <;> rfl
@[simp] theorem eqq_none (n : Nat) : V.eqq n .none .none = some true := by cases n <;> rfl
@[simp] theorem eqq_tup (n : Nat) (a b : List V) : V.eqq (n + 1) (.tup a) (.tup b) = eqqs (V.eqq n) a b := rfl
/-- ints and strs -/
noncomputable def flat1 : V → V → Option Bool
  | .int a, y => match y with
    | .int b => some (a == b)
    | _ => none
  | .str a, y => match y with
    | .str b => some (a == b)
    | _ => none
  | _, _ => none
@[simp] theorem flat1_int (a b : Int) : flat1 (.int a) (.int b) = some (a == b) := rfl
@[simp] theorem flat1_str (a b : List Nat) : flat1 (.str a) (.str b) = some (a == b) := rfl
theorem flat1_inv {x y : V} {r : Bool} (h : flat1 x y = some r) : (∃ a b, x = .int a ∧ y = .int b ∧ r = (a == b)) ∨ (∃ a b, x = .str a ∧ y = .str b ∧ r = (a == b)) := by
  unfold flat1 at h
  split at h
  · split at h
    · exact .inl ⟨_, _, rfl, rfl, (Option.some.inj h).symm⟩
    · cases h
  · split at h
    · exact .inr ⟨_, _, rfl, rfl, (Option.some.inj h).symm⟩
    · cases h
  · cases h
/-- ints and strs, one by one -/
noncomputable def eqFlat : List V → List V → Option Bool
  | [], ys => match ys with
    | [] => some true
    | _ => none
  | x :: xs, ys => match ys with
    | [] => none
    | y :: ys => match flat1 x y with
      | some a => (eqFlat xs ys).map fun r => a && r
      | none => none
@[simp] theorem eqFlat_nil : eqFlat [] [] = some true := rfl
@[simp] theorem eqFlat_cons (x y : V) (xs ys : List V) : eqFlat (x :: xs) (y :: ys) = (match flat1 x y with | some a => (eqFlat xs ys).map fun r => a && r | none => none) := rfl
theorem eqFlat_inv {x y : V} {xs ys : List V} {b : Bool} (h : eqFlat (x :: xs) (y :: ys) = some b) : ∃ a c, flat1 x y = some a ∧ eqFlat xs ys = some c ∧ b = (a && c) := by
  rw [eqFlat_cons] at h
  split at h
  · rename_i a e
    cases hc : eqFlat xs ys with
    | none => rw [hc] at h; cases h
    | some c => rw [hc] at h; exact ⟨a, c, e, rfl, (Option.some.inj h).symm⟩
  · cases h
noncomputable def eqList (xs ys : List V) : Option Bool := if xs.length = ys.length then eqFlat xs ys else some false
noncomputable def eqV (σ : Store) (x y : V) : Option Bool := match x with
  | .lst m => match y with
    | .lst n => match σ[m]? with
      | some xs => match σ[n]? with
        | some ys => eqList xs ys
        | none => none
      | none => none
    | _ => none
  | x => V.eqq 60 x y
@[simp] theorem eqV_int (σ : Store) (a b : Int) : eqV σ (.int a) (.int b) = some (a == b) := rfl
@[simp] theorem eqV_str (σ : Store) (a b : List Nat) : eqV σ (.str a) (.str b) = some (a == b) := rfl
@[simp] theorem eqV_bool (σ : Store) (a b : Bool) : eqV σ (.bool a) (.bool b) = some (a == b) := rfl
@[simp] theorem eqV_lst (σ : Store) (m n : Nat) : eqV σ (.lst m) (.lst n) = (match σ[m]? with | some xs => (match σ[n]? with | some ys => eqList xs ys | none => none) | none => none) := rfl
theorem eqV_tup (σ : Store) (a b : List V) : eqV σ (.tup a) (.tup b) = V.eqq 60 (.tup a) (.tup b) := rfl

/-- is the value one of the items (ints or strs)? -/
noncomputable def inFlat (x : V) : List V → Option Bool
  | [] => some false
  | y :: ys => match flat1 y x with
    | some a => (inFlat x ys).map fun r => a || r
    | none => none
theorem inFlat_inv {x y : V} {ys : List V} {b : Bool} (h : inFlat x (y :: ys) = some b) : ∃ a c, flat1 y x = some a ∧ inFlat x ys = some c ∧ b = (a || c) := by
  unfold inFlat at h
  split at h
  · rename_i a e
    cases hc : inFlat x ys with
    | none => rw [hc] at h; cases h
    | some c => rw [hc] at h; exact ⟨a, c, e, rfl, (Option.some.inj h).symm⟩
  · cases h
/-- a list among lists -/
noncomputable def inLists (σ : Store) (xs : List V) : List V → Option Bool
  | [] => some false
  | y :: ys => match y with
    | .lst n => match σ[n]? with
      | some zs => match eqList zs xs with
        | some b => (inLists σ xs ys).map fun r => b || r
        | none => none
      | none => none
    | _ => none
theorem inLists_inv {σ : Store} {xs : List V} {y : V} {ys : List V} {b : Bool} (h : inLists σ xs (y :: ys) = some b) : ∃ n zs a c, y = .lst n ∧ σ[n]? = some zs ∧ eqList zs xs = some a ∧ inLists σ xs ys = some c ∧ b = (a || c) := by
  unfold inLists at h
  split at h
  · split at h
    · rename_i zs e
      split at h
      · rename_i a e2
        cases hc : inLists σ xs ys with
        | none => rw [hc] at h; cases h
        | some c => rw [hc] at h; exact ⟨_, zs, a, c, rfl, e, e2, rfl, (Option.some.inj h).symm⟩
      · cases h
    · cases h
  · cases h
noncomputable def inV (σ : Store) (x y : V) : Option Bool := match y with
  | .lst n => match σ[n]? with
    | some xs => inFlat x xs
    | none => none
  | .tup ys => match x with
    | .lst m => match σ[m]? with
      | some xs => inLists σ xs ys
      | none => none
    | x => inFlat x ys
  | _ => none
@[simp] theorem inV_lst (σ : Store) (x : V) (n : Nat) : inV σ x (.lst n) = (match σ[n]? with | some xs => inFlat x xs | none => none) := rfl
@[simp] theorem inV_lst_tup (σ : Store) (m : Nat) (ys : List V) : inV σ (.lst m) (.tup ys) = (match σ[m]? with | some xs => inLists σ xs ys | none => none) := rfl
@[simp] theorem inV_int_tup (σ : Store) (a : Int) (ys : List V) : inV σ (.int a) (.tup ys) = inFlat (.int a) ys := rfl
@[simp] theorem inV_str_tup (σ : Store) (a : List Nat) (ys : List V) : inV σ (.str a) (.tup ys) = inFlat (.str a) ys := rfl

/-- a place, from the end where it is below nought -/
noncomputable def place (i : Int) (n : Nat) : Option Nat := if 0 ≤ i then (if i.toNat < n then some i.toNat else none) else if (-i).toNat ≤ n then some (n - (-i).toNat) else none
noncomputable def clip (i : Int) (n : Nat) : Nat := if 0 ≤ i then Nat.min i.toNat n else n - (-i).toNat
noncomputable def cut {α : Type} (l : List α) (a b : Nat) : List α := (l.drop a).take (b - a)

noncomputable def isIntB (m : Int) : V → Bool
  | .int a => decide (a.natAbs < m)
  | _ => false
noncomputable def intOf : V → Int
  | .int a => a
  | _ => 0
noncomputable def strOf : V → List Nat
  | .str l => l
  | _ => []
noncomputable def isStr : V → Bool
  | .str _ => true
  | _ => false
theorem isIntB_inv {m : Int} {x : V} (h : isIntB m x = true) : ∃ a, x = .int a := by
  unfold isIntB at h
  split at h
  · exact ⟨_, rfl⟩
  · cases h
theorem isStr_inv {x : V} (h : isStr x = true) : ∃ l, x = .str l := by
  unfold isStr at h
  split at h
  · exact ⟨_, rfl⟩
  · cases h
theorem all_cons {α : Type} {p : α → Bool} {x : α} {xs : List α} (h : (x :: xs).all p = true) : p x = true ∧ xs.all p = true := by
  rw [List.all_cons, Bool.and_eq_true] at h; exact h
noncomputable def lexLt : List Nat → List Nat → Bool
  | [], [] => false
  | [], _ :: _ => true
  | _ :: _, [] => false
  | a :: x, b :: y => if a < b then true else if a = b then lexLt x y else false
noncomputable def insLex (x : List Nat) : List (List Nat) → List (List Nat)
  | [] => [x]
  | y :: ys => if lexLt x y then x :: y :: ys else y :: insLex x ys
/-- an own sort of texts, none twice -/
noncomputable def sortLex : List (List Nat) → List (List Nat)
  | [] => []
  | x :: xs => insLex x (sortLex xs)
noncomputable def joinL (sep : List Nat) : List (List Nat) → List Nat
  | [] => []
  | [x] => x
  | x :: y :: r => x ++ sep ++ joinL sep (y :: r)
noncomputable def lowA (c : Nat) : Nat := if 65 ≤ c ∧ c ≤ 90 then c + 32 else c
noncomputable def dblQ : List Nat → List Nat
  | [] => []
  | c :: r => if c = 34 then 34 :: 34 :: dblQ r else c :: dblQ r

variable (T : Tabs)
/-- what is done to an int, a text, a list of the store -/
noncomputable def uInt (f : Int → Option (V × Store)) : V → Option (V × Store)
  | .int a => f a
  | _ => none
noncomputable def uStr (f : List Nat → Option (V × Store)) : V → Option (V × Store)
  | .str l => f l
  | _ => none
noncomputable def uLst (σ : Store) (f : Nat → List V → Option (V × Store)) : V → Option (V × Store)
  | .lst n => match σ[n]? with
    | some xs => f n xs
    | none => none
  | _ => none
noncomputable def bInt (f : Int → Int → Option (V × Store)) (x y : V) : Option (V × Store) := uInt (fun a => uInt (f a) y) x
noncomputable def bStr (f : List Nat → List Nat → Option (V × Store)) (x y : V) : Option (V × Store) := uStr (fun a => uStr (f a) y) x
noncomputable def bLst (σ : Store) (f : List V → List V → Option (V × Store)) (x y : V) : Option (V × Store) := uLst σ (fun _ xs => uLst σ (fun _ ys => f xs ys) y) x
theorem noSome {α : Type} {a : α} {p : Prop} (h : (none : Option α) = some a) : p := nomatch h
/-- one, or else the other -/
noncomputable def orE {α : Type} : Option α → Option α → Option α
  | some a, _ => some a
  | none, b => b
@[simp] theorem orE_some {α : Type} (a : α) (b : Option α) : orE (some a) b = some a := rfl
@[simp] theorem orE_none {α : Type} (b : Option α) : orE none b = b := rfl
theorem orE_inv {α : Type} {a b : Option α} {r : α} (h : orE a b = some r) : a = some r ∨ b = some r := by
  cases a with
  | none => exact .inr h
  | some x => exact .inl h
section
variable (σ : Store) (f : Int → Option (V × Store)) (g : List Nat → Option (V × Store)) (k : Nat → List V → Option (V × Store))
@[simp] theorem uInt_int (a : Int) : uInt f (.int a) = f a := rfl
@[simp] theorem uInt_str (l : List Nat) : uInt f (.str l) = none := rfl
@[simp] theorem uInt_lst (n : Nat) : uInt f (.lst n) = none := rfl
@[simp] theorem uInt_tup (l : List V) : uInt f (.tup l) = none := rfl
@[simp] theorem uStr_str (l : List Nat) : uStr g (.str l) = g l := rfl
@[simp] theorem uStr_int (a : Int) : uStr g (.int a) = none := rfl
@[simp] theorem uStr_lst (n : Nat) : uStr g (.lst n) = none := rfl
@[simp] theorem uLst_lst (n : Nat) : uLst σ k (.lst n) = (match σ[n]? with | some xs => k n xs | none => none) := rfl
@[simp] theorem uLst_int (a : Int) : uLst σ k (.int a) = none := rfl
@[simp] theorem uLst_str (l : List Nat) : uLst σ k (.str l) = none := rfl
@[simp] theorem bInt_int (f : Int → Int → Option (V × Store)) (a b : Int) : bInt f (.int a) (.int b) = f a b := rfl
@[simp] theorem bInt_str (f : Int → Int → Option (V × Store)) (l : List Nat) (y : V) : bInt f (.str l) y = none := rfl
@[simp] theorem bInt_lst (f : Int → Int → Option (V × Store)) (n : Nat) (y : V) : bInt f (.lst n) y = none := rfl
@[simp] theorem bStr_str (f : List Nat → List Nat → Option (V × Store)) (a b : List Nat) : bStr f (.str a) (.str b) = f a b := rfl
@[simp] theorem bStr_int (f : List Nat → List Nat → Option (V × Store)) (a : Int) (y : V) : bStr f (.int a) y = none := rfl
@[simp] theorem bStr_lst (f : List Nat → List Nat → Option (V × Store)) (n : Nat) (y : V) : bStr f (.lst n) y = none := rfl
@[simp] theorem bLst_lst (f : List V → List V → Option (V × Store)) (m n : Nat) : bLst σ f (.lst m) (.lst n) = (match σ[m]? with | some xs => (match σ[n]? with | some ys => f xs ys | none => none) | none => none) := rfl
@[simp] theorem bLst_int (f : List V → List V → Option (V × Store)) (a : Int) (y : V) : bLst σ f (.int a) y = none := rfl
@[simp] theorem bLst_str (f : List V → List V → Option (V × Store)) (a : List Nat) (y : V) : bLst σ f (.str a) y = none := rfl
variable {σ f g k}
inductive IsI (f : Int → Option (V × Store)) (v : V) (r : V × Store) : Prop where
  | mk (a : Int) : v = .int a → f a = some r → IsI f v r
inductive IsS (f : List Nat → Option (V × Store)) (v : V) (r : V × Store) : Prop where
  | mk (a : List Nat) : v = .str a → f a = some r → IsS f v r
inductive IsL (σ : Store) (f : Nat → List V → Option (V × Store)) (v : V) (r : V × Store) : Prop where
  | mk (n : Nat) (xs : List V) : v = .lst n → σ[n]? = some xs → f n xs = some r → IsL σ f v r
inductive IsII (f : Int → Int → Option (V × Store)) (x y : V) (r : V × Store) : Prop where
  | mk (a b : Int) : x = .int a → y = .int b → f a b = some r → IsII f x y r
inductive IsSS (f : List Nat → List Nat → Option (V × Store)) (x y : V) (r : V × Store) : Prop where
  | mk (a b : List Nat) : x = .str a → y = .str b → f a b = some r → IsSS f x y r
inductive IsLL (σ : Store) (f : List V → List V → Option (V × Store)) (x y : V) (r : V × Store) : Prop where
  | mk (m : Nat) (xs : List V) (n : Nat) (ys : List V) : x = .lst m → σ[m]? = some xs → y = .lst n → σ[n]? = some ys → f xs ys = some r → IsLL σ f x y r
inductive IsIt {α : Type} (l : List α) (i : Int) (f : α → V) (σ : Store) (v : V) (σ' : Store) : Prop where
  | mk (k : Nat) (c : α) : place i l.length = some k → l[k]? = some c → v = f c → σ' = σ → IsIt l i f σ v σ'
theorem uInt_inv {v : V} {r : V × Store} (h : uInt f v = some r) : IsI f v r := by
  unfold uInt at h
  split at h
  · exact ⟨_, rfl, h⟩
  · first | exact noSome h | cases h
theorem uStr_inv {v : V} {r : V × Store} (h : uStr g v = some r) : IsS g v r := by
  unfold uStr at h
  split at h
  · exact ⟨_, rfl, h⟩
  · first | exact noSome h | cases h
theorem uLst_inv {v : V} {r : V × Store} (h : uLst σ k v = some r) : IsL σ k v r := by
  unfold uLst at h
  split at h
  · split at h
    · rename_i xs e; exact ⟨_, xs, rfl, e, h⟩
    · first | exact noSome h | cases h
  · first | exact noSome h | cases h
theorem bInt_inv {f : Int → Int → Option (V × Store)} {x y : V} {r : V × Store} (h : bInt f x y = some r) : IsII f x y r :=
  let ⟨a, e, h⟩ := uInt_inv h
  let ⟨b, e', h⟩ := uInt_inv h
  ⟨a, b, e, e', h⟩
theorem bStr_inv {f : List Nat → List Nat → Option (V × Store)} {x y : V} {r : V × Store} (h : bStr f x y = some r) : IsSS f x y r :=
  let ⟨a, e, h⟩ := uStr_inv h
  let ⟨b, e', h⟩ := uStr_inv h
  ⟨a, b, e, e', h⟩
theorem bLst_inv {f : List V → List V → Option (V × Store)} {x y : V} {r : V × Store} (h : bLst σ f x y = some r) : IsLL σ f x y r :=
  let ⟨m, xs, e, e2, h⟩ := uLst_inv h
  let ⟨n, ys, e', e2', h⟩ := uLst_inv h
  ⟨m, xs, n, ys, e, e2, e', e2', h⟩
end
/-- an item, if there is one -/
noncomputable def itemOf {α : Type} (l : List α) (i : Int) (f : α → V) (σ : Store) : Option (V × Store) := match place i l.length with
  | some k => match l[k]? with
    | some c => some (f c, σ)
    | none => none
  | none => none
theorem itemOf_inv {α : Type} {l : List α} {i : Int} {f : α → V} {σ : Store} {v : V} {σ' : Store} (h : itemOf l i f σ = some (v, σ')) : IsIt l i f σ v σ' := by
  unfold itemOf at h
  split at h
  · rename_i k hk
    split at h
    · rename_i c hc; cases h; exact ⟨k, c, hk, hc, rfl, rfl⟩
    · first | exact noSome h | cases h
  · first | exact noSome h | cases h

noncomputable def uLen (σ : Store) : V → Option (V × Store)
  | .str l => some (.int l.length, σ)
  | .tup l => some (.int l.length, σ)
  | .ro l => some (.int l.length, σ)
  | v => uLst σ (fun _ xs => some (.int xs.length, σ)) v
@[simp] theorem uLen_str (σ : Store) (l : List Nat) : uLen σ (.str l) = some (.int l.length, σ) := rfl
@[simp] theorem uLen_tup (σ : Store) (l : List V) : uLen σ (.tup l) = some (.int l.length, σ) := rfl
@[simp] theorem uLen_ro (σ : Store) (l : List Int) : uLen σ (.ro l) = some (.int l.length, σ) := rfl
@[simp] theorem uLen_lst (σ : Store) (n : Nat) : uLen σ (.lst n) = (match σ[n]? with | some xs => some (.int xs.length, σ) | none => none) := rfl
noncomputable def isTupV : V → Option Bool
  | .tup _ => some true
  | .int _ => some false
  | _ => none
@[simp] theorem isTupV_tup (l : List V) : isTupV (.tup l) = some true := rfl
@[simp] theorem isTupV_int (i : Int) : isTupV (.int i) = some false := rfl
noncomputable def one : List Nat → Option Nat
  | [c] => some c
  | _ => none
@[simp] theorem one_one (c : Nat) : one [c] = some c := rfl
noncomputable def optV : Option (List Nat) → V
  | some l => .str l
  | none => .none
@[simp] theorem optV_some (l : List Nat) : optV (some l) = .str l := rfl
@[simp] theorem optV_none : optV Option.none = .none := rfl
noncomputable def evU (o : Uop) (v : V) (σ : Store) : Option (V × Store) := match o with
  | .neg => uInt (fun a => some (.int (-a), σ)) v
  | .range => uInt (fun n => if -1000000 ≤ n ∧ n ≤ 1000000 then some (.rng 0 1 n.toNat, σ) else none) v
  | .len => uLen σ v
  | .ord => uStr (fun l => (one l).map fun (c : Nat) => (V.int (c : Int), σ)) v
  | .chr => uInt (fun i => if 0 ≤ i ∧ i < 1114112 then some (.str [i.toNat], σ) else none) v
  | .sum => uLst σ (fun _ xs => if xs.all (isIntB 1000000000) ∧ xs.length ≤ 1000 then some (.int (xs.map intOf).sum, σ) else none) v
  | .sorted => uLst σ (fun _ xs => if xs.all isStr ∧ xs.length ≤ 10 then some (.lst σ.length, σ ++ [(sortLex (xs.map strOf)).map .str]) else none) v
  | .list => uLst σ (fun _ xs => some (.lst σ.length, σ ++ [xs])) v
  | .isTup => (isTupV v).map fun b => (.bool b, σ)
  | .inB1 => uInt (fun c => some (.bool (T.b1.contains c), σ)) v
  | .getB3 => uInt (fun c => some (optV (T.b3.lookup c), σ)) v
  | .inTok => uStr (fun l => some (.bool ((T.tok.lookup l).isSome), σ)) v
  | .tok => uStr (fun l => (T.tok.lookup l).map fun i => (.int i, σ)) v
  | .lower => uStr (fun l => if l.all (· < 128) then some (.str (l.map lowA), σ) else none) v
  | .dbl => uStr (fun l => if 3 * l.length + 2 ≤ LIM then some (.str (dblQ l), σ) else none) v
  | .pop => uLst σ (fun n xs => (xs.getLast?).map fun x => (x, σ.set n xs.dropLast)) v
  | .dict l => uInt (fun k => (l.lookup k).map fun x => (.str x, σ)) v

noncomputable def isV : V → V → Option Bool
  | .bool a, .bool b => some (a == b)
  | .none, .none => some true
  | .int _, .none => some false
  | .str _, .none => some false
  | .tup _, .none => some false
  | _, _ => none
noncomputable def isN (x : V) : V → Option Bool
  | .none => isV x .none
  | _ => none
@[simp] theorem isN_none (x : V) : isN x .none = isV x .none := rfl
theorem isN_inv {x y : V} {r : Bool} (h : isN x y = some r) : y = .none ∧ isV x .none = some r := by
  unfold isN at h
  split at h
  · exact ⟨rfl, h⟩
  · first | exact noSome h | cases h
noncomputable def bItem (σ : Store) (i : Int) : V → Option (V × Store)
  | .str l => itemOf l i (fun c => .str [c]) σ
  | .tup l => itemOf l i id σ
  | .ro l => itemOf l i .int σ
  | x => uLst σ (fun _ xs => itemOf xs i id σ) x
noncomputable def bCut (σ : Store) (lo hi : Nat → Nat) : V → Option (V × Store)
  | .str l => some (.str (cut l (lo l.length) (hi l.length)), σ)
  | x => uLst σ (fun _ xs => some (.lst σ.length, σ ++ [cut xs (lo xs.length) (hi xs.length)])) x
section
variable (σ : Store)
@[simp] theorem isV_bool (a b : Bool) : isV (.bool a) (.bool b) = some (a == b) := rfl
@[simp] theorem isV_none : isV .none .none = some true := rfl
@[simp] theorem isV_int (a : Int) : isV (.int a) .none = some false := rfl
@[simp] theorem isV_str (a : List Nat) : isV (.str a) .none = some false := rfl
@[simp] theorem isV_tup (a : List V) : isV (.tup a) .none = some false := rfl
@[simp] theorem bItem_str (i : Int) (l : List Nat) : bItem σ i (.str l) = itemOf l i (fun c => .str [c]) σ := rfl
@[simp] theorem bItem_tup (i : Int) (l : List V) : bItem σ i (.tup l) = itemOf l i id σ := rfl
@[simp] theorem bItem_ro (i : Int) (l : List Int) : bItem σ i (.ro l) = itemOf l i .int σ := rfl
@[simp] theorem bItem_lst (i : Int) (n : Nat) : bItem σ i (.lst n) = (match σ[n]? with | some xs => itemOf xs i id σ | none => none) := rfl
@[simp] theorem bCut_str (lo hi : Nat → Nat) (l : List Nat) : bCut σ lo hi (.str l) = some (.str (cut l (lo l.length) (hi l.length)), σ) := rfl
@[simp] theorem bCut_lst (lo hi : Nat → Nat) (n : Nat) : bCut σ lo hi (.lst n) = (match σ[n]? with | some xs => some (.lst σ.length, σ ++ [cut xs (lo xs.length) (hi xs.length)]) | none => none) := rfl
end
noncomputable def evB (o : Bop) (x y : V) (σ : Store) : Option (V × Store) := match o with
  | .add => orE (bInt (fun a b => some (.int (a + b), σ)) x y) (orE (bStr (fun a b => if a.length + b.length ≤ LIM then some (.str (a ++ b), σ) else none) x y)
      (bLst σ (fun xs ys => if xs.length + ys.length ≤ LIM then some (.lst σ.length, σ ++ [xs ++ ys]) else none) x y))
  | .sub => bInt (fun a b => some (.int (a - b), σ)) x y
  | .mul => uInt (fun n => orE (uInt (fun a => if a.natAbs < 1000000000 ∧ n.natAbs < 1000000000 then some (.int (a * n), σ) else none) x)
      (orE (uStr (fun l => if 0 ≤ n ∧ n < 1000000 ∧ l.length * n.toNat ≤ LIM then some (.str (List.replicate n.toNat l).flatten, σ) else none) x)
      (uLst σ (fun _ xs => if n < 1000000 ∧ -1000000 < n ∧ xs.length * n.toNat ≤ LIM then some (.lst σ.length, σ ++ [(List.replicate n.toNat xs).flatten]) else none) x))) y
  | .fdiv => bInt (fun a b => if b ≠ 0 ∧ b.natAbs < 1000000000 then some (.int (a.fdiv b), σ) else none) x y
  | .mod => bInt (fun a b => if b ≠ 0 then some (.int (a.fmod b), σ) else none) x y
  | .pow => bInt (fun a n => if 0 ≤ n ∧ n ≤ 1000 ∧ a.natAbs < 1000000000 then some (.int (a ^ n.toNat), σ) else none) x y
  | .down => bInt (fun a b => if a ≤ 1000000 ∧ b = -1 ∧ -1 ≤ a then some (.rng a (-1) (a + 1).toNat, σ) else none) x y
  | .min => bInt (fun a b => some (.int (if b < a then b else a), σ)) x y
  | .eq => (eqV σ x y).map fun r => (.bool r, σ)
  | .ne => orE (bInt (fun a b => some (.bool (a != b), σ)) x y) (orE (bStr (fun a b => some (.bool (a != b), σ)) x y) (bLst σ (fun xs ys => (eqList xs ys).map fun r => (.bool (!r), σ)) x y))
  | .lt => bInt (fun a b => some (.bool (decide (a < b)), σ)) x y
  | .le => bInt (fun a b => some (.bool (decide (a ≤ b)), σ)) x y
  | .gt => bInt (fun a b => some (.bool (decide (b < a)), σ)) x y
  | .ge => bInt (fun a b => some (.bool (decide (b ≤ a)), σ)) x y
  | .is => (isV x y).map fun r => (.bool r, σ)
  | .isnot => (isN x y).map fun r => (.bool (!r), σ)
  | .inn => (inV σ x y).map fun r => (.bool r, σ)
  | .notin => (inV σ x y).map fun r => (.bool (!r), σ)
  | .append => uLst σ (fun n xs => if xs.length < LIM then some (.none, σ.set n (xs ++ [y])) else none) x
  | .count => uLst σ (fun _ xs => uInt (fun a => if xs.all (isIntB 1000000000) then some (.int ((xs.map intOf).count a), σ) else none) y) x
  | .index => uLst σ (fun _ xs => uStr (fun l => if xs.all isStr ∧ (xs.map strOf).idxOf l < xs.length then some (.int ((xs.map strOf).idxOf l), σ) else none) y) x
  | .join => uStr (fun sep => orE (uStr (fun l => if l.length + l.length * sep.length ≤ LIM then some (.str (joinL sep (l.map fun c => [c])), σ) else none) y)
      (uLst σ (fun _ xs => if xs.all isStr ∧ ((xs.map strOf).map List.length).sum + xs.length * sep.length ≤ LIM then some (.str (joinL sep (xs.map strOf)), σ) else none) y)) x
  | .item => uInt (fun i => bItem σ i x) y
  | .sliceF => uInt (fun a => bCut σ (fun n => clip a n) (fun n => n) x) y
  | .sliceT => uInt (fun b => bCut σ (fun _ => 0) (fun n => clip b n) x) y

/-- a, a + c, a + 2c .. -/
noncomputable def rangeL (a c : Int) (n : Nat) : List V := (List.range n).map fun (i : Nat) => V.int (a + (i : Int) * c)
/-- what a loop goes over: known items, or a list of the store as it stands at each turn -/
inductive Src where
  | fix (l : List V)
  | live (n : Nat)
/-- none: stuck; some none: at its end -/
noncomputable def Src.get : Src → Nat → Store → Option (Option V)
  | .fix l, j, _ => some l[j]?
  | .live n, j, σ => match σ[n]? with
    | some xs => some xs[j]?
    | none => none
/-- how many turns a loop without a known length may take -/
noncomputable def TURNS : Nat := 100000
noncomputable def Src.fuel : Src → Nat
  | .fix l => l.length + 1
  | .live _ => TURNS
noncomputable def srcOf : V → Option Src
  | .str l => some (.fix (l.map fun c => .str [c]))
  | .tup l => some (.fix l)
  | .lst n => some (.live n)
  | .rng a c n => some (.fix (rangeL a c n))
  | _ => none

noncomputable abbrev REnv := List (Option V)
noncomputable abbrev Calls := Nat → List V → Store → Option (V × Store)

/-- a comprehension's turns: the list built -/
noncomputable def evLoop (S : Src) (f : V → Store → Option (Option V × Store)) : Nat → Nat → List V → Store → Option (List V × Store)
  | 0, _, _, _ => none
  | k + 1, j, acc, σ => match S.get j σ with
    | some (some x) => match f x σ with
      | some (some v, σ') => evLoop S f k (j + 1) (acc ++ [v]) σ'
      | some (none, σ') => evLoop S f k (j + 1) acc σ'
      | none => none
    | some none => some (acc, σ)
    | none => none
mutual
noncomputable def ev (C : Calls) (ρ : REnv) (σ : Store) : Ex → Option (V × Store)
  | .none => some (.none, σ)
  | .bool b => some (.bool b, σ)
  | .int i => some (.int i, σ)
  | .str l => some (.str l, σ)
  | .var i => match ρ[i]? with
    | some (some v) => some (v, σ)
    | _ => none
  | .un o a => match ev C ρ σ a with
    | some (v, σ') => evU T o v σ'
    | none => none
  | .bin o a b => match ev C ρ σ a with
    | some (x, σ') => match ev C ρ σ' b with
      | some (y, σ'') => evB o x y σ''
      | none => none
    | none => none
  | .slice a lo hi => match ev C ρ σ a with
    | some (x, σ₁) => match ev C ρ σ₁ lo with
      | some (.int l, σ₂) => match ev C ρ σ₂ hi with
        | some (.int h, σ₃) => match x with
          | .str s => some (.str (cut s (clip l s.length) (clip h s.length)), σ₃)
          | _ => none
        | _ => none
      | _ => none
    | none => none
  | .not a => match ev C ρ σ a with
    | some (.bool b, σ') => some (.bool (!b), σ')
    | _ => none
  | .and a b => match ev C ρ σ a with
    | some (.bool true, σ') => match ev C ρ σ' b with
      | some (.bool c, σ'') => some (.bool c, σ'')
      | _ => none
    | some (.bool false, σ') => some (.bool false, σ')
    | _ => none
  | .or a b => match ev C ρ σ a with
    | some (.bool false, σ') => match ev C ρ σ' b with
      | some (.bool c, σ'') => some (.bool c, σ'')
      | _ => none
    | some (.bool true, σ') => some (.bool true, σ')
    | _ => none
  | .ite c a b => match ev C ρ σ c with
    | some (.bool true, σ') => ev C ρ σ' a
    | some (.bool false, σ') => ev C ρ σ' b
    | _ => none
  | .list es => match evs C ρ σ es with
    | some (vs, σ') => if vs.length ≤ LIM then some (.lst σ'.length, σ' ++ [vs]) else none
    | none => none
  | .tup es => match evs C ρ σ es with
    | some (vs, σ') => if vs.length ≤ LIM then some (.tup vs, σ') else none
    | none => none
  | .call f es => match evs C ρ σ es with
    | some (vs, σ') => C f vs σ'
    | none => none
  | .comp src elt => match ev C ρ σ src with
    | some (x, σ') => match srcOf x with
      | some S => match evLoop S (fun v τ => match ev C (ρ ++ [some v]) τ elt with | some (y, τ') => some (some y, τ') | none => none) S.fuel 0 [] σ' with
        | some (vs, σ'') => if vs.length ≤ LIM then some (.lst σ''.length, σ'' ++ [vs]) else none
        | none => none
      | none => none
    | none => none
  | .compIf src cond elt => match ev C ρ σ src with
    | some (x, σ') => match srcOf x with
      | some S => match evLoop S (fun v τ => match ev C (ρ ++ [some v]) τ cond with
        | some (.bool true, τ₁) => match ev C (ρ ++ [some v]) τ₁ elt with | some (y, τ') => some (some y, τ') | none => none
        | some (.bool false, τ₁) => some (none, τ₁)
        | _ => none) S.fuel 0 [] σ' with
        | some (vs, σ'') => if vs.length ≤ LIM then some (.lst σ''.length, σ'' ++ [vs]) else none
        | none => none
      | none => none
    | none => none
noncomputable def evs (C : Calls) (ρ : REnv) (σ : Store) : Exs → Option (List V × Store)
  | .nil => some ([], σ)
  | .cons e r => match ev C ρ σ e with
    | some (v, σ') => match evs C ρ σ' r with
      | some (vs, σ'') => some (v :: vs, σ'')
      | none => none
    | none => none
end

/-- a turn of a comprehension -/
noncomputable def cF (C : Calls) (ρ : REnv) (elt : Ex) (v : V) (τ : Store) : Option (Option V × Store) := match ev T C (ρ ++ [some v]) τ elt with | some (y, τ') => some (some y, τ') | none => none
noncomputable def cIf (C : Calls) (ρ : REnv) (cond elt : Ex) (v : V) (τ : Store) : Option (Option V × Store) := match ev T C (ρ ++ [some v]) τ cond with
  | some (.bool true, τ₁) => match ev T C (ρ ++ [some v]) τ₁ elt with | some (y, τ') => some (some y, τ') | none => none
  | some (.bool false, τ₁) => some (none, τ₁)
  | _ => none

section
variable (C : Calls)
noncomputable def evAug (o : Bop) (x y : V) (σ : Store) : Option (V × Store) := match o with
  | .add => orE (bInt (fun a b => some (.int (a + b), σ)) x y) (bStr (fun a b => if a.length + b.length ≤ LIM then some (.str (a ++ b), σ) else none) x y)
  | _ => none

/-- a loop's turns -/
noncomputable def exLoop (S : Src) (f : V → REnv → Store → Option (Fl × REnv × Store)) : Nat → Nat → REnv → Store → Option (Fl × REnv × Store)
  | 0, _, _, _ => none
  | k + 1, j, ρ, σ => match S.get j σ with
    | some (some x) => match f x ρ σ with
      | some (.next, ρ', σ') => exLoop S f k (j + 1) ρ' σ'
      | some (.brk, ρ', σ') => some (.next, ρ', σ')
      | some (.ret v, ρ', σ') => some (.ret v, ρ', σ')
      | none => none
    | some none => some (.next, ρ, σ)
    | none => none
noncomputable def exWhile (c : REnv → Store → Option (Bool × Store)) (f : REnv → Store → Option (Fl × REnv × Store)) : Nat → REnv → Store → Option (Fl × REnv × Store)
  | 0, _, _ => none
  | k + 1, ρ, σ => match c ρ σ with
    | some (true, σ') => match f ρ σ' with
      | some (.next, ρ', σ'') => exWhile c f k ρ' σ''
      | some (.brk, ρ', σ'') => some (.next, ρ', σ'')
      | some (.ret v, ρ', σ'') => some (.ret v, ρ', σ'')
      | none => none
    | some (false, σ') => some (.next, ρ, σ')
    | none => none
end
noncomputable def setAll : REnv → List Nat → List V → REnv
  | ρ, i :: is, v :: vs => setAll (ρ.set i (some v)) is vs
  | ρ, _, _ => ρ

mutual
noncomputable def ex (C : Calls) (ρ : REnv) (σ : Store) : St → Option (Fl × REnv × Store)
  | .expr e => match ev T C ρ σ e with
    | some (_, σ') => some (.next, ρ, σ')
    | none => none
  | .set i e => match ev T C ρ σ e with
    | some (v, σ') => some (.next, ρ.set i (some v), σ')
    | none => none
  | .unpack is e => match ev T C ρ σ e with
    | some (.tup vs, σ') => if vs.length = is.length then some (.next, setAll ρ is vs, σ') else none
    | some (.lst n, σ') => match σ'[n]? with
      | some vs => if vs.length = is.length then some (.next, setAll ρ is vs, σ') else none
      | none => none
    | _ => none
  | .setItem i k e => match ev T C ρ σ e with
    | some (v, σ₁) => match ρ[i]? with
      | some (some (.lst n)) => match ev T C ρ σ₁ k with
        | some (.int j, σ₂) => match σ₂[n]? with
          | some xs => if 0 ≤ j ∧ j.toNat < xs.length then some (.next, ρ, σ₂.set n (xs.set j.toNat v)) else none
          | none => none
        | _ => none
      | _ => none
    | none => none
  | .augItem i k o e => match ρ[i]? with
    | some (some (.lst n)) => match ev T C ρ σ k with
      | some (.int j, σ₁) => match σ₁[n]? with
        | some xs => match xs[j.toNat]? with
          | some old => match ev T C ρ σ₁ e with
            | some (v, σ₂) => match evAug o old v σ₂ with
              | some (r, σ₃) => match σ₃[n]? with
                | some ys => if 0 ≤ j ∧ j.toNat < xs.length ∧ j.toNat < ys.length then some (.next, ρ, σ₃.set n (ys.set j.toNat r)) else none
                | none => none
              | none => none
            | none => none
          | none => none
        | none => none
      | _ => none
    | _ => none
  | .aug i o e => match ρ[i]? with
    | some (some old) => match ev T C ρ σ e with
      | some (v, σ') => match evAug o old v σ' with
        | some (r, σ'') => some (.next, ρ.set i (some r), σ'')
        | none => none
      | none => none
    | _ => none
  | .ite c a b => match ev T C ρ σ c with
    | some (.bool true, σ') => exs C ρ σ' a
    | some (.bool false, σ') => exs C ρ σ' b
    | _ => none
  | .while c b => exWhile (fun ρ σ => match ev T C ρ σ c with | some (.bool x, σ') => some (x, σ') | _ => none) (fun ρ σ => exs C ρ σ b) TURNS ρ σ
  | .forIn i e b => match ev T C ρ σ e with
    | some (x, σ') => match srcOf x with
      | some S => exLoop S (fun v ρ σ => exs C (ρ.set i (some v)) σ b) S.fuel 0 ρ σ'
      | none => none
    | none => none
  | .ret e => match ev T C ρ σ e with
    | some (v, σ') => some (.ret v, ρ, σ')
    | none => none
  | .brk => some (.brk, ρ, σ)
  | .fail => none
noncomputable def exs (C : Calls) (ρ : REnv) (σ : Store) : Sts → Option (Fl × REnv × Store)
  | .nil => some (.next, ρ, σ)
  | .cons s r => match ex C ρ σ s with
    | some (.next, ρ', σ') => exs C ρ' σ' r
    | some (.brk, ρ', σ') => some (.brk, ρ', σ')
    | some (.ret v, ρ', σ') => some (.ret v, ρ', σ')
    | none => none
end

/-- a def: how many parameters, how many names, the body -/
structure Fn where
  np : Nat
  nl : Nat
  body : Sts
mutual
/-- no list of the store in it -/
noncomputable def noLst : V → Bool
  | .lst _ => false
  | .tup l => noLsts l
  | _ => true
noncomputable def noLsts : List V → Bool
  | [] => true
  | v :: vs => noLst v && noLsts vs
end
/-- what a call without lists brings back: a value, or a list of its own -/
noncomputable def giveBack (v : V) (σ' σ : Store) : Option (V × Store) := match v with
  | .lst n => match σ'[n]? with
    | some xs => if noLsts xs then some (.lst σ.length, σ ++ [xs]) else none
    | none => none
  | v => if noLst v then some (v, σ) else none
/-- calls, at most d deep; a call that is handed no list works in a store of its own -/
noncomputable def callD (fns : List Fn) : Nat → Calls
  | 0 => fun _ _ _ => none
  | d + 1 => fun f args σ => match fns[f]? with
    | some fn => if args.length = fn.np then
        if noLsts args then match exs T (callD fns d) (args.map some ++ List.replicate (fn.nl - fn.np) none) [] fn.body with
          | some (.ret v, _, σ') => giveBack v σ' σ
          | some (.next, _, _) => some (.none, σ)
          | _ => none
        else match exs T (callD fns d) (args.map some ++ List.replicate (fn.nl - fn.np) none) σ fn.body with
          | some (.ret v, _, σ') => some (v, σ')
          | some (.next, _, σ') => some (.none, σ')
          | _ => none
      else none
    | none => none
end Mine
end

section
open PySem PySem.W PyProof.Rows PySem.Calls
set_option Elab.async false
set_option linter.unusedVariables false
namespace Mine

noncomputable abbrev tupO (items : Array Value) : Obj := { cls := .type "tuple", data := .seq items }
mutual
inductive Rep (h₀ : Heap) (μ : List Addr) (h : Heap) : Value → V → Prop where
  | none : Rep h₀ μ h .none .none
  | bool (b : Bool) : Rep h₀ μ h (.bool b) (.bool b)
  | int (i : Int) (t : Tok) : Rep h₀ μ h (.int i t) (.int i)
  | str (l : List Nat) (t : Tok) : l.length ≤ LIM → Rep h₀ μ h (.str ⟨l.toArray⟩ t) (.str l)
  | tup {a : Addr} {items : List Value} {n : Nat} {l : List V} : h.get? a = some { cls := .type "tuple", dict := .none, data := .seq items.toArray n, slots := #[] } → items.length ≤ LIM → Reps h₀ μ h items l → Rep h₀ μ h (.ref a) (.tup l)
  | lst {a : Addr} {n : Nat} : μ[n]? = some a → Rep h₀ μ h (.ref a) (.lst n)
  | rng {r : Addr} {a b c : Int} {t u v : Tok} {n : Nat} : IsRange h r a b c t u v → Builtin.Range.small a b c = true → Builtin.Range.rangeSize a b c = n → Rep h₀ μ h (.ref r) (.rng a c n)
  | ro {a : Addr} {items : List Value} {l : List Int} : h₀.IsList a items.toArray → items.length ≤ LIM → IntsAre items l → Rep h₀ μ h (.ref a) (.ro l)
inductive Reps (h₀ : Heap) (μ : List Addr) (h : Heap) : List Value → List V → Prop where
  | nil : Reps h₀ μ h [] []
  | cons {v : Value} {x : V} {vs : List Value} {xs : List V} : Rep h₀ μ h v x → Reps h₀ μ h vs xs → Reps h₀ μ h (v :: vs) (x :: xs)
end

inductive IsStrR (v : Value) (l : List Nat) : Prop where
  | mk (t : Tok) : v = .str ⟨l.toArray⟩ t → l.length ≤ LIM → IsStrR v l
inductive IsTupR (h₀ : Heap) (μ : List Addr) (h : Heap) (v : Value) (l : List V) : Prop where
  | mk (a : Addr) (items : List Value) (n : Nat) : v = .ref a → h.get? a = some { cls := .type "tuple", dict := .none, data := .seq (List.toArray items) n, slots := #[] } → items.length ≤ LIM → Reps h₀ μ h items l → IsTupR h₀ μ h v l
inductive IsLstR (μ : List Addr) (v : Value) (n : Nat) : Prop where
  | mk (a : Addr) : v = .ref a → μ[n]? = some a → IsLstR μ v n
inductive IsRoR (h₀ : Heap) (v : Value) (l : List Int) : Prop where
  | mk (a : Addr) (items : List Value) : v = .ref a → h₀.IsList a (List.toArray items) → items.length ≤ LIM → IntsAre items l → IsRoR h₀ v l
inductive AtList (h₀ : Heap) (μ : List Addr) (h : Heap) (v : Value) (n : Nat) (xs : List V) : Prop where
  | mk (a : Addr) (items : List Value) (ep : Nat) : v = .ref a → μ[n]? = some a → h.get? a = some { cls := .type "list", dict := none, data := .seq (List.toArray items) ep, slots := #[] } → items.length ≤ LIM → Reps h₀ μ h items xs → AtList h₀ μ h v n xs
inductive InCons (h₀ : Heap) (μ : List Addr) (h : Heap) (vs : List Value) (x : V) (xs : List V) : Prop where
  | mk (w : Value) (ws : List Value) : vs = w :: ws → Rep h₀ μ h w x → Reps h₀ μ h ws xs → InCons h₀ μ h vs x xs
/-- what stands for a value -/
noncomputable def RepI (h₀ : Heap) (μ : List Addr) (h : Heap) (v : Value) : V → Prop
  | .none => v = .none
  | .bool b => v = .bool b
  | .int i => ∃ t, v = .int i t
  | .str l => IsStrR v l
  | .tup l => IsTupR h₀ μ h v l
  | .lst n => IsLstR μ v n
  | .rng a c n => ∃ r b t u w, v = .ref r ∧ IsRange h r a b c t u w ∧ Builtin.Range.small a b c = true ∧ Builtin.Range.rangeSize a b c = n
  | .ro l => IsRoR h₀ v l
theorem Rep.inv {h₀ : Heap} {μ : List Addr} {h : Heap} : ∀ {v : Value} {x : V}, Rep h₀ μ h v x → RepI h₀ μ h v x
  | _, _, .none => rfl
  | _, _, .bool b => rfl
  | _, _, .int i t => ⟨t, rfl⟩
  | _, _, .str l t hl => ⟨t, rfl, hl⟩
  | _, _, .tup hg hl hr => ⟨_, _, _, rfl, hg, hl, hr⟩
  | _, _, .rng a b c => ⟨_, _, _, _, _, rfl, a, b, c⟩
  | _, _, .lst e => ⟨_, rfl, e⟩
  | _, _, .ro a b c => ⟨_, _, rfl, a, b, c⟩
section
variable {h₀ h : Heap} {μ : List Addr} {v : Value}
theorem Rep.inv_none (r : Rep h₀ μ h v .none) : v = .none := r.inv
theorem Rep.inv_bool {b : Bool} (r : Rep h₀ μ h v (.bool b)) : v = .bool b := r.inv
theorem Rep.inv_int {i : Int} (r : Rep h₀ μ h v (.int i)) : ∃ t, v = .int i t := r.inv
theorem Rep.inv_str {l : List Nat} (r : Rep h₀ μ h v (.str l)) : IsStrR v l := r.inv
theorem Rep.inv_tup {l : List V} (r : Rep h₀ μ h v (.tup l)) : IsTupR h₀ μ h v l := r.inv
theorem Rep.inv_lst {n : Nat} (r : Rep h₀ μ h v (.lst n)) : IsLstR μ v n := r.inv
theorem Rep.inv_ro {l : List Int} (r : Rep h₀ μ h v (.ro l)) : IsRoR h₀ v l := r.inv
theorem Reps.inv_nil {vs : List Value} (r : Reps h₀ μ h vs []) : vs = [] := by cases r; rfl
theorem Reps.inv_cons {vs : List Value} {x : V} {xs : List V} (r : Reps h₀ μ h vs (x :: xs)) : InCons h₀ μ h vs x xs := by
  cases r with
  | cons a b => exact ⟨_, _, rfl, a, b⟩
end

section
variable {h₀ h : Heap} {μ : List Addr}
theorem Reps.length : ∀ {vs : List Value} {xs : List V}, Reps h₀ μ h vs xs → vs.length = xs.length
  | _, _, .nil => rfl
  | _, _, .cons _ r => by simp [Reps.length r]
theorem Reps.get : ∀ {vs : List Value} {xs : List V}, Reps h₀ μ h vs xs → ∀ {i : Nat} {x : V}, xs[i]? = some x → ∃ v, vs[i]? = some v ∧ Rep h₀ μ h v x
  | _, _, .nil, i, x, e => by simp at e
  | _, _, .cons a r, i, x, e => by
    cases i with
    | zero => simp at e; subst e; exact ⟨_, rfl, a⟩
    | succ i => simp at e; simpa using Reps.get r e
theorem Reps.append : ∀ {vs ws : List Value} {xs ys : List V}, Reps h₀ μ h vs xs → Reps h₀ μ h ws ys → Reps h₀ μ h (vs ++ ws) (xs ++ ys)
  | _, _, _, _, .nil, r => r
  | _, _, _, _, .cons a r, r' => .cons a (Reps.append r r')
theorem Reps.take : ∀ {vs : List Value} {xs : List V} (n : Nat), Reps h₀ μ h vs xs → Reps h₀ μ h (vs.take n) (xs.take n)
  | _, _, 0, _ => by simp; exact .nil
  | _, _, n + 1, .nil => by simp; exact .nil
  | _, _, n + 1, .cons a r => by simp; exact .cons a (Reps.take n r)
theorem Reps.drop : ∀ {vs : List Value} {xs : List V} (n : Nat), Reps h₀ μ h vs xs → Reps h₀ μ h (vs.drop n) (xs.drop n)
  | _, _, 0, r => by simpa using r
  | _, _, n + 1, .nil => by simp; exact .nil
  | _, _, n + 1, .cons a r => by simpa using Reps.drop n r
theorem Reps.set : ∀ {vs : List Value} {xs : List V} {v : Value} {x : V} (n : Nat), Reps h₀ μ h vs xs → Rep h₀ μ h v x → Reps h₀ μ h (vs.set n v) (xs.set n x)
  | _, _, _, _, _, .nil, _ => by simp; exact .nil
  | _, _, _, _, 0, .cons a r, b => .cons b r
  | _, _, _, _, n + 1, .cons a r, b => .cons a (Reps.set n r b)
theorem Reps.flatRep {vs : List Value} {xs : List V} (r : Reps h₀ μ h vs xs) : ∀ n : Nat, Reps h₀ μ h (List.replicate n vs).flatten (List.replicate n xs).flatten
  | 0 => .nil
  | n + 1 => by rw [List.replicate_succ, List.flatten_cons, List.replicate_succ, List.flatten_cons]; exact r.append (r.flatRep n)
end

/-- the store stands in the heap -/
structure SOk (h₀ : Heap) (μ : List Addr) (σ : Store) (h : Heap) : Prop where
  len : μ.length = σ.length
  nd : μ.Nodup
  fresh : ∀ a ∈ μ, h₀.get? a = none
  cell : ∀ {n : Nat} {xs : List V}, σ[n]? = some xs → ∃ a items ep, μ[n]? = some a ∧ h.get? a = some { cls := .type "list", dict := none, data := .seq (List.toArray items) ep, slots := #[] } ∧ items.length ≤ LIM ∧ Reps h₀ μ h items xs
  base : ∀ b o, h₀.get? b = some o → h.get? b = some o

theorem SOk.list {h₀ h : Heap} {μ : List Addr} {σ : Store} (S : SOk h₀ μ σ h) {n : Nat} {a : Addr} (ha : μ[n]? = some a) :
    ∃ xs items ep, σ[n]? = some xs ∧ h.get? a = some { cls := .type "list", dict := none, data := .seq (List.toArray items) ep, slots := #[] } ∧ items.length ≤ LIM ∧ Reps h₀ μ h items xs := by
  have hn : n < σ.length := by rw [← S.len]; exact (List.getElem?_eq_some_iff.mp ha).1
  obtain ⟨a', items, ep, e, hg, hl, hr⟩ := S.cell (List.getElem?_eq_getElem hn)
  rw [ha] at e; cases e
  exact ⟨_, items, ep, List.getElem?_eq_getElem hn, hg, hl, hr⟩
theorem Rep.at_list {h₀ h : Heap} {μ : List Addr} {σ : Store} {v : Value} {n : Nat} {xs : List V} (r : Rep h₀ μ h v (.lst n)) (S : SOk h₀ μ σ h) (e : σ[n]? = some xs) :
    AtList h₀ μ h v n xs := by
  obtain ⟨a, rfl, ha⟩ := r.inv_lst
  obtain ⟨a', items, ep, e', hg, hl, hr⟩ := S.cell e
  rw [ha] at e'
  obtain rfl := Option.some.inj e'
  exact ⟨a, items, ep, rfl, ha, hg, hl, hr⟩
theorem SOk.isList {h₀ h : Heap} {μ : List Addr} {σ : Store} (S : SOk h₀ μ σ h) {a : Addr} (ha : a ∈ μ) : ∃ o, h.get? a = some o ∧ o.cls = .type "list" := by
  obtain ⟨n, hn, e⟩ := List.getElem_of_mem ha
  obtain ⟨_, _, _, _, hg, _⟩ := S.list (n := n) (by rw [List.getElem?_eq_getElem hn, e])
  exact ⟨_, hg, rfl⟩

/-- what a step may do: old objects stay, but for the lists -/
structure Stp (μ μ' : List Addr) (s s' : Shared) : Prop where
  pre : ∃ ν, μ' = μ ++ ν ∧ ∀ a ∈ ν, s.heap.get? a = none
  keep : ∀ b o, s.heap.get? b = some o → b ∉ μ → s'.heap.get? b = some o
  live : ∀ b o, s.heap.get? b = some o → ∃ o', s'.heap.get? b = some o'
  gens : s'.gens = s.gens
  os : s'.os = s.os

theorem Stp.refl (μ : List Addr) (s : Shared) : Stp μ μ s s := ⟨⟨[], by simp, by simp⟩, fun _ _ h _ => h, fun _ _ h => ⟨_, h⟩, rfl, rfl⟩
theorem Stp.old {μ μ' : List Addr} {s s' : Shared} (a : Stp μ μ' s s') {c : Addr} (h : s'.heap.get? c = none) : s.heap.get? c = none := by
  cases e : s.heap.get? c with
  | none => rfl
  | some o => obtain ⟨o', e'⟩ := a.live _ _ e; rw [h] at e'; cases e'
theorem Stp.trans {μ μ' μ'' : List Addr} {s s' s'' : Shared} (a : Stp μ μ' s s') (b : Stp μ' μ'' s' s'') : Stp μ μ'' s s'' := by
  obtain ⟨ν, rfl, h1⟩ := a.pre
  obtain ⟨ν', rfl, h2⟩ := b.pre
  refine ⟨⟨ν ++ ν', by simp, fun x hx => ?_⟩, fun c o h hn => b.keep c o (a.keep c o h hn) fun hm => ?_, fun c o h => let ⟨o', h'⟩ := a.live c o h; b.live c o' h', b.gens.trans a.gens, b.os.trans a.os⟩
  · rcases List.mem_append.mp hx with hx | hx
    · exact h1 x hx
    · exact a.old (h2 x hx)
  · rcases List.mem_append.mp hm with hm | hm
    · exact hn hm
    · rw [h1 c hm] at h; cases h

/-- an object that never changes -/
noncomputable def Firm (o : Obj) : Prop := (o.cls = .type "tuple" ∧ ∃ xs n, o.data = .seq xs n) ∨ (o.cls = .type "range" ∧ ∃ xs, o.data = .fields xs)
theorem Firm.not_list {o : Obj} (f : Firm o) : ¬ o.cls = .type "list" := fun e => by
  rcases f with ⟨h, _⟩ | ⟨h, _⟩ <;> rw [e] at h <;> exact absurd (Value.type.inj h) (by decide)
/-! a value stands in a later heap, where the store has grown or the value has no list -/
mutual
theorem Rep.turn {h₀ h h' : Heap} {μ μ' : List Addr} (hk : ∀ b o, h.get? b = some o → Firm o → h'.get? b = some o) : ∀ {v : Value} {x : V}, Rep h₀ μ h v x → (noLst x = true ∨ ∀ (n : Nat) a, μ[n]? = some a → μ'[n]? = some a) → Rep h₀ μ' h' v x
  | _, _, .none, _ => .none
  | _, _, .bool b, _ => .bool b
  | _, _, .int i t, _ => .int i t
  | _, _, .str l t hl, _ => .str l t hl
  | _, _, .tup hg hl hr, c => .tup (hk _ _ hg (.inl ⟨rfl, _, _, rfl⟩)) hl (Reps.turn hk hr c)
  | _, _, .rng hg hs hn, _ => .rng (hk _ _ hg (.inr ⟨rfl, _, rfl⟩)) hs hn
  | _, _, .lst e, c => .lst (c.elim (fun e => Bool.noConfusion e) fun k => k _ _ e)
  | _, _, .ro hg hl hi, _ => .ro hg hl hi
theorem Reps.turn {h₀ h h' : Heap} {μ μ' : List Addr} (hk : ∀ b o, h.get? b = some o → Firm o → h'.get? b = some o) : ∀ {vs : List Value} {xs : List V}, Reps h₀ μ h vs xs → (noLsts xs = true ∨ ∀ (n : Nat) a, μ[n]? = some a → μ'[n]? = some a) → Reps h₀ μ' h' vs xs
  | _, _, .nil, _ => .nil
  | _, _, .cons a r, c => .cons (Rep.turn hk a (c.imp_left fun e => (Bool.and_eq_true_iff.mp e).1)) (Reps.turn hk r (c.imp_left fun e => (Bool.and_eq_true_iff.mp e).2))
end
theorem Rep.mono {h₀ h h' : Heap} {μ ν : List Addr} (hk : ∀ b o, h.get? b = some o → Firm o → h'.get? b = some o) {v : Value} {x : V} (r : Rep h₀ μ h v x) : Rep h₀ (μ ++ ν) h' v x :=
  r.turn hk (.inr fun n a e => by rw [List.getElem?_append_left (List.getElem?_eq_some_iff.mp e).1]; exact e)
theorem Reps.mono {h₀ h h' : Heap} {μ ν : List Addr} (hk : ∀ b o, h.get? b = some o → Firm o → h'.get? b = some o) {vs : List Value} {xs : List V} (r : Reps h₀ μ h vs xs) : Reps h₀ (μ ++ ν) h' vs xs :=
  r.turn hk (.inr fun n a e => by rw [List.getElem?_append_left (List.getElem?_eq_some_iff.mp e).1]; exact e)
theorem Rep.noLst' {h₀ h : Heap} {μ μ' : List Addr} {v : Value} {x : V} (r : Rep h₀ μ h v x) (e : noLst x = true) : Rep h₀ μ' h v x := r.turn (fun _ _ g _ => g) (.inl e)
theorem Reps.noLst' {h₀ h : Heap} {μ μ' : List Addr} {vs : List Value} {xs : List V} (r : Reps h₀ μ h vs xs) (e : noLsts xs = true) : Reps h₀ μ' h vs xs := r.turn (fun _ _ g _ => g) (.inl e)

theorem SOk.tupKeep {h₀ : Heap} {μ μ' : List Addr} {σ : Store} {s s' : Shared} (S : SOk h₀ μ σ s.heap) (p : Stp μ μ' s s') : ∀ b o, s.heap.get? b = some o → Firm o → s'.heap.get? b = some o := fun b o h hc =>
  p.keep b o h fun hm => by
    obtain ⟨o', h', hc'⟩ := S.isList hm
    rw [h] at h'; cases h'
    exact hc.not_list hc'
theorem Rep.step {h₀ : Heap} {μ μ' : List Addr} {σ : Store} {s s' : Shared} {v : Value} {x : V} (r : Rep h₀ μ s.heap v x) (S : SOk h₀ μ σ s.heap) (p : Stp μ μ' s s') : Rep h₀ μ' s'.heap v x := by
  have hk := S.tupKeep p
  obtain ⟨ν, rfl, _⟩ := p.pre
  exact r.mono hk
theorem Reps.step {h₀ : Heap} {μ μ' : List Addr} {σ : Store} {s s' : Shared} {vs : List Value} {xs : List V} (r : Reps h₀ μ s.heap vs xs) (S : SOk h₀ μ σ s.heap) (p : Stp μ μ' s s') : Reps h₀ μ' s'.heap vs xs := by
  have hk := S.tupKeep p
  obtain ⟨ν, rfl, _⟩ := p.pre
  exact r.mono hk

/-- a heap that only grew -/
theorem Stp.grown {μ : List Addr} {s : Shared} {h' : Heap} {t : Nat} (hk : ∀ b o, s.heap.get? b = some o → h'.get? b = some o) : Stp μ μ s { s with heap := h', toks := t } :=
  ⟨⟨[], by simp, by simp⟩, fun b o h _ => hk b o h, fun b o h => ⟨o, hk b o h⟩, rfl, rfl⟩
theorem Stp.tok {μ : List Addr} {s : Shared} {t : Nat} : Stp μ μ s { s with toks := t } := Stp.grown fun _ _ h => h
theorem Stp.push {μ : List Addr} {s : Shared} {o : Obj} {t : Nat} : Stp μ μ s { s with heap := s.heap.push o, toks := t } :=
  Stp.grown (fun b o' h => Heap.get?_push_of_some o h)

theorem SOk.grown {h₀ h h' : Heap} {μ : List Addr} {σ : Store} (S : SOk h₀ μ σ h) (hk : ∀ b o, h.get? b = some o → h'.get? b = some o) : SOk h₀ μ σ h' :=
  ⟨S.len, S.nd, S.fresh, fun e => by
    obtain ⟨a, items, ep, h1, h2, h3, h4⟩ := S.cell e
    have := h4.mono (ν := []) (fun b o h _ => hk b o h)
    rw [List.append_nil] at this
    exact ⟨a, items, ep, h1, hk _ _ h2, h3, this⟩, fun b o h => hk b o (S.base b o h)⟩
theorem Rep.grown {h₀ h h' : Heap} {μ : List Addr} {v : Value} {x : V} (r : Rep h₀ μ h v x) (hk : ∀ b o, h.get? b = some o → h'.get? b = some o) : Rep h₀ μ h' v x := by
  have := r.mono (ν := []) (h' := h') fun b o h _ => hk b o h
  rwa [List.append_nil] at this
theorem Reps.grown {h₀ h h' : Heap} {μ : List Addr} {v : List Value} {x : List V} (r : Reps h₀ μ h v x) (hk : ∀ b o, h.get? b = some o → h'.get? b = some o) : Reps h₀ μ h' v x := by
  have := r.mono (ν := []) (h' := h') fun b o h _ => hk b o h
  rwa [List.append_nil] at this
theorem free_size (h : Heap) : h.get? h.objs.size = none := by
  cases e : h.get? h.objs.size with
  | none => rfl
  | some o => exact absurd (Heap.lt_size e) (Nat.lt_irrefl _)
theorem SOk.free {h₀ h : Heap} {μ : List Addr} {σ : Store} (S : SOk h₀ μ σ h) {a : Addr} (e : h.get? a = none) : h₀.get? a = none := by
  cases e' : h₀.get? a with
  | none => rfl
  | some o => rw [S.base _ _ e'] at e; cases e

/-- a new list -/
theorem SOk.new {h₀ : Heap} {μ : List Addr} {σ : Store} {s : Shared} {items : List Value} {xs : List V} {t : Nat} (S : SOk h₀ μ σ s.heap) (r : Reps h₀ μ s.heap items xs) (hl : items.length ≤ LIM) :
    SOk h₀ (μ ++ [s.heap.objs.size]) (σ ++ [xs]) (s.heap.push { cls := .type "list", data := .seq items.toArray }) ∧
      Stp μ (μ ++ [s.heap.objs.size]) s { s with heap := s.heap.push { cls := .type "list", data := .seq items.toArray }, toks := t } ∧
      Rep h₀ (μ ++ [s.heap.objs.size]) (s.heap.push { cls := .type "list", data := .seq items.toArray }) (.ref s.heap.objs.size) (.lst σ.length) := by
  have hk : ∀ b o, s.heap.get? b = some o → (s.heap.push { cls := .type "list", data := .seq items.toArray }).get? b = some o := fun b o h => Heap.get?_push_of_some _ h
  have hn : s.heap.objs.size ∉ μ := fun hm => by
    obtain ⟨o, h, _⟩ := S.isList hm
    exact absurd (Heap.lt_size h) (Nat.lt_irrefl _)
  refine ⟨⟨by simp [S.len], ?_, fun a ha => ?_, fun {n ys} e => ?_, fun b o h => hk b o (S.base b o h)⟩, ⟨⟨_, rfl, fun a ha => ?_⟩, fun b o h _ => hk b o h, fun b o h => ⟨o, hk b o h⟩, rfl, rfl⟩, .lst ?_⟩
  · rw [List.nodup_append]
    exact ⟨S.nd, by simp, fun a ha b hb => by simp at hb; subst hb; exact fun e => hn (e ▸ ha)⟩
  · rcases List.mem_append.mp ha with ha | ha
    · exact S.fresh a ha
    · simp at ha; subst ha; exact S.free (free_size _)
  · rcases Nat.lt_trichotomy n σ.length with h | h | h
    · rw [List.getElem?_append_left h] at e
      obtain ⟨a, its, ep, h1, h2, h3, h4⟩ := S.cell e
      exact ⟨a, its, ep, by rw [List.getElem?_append_left (by rw [S.len]; exact h)]; exact h1, hk _ _ h2, h3, h4.mono fun b o h _ => hk b o h⟩
    · subst h
      simp at e; subst e
      exact ⟨s.heap.objs.size, items, 0, by rw [← S.len]; simp, Heap.get?_push_size _ rfl, hl, r.mono fun b o h _ => hk b o h⟩
    · rw [List.getElem?_eq_none (by simp; (first | lia | omega))] at e; cases e
  · simp at ha; subst ha; exact free_size _
  · rw [← S.len]; simp

/-- a new list somewhere in a heap that grew -/
theorem SOk.newAt {h₀ h' : Heap} {μ : List Addr} {σ : Store} {s : Shared} {a : Addr} {items : List Value} {xs : List V} {t ep : Nat} (S : SOk h₀ μ σ s.heap) (hk : ∀ b o, s.heap.get? b = some o → h'.get? b = some o) (hf : s.heap.get? a = none)
    (hg : h'.get? a = some { cls := .type "list", dict := none, data := .seq items.toArray ep, slots := #[] }) (r : Reps h₀ μ h' items xs) (hl : items.length ≤ LIM) :
    SOk h₀ (μ ++ [a]) (σ ++ [xs]) h' ∧ Stp μ (μ ++ [a]) s { s with heap := h', toks := t } ∧ Rep h₀ (μ ++ [a]) h' (.ref a) (.lst σ.length) := by
  have hn : a ∉ μ := fun hm => by
    obtain ⟨o, h, _⟩ := S.isList hm
    rw [hf] at h; cases h
  refine ⟨⟨by simp [S.len], ?_, fun b hb => ?_, fun {n ys} e => ?_, fun b o h => hk b o (S.base b o h)⟩, ⟨⟨_, rfl, fun b hb => ?_⟩, fun b o h _ => hk b o h, fun b o h => ⟨o, hk b o h⟩, rfl, rfl⟩, .lst ?_⟩
  · rw [List.nodup_append]
    exact ⟨S.nd, by simp, fun b hb c hc => by simp at hc; subst hc; exact fun e => hn (e ▸ hb)⟩
  · rcases List.mem_append.mp hb with hb | hb
    · exact S.fresh b hb
    · simp at hb; subst hb; exact S.free hf
  · rcases Nat.lt_trichotomy n σ.length with h | h | h
    · rw [List.getElem?_append_left h] at e
      obtain ⟨b, its, ep, h1, h2, h3, h4⟩ := S.cell e
      exact ⟨b, its, ep, by rw [List.getElem?_append_left (by rw [S.len]; exact h)]; exact h1, hk _ _ h2, h3, h4.mono fun b o h _ => hk b o h⟩
    · subst h
      simp at e; subst e
      exact ⟨a, items, ep, by rw [← S.len]; simp, hg, hl, r.mono fun b o h _ => h⟩
    · rw [List.getElem?_eq_none (by simp; (first | lia | omega))] at e; cases e
  · simp at hb; subst hb; exact hf
  · rw [← S.len]; simp
/-- a list changed -/
theorem SOk.put {h₀ : Heap} {μ : List Addr} {σ : Store} {s : Shared} {n : Nat} {a : Addr} {f : Array Value → Array Value} {items items' : List Value} {xs' : List V} {ep : Nat} {t : Nat} (S : SOk h₀ μ σ s.heap) (ha : μ[n]? = some a)
    (hg : s.heap.get? a = some { cls := .type "list", dict := none, data := .seq items.toArray ep, slots := #[] }) (hf : f items.toArray = items'.toArray) (r : Reps h₀ μ s.heap items' xs') (hl : items'.length ≤ LIM) :
    SOk h₀ μ (σ.set n xs') (s.heap.update a (Obj.mapSeq f)) ∧ Stp μ μ s { s with heap := s.heap.update a (Obj.mapSeq f), toks := t } := by
  have hm : a ∈ μ := List.mem_of_getElem? ha
  have hsb : Heap.SameBut a s.heap (s.heap.update a (Obj.mapSeq f)) := Heap.SameBut.update ..
  have hk : ∀ b o, s.heap.get? b = some o → b ≠ a → (s.heap.update a (Obj.mapSeq f)).get? b = some o := fun b o h hne => (hsb.2 b hne).trans h
  have hself : (s.heap.update a (Obj.mapSeq f)).get? a = some { cls := .type "list", dict := none, data := .seq items'.toArray (if items'.toArray.size == items.toArray.size then ep else ep + 1), slots := #[] } := by
    rw [← hf]; exact Heap.get?_update_self (Obj.mapSeq f) hg rfl
  have htup : ∀ b o, s.heap.get? b = some o → Firm o → (s.heap.update a (Obj.mapSeq f)).get? b = some o := fun b o h hc => hk b o h fun e => by
    subst e; rw [hg] at h; cases h; exact hc.not_list rfl
  have mono : ∀ {its : List Value} {ys : List V}, Reps h₀ μ s.heap its ys → Reps h₀ μ (s.heap.update a (Obj.mapSeq f)) its ys := fun r => by
    have := r.mono (ν := []) htup
    rwa [List.append_nil] at this
  refine ⟨⟨by simp [S.len], S.nd, S.fresh, fun {k ys} e => ?_, fun b o h => hk b o (S.base b o h) fun e => ?_⟩, ⟨⟨[], by simp, by simp⟩, fun b o h hn => hk b o h fun e => hn (e ▸ hm), fun b o h => ?_, rfl, rfl⟩⟩
  · by_cases hkn : n = k
    · subst hkn
      have hlt : n < σ.length := by rw [← S.len]; exact (List.getElem?_eq_some_iff.mp ha).1
      rw [List.getElem?_set_self hlt] at e
      cases e
      exact ⟨a, items', _, ha, hself, hl, mono r⟩
    · rw [List.getElem?_set_ne hkn] at e
      obtain ⟨b, its, ep', h1, h2, h3, h4⟩ := S.cell e
      refine ⟨b, its, ep', h1, hk b _ h2 fun e => ?_, h3, mono h4⟩
      subst e
      exact hkn ((List.getElem?_inj (List.getElem?_eq_some_iff.mp ha).1 S.nd).mp (ha.trans h1.symm))
  · have h1 := S.fresh a hm
    rw [e] at h; rw [h] at h1; cases h1
  · by_cases e : b = a
    · subst e; exact ⟨_, hself⟩
    · exact ⟨o, hk b o h e⟩
end Mine
end

section
open PySem PySem.W PyProof.Rows PySem.Calls
set_option Elab.async false
set_option linter.unusedVariables false
namespace Mine

/-- what stands ahead of the law's call -/
structure Base where
  prog : Program
  w : World
  T : Tabs
  h₀ : Heap
  mg : Str → Option Value
  mb : Str → Option Value
  /-- where the functions stand -/
  at' : Nat → Option Addr

/-- what may be asked of a value's making -/
noncomputable def Out (B : Base) (μ : List Addr) (s : Shared) (σ' : Store) (v : V) (Q : Value → Shared → Prop) : Prop := ∀ v' s' μ', SOk B.h₀ μ' σ' s'.heap → Stp μ μ' s s' → Rep B.h₀ μ' s'.heap v' v → Q v' s'
/-- the names of a block: what the scope says, and which slot a name has -/
structure Cx where
  scope : Scope
  slot : List (Str × Nat)
  n : Nat

/-- a name's value -/
inductive Held (h₀ : Heap) (cx : Cx) (env : Env) (μ : List Addr) (h : Heap) (m : Str → Option Value) (n : Str) (v : V) : Prop where
  | loc {v' : Value} : cx.scope.names.lookup n = some .local → m n = some v' → Rep h₀ μ h v' v → Held h₀ cx env μ h m n v
  | cel {c : Addr} {v' : Value} : cx.scope.names.lookup n = some .cell → env.cells.lookup n = some c → h.IsCell c (some v') → Rep h₀ μ h v' v → Held h₀ cx env μ h m n v

structure FrOk (h₀ : Heap) (cx : Cx) (env : Env) (ρ : REnv) (μ : List Addr) (h : Heap) : Prop where
  sc : env.scope = cx.scope
  fk : cx.scope.kind = .function
  gl : env.globals = mainGlobals
  bl : env.builtins = builtinsNs
  len : ρ.length = cx.n
  nsm : ∃ m, h.Ns env.locals m ∧ ∀ n i v, cx.slot.lookup n = some i → ρ[i]? = some (some v) → Held h₀ cx env μ h m n v
  own : env.locals ∉ μ ∧ h₀.get? env.locals = none
  cel : ∀ n c, (n, c) ∈ env.cells → c ∉ μ ∧ h₀.get? c = none ∧ c ≠ env.locals ∧ ∃ v, h.IsCell c v
  apart : ∀ n n' c, (n, c) ∈ env.cells → (n', c) ∈ env.cells → n = n'
  hasc : ∀ n, cx.scope.names.lookup n = some .cell → ∃ c, env.cells.lookup n = some c

structure Rm (A : Around) (d : Nat) : Prop where
  hd : A.handled = none
  dep : A.depth + d < recursionLimit
  un : A.units + 3 * d + 100 < cLine

noncomputable def CallsOk (B : Base) (C : Calls) (d : Nat) : Prop :=
  ∀ (f : Nat) (a : Addr) (vs : List V) (σ : Store) (v : V) (σ' : Store), B.at' f = some a → C f vs σ = some (v, σ') →
    ∀ (A : Around) (μ : List Addr) (s : Shared) (vs' : List Value), Rm A d → SOk B.h₀ μ σ s.heap → s.gens = #[] → Reps B.h₀ μ s.heap vs' vs →
    ∀ (Q : Value → Shared → Prop) (E : Value → Shared → Prop), Out B μ s σ' v Q →
    wpAny (model B.prog B.w) A (call (.ref a) vs') Q E s

/-- where an expression stands -/
structure Sit (B : Base) (C : Calls) (A : Around) (cx : Cx) (env : Env) (ρ : REnv) (μ : List Addr) (σ : Store) (s : Shared) : Prop where
  S : SOk B.h₀ μ σ s.heap
  F : FrOk B.h₀ cx env ρ μ s.heap
  gens : s.gens = #[]
  R : Rm A 0
  calls : ∀ (f : Nat) (a : Addr) (vs : List V) (σ : Store) (v : V) (σ' : Store), B.at' f = some a → C f vs σ = some (v, σ') →
    ∀ (μ : List Addr) (s : Shared) (vs' : List Value), SOk B.h₀ μ σ s.heap → s.gens = #[] → Reps B.h₀ μ s.heap vs' vs →
    ∀ (Q : Value → Shared → Prop) (E : Value → Shared → Prop), Out B μ s σ' v Q →
    wpAny (model B.prog B.w) A (call (.ref a) vs') Q E s

noncomputable def OutE (B : Base) (C : Calls) (A : Around) (cx : Cx) (env : Env) (ρ : REnv) (μ : List Addr) (s : Shared) (σ' : Store) (v : V) (Q : Value → Shared → Prop) : Prop := ∀ v' s' μ', Sit B C A cx env ρ μ' σ' s' → Stp μ μ' s s' → Rep B.h₀ μ' s'.heap v' v → Q v' s'
noncomputable def OutT (B : Base) (C : Calls) (A : Around) (cx : Cx) (env : Env) (ρ : REnv) (μ : List Addr) (s : Shared) (σ' : Store) (b : Bool) (Q : Bool → Shared → Prop) : Prop := ∀ s' μ', Sit B C A cx env ρ μ' σ' s' → Stp μ μ' s s' → Q b s'
noncomputable def OutL (B : Base) (C : Calls) (A : Around) (cx : Cx) (env : Env) (ρ : REnv) (μ : List Addr) (s : Shared) (σ' : Store) (vs : List V) (Q : List Value → Shared → Prop) : Prop := ∀ vs' s' μ', Sit B C A cx env ρ μ' σ' s' → Stp μ μ' s s' → Reps B.h₀ μ' s'.heap vs' vs → Q vs' s'
theorem Stp.mem {μ μ' : List Addr} {s s' : Shared} (p : Stp μ μ' s s') {a : Addr} {o : Obj} (hl : s.heap.get? a = some o) (ha : a ∉ μ) : a ∉ μ' := by
  obtain ⟨ν, rfl, h⟩ := p.pre
  intro hm
  rcases List.mem_append.mp hm with hm | hm
  · exact ha hm
  · rw [h a hm] at hl; cases hl

theorem FrOk.step {h₀ : Heap} {cx : Cx} {env : Env} {ρ : REnv} {μ μ' : List Addr} {σ : Store} {s s' : Shared} (F : FrOk h₀ cx env ρ μ s.heap) (S : SOk h₀ μ σ s.heap) (p : Stp μ μ' s s') : FrOk h₀ cx env ρ μ' s'.heap := by
  obtain ⟨m, hn, hv⟩ := F.nsm
  have hn' : s'.heap.Ns env.locals m := hn.at' fun o e => p.keep _ o e F.own.1
  have hc : ∀ n c v, (n, c) ∈ env.cells → s.heap.IsCell c v → s'.heap.IsCell c v := fun n c v hm ⟨o, ho, hd⟩ => ⟨o, p.keep _ o ho (F.cel n c hm).1, hd⟩
  refine ⟨F.sc, F.fk, F.gl, F.bl, F.len, ⟨m, hn', fun n i v hs hr => ?_⟩, ⟨?_, F.own.2⟩, fun n c hm => ?_, F.apart, F.hasc⟩
  · cases hv n i v hs hr with
    | loc h1 h2 h3 => exact .loc h1 h2 (h3.step S p)
    | cel h1 h2 h3 h4 => exact .cel h1 h2 (hc n _ _ (mem_of_lookup h2) h3) (h4.step S p)
  · obtain ⟨o, _, _, ho, _⟩ := hn
    exact p.mem ho F.own.1
  · obtain ⟨h1, h2, h3, v, hv⟩ := F.cel n c hm
    exact ⟨p.mem hv.choose_spec.1 h1, h2, h3, v, hc n c v hm hv⟩

section
variable {B : Base} {C : Calls} {A : Around} {cx : Cx} {env : Env} {ρ : REnv} {μ μ' : List Addr} {σ σ' : Store} {s s' : Shared}
theorem Sit.go (X : Sit B C A cx env ρ μ σ s) (S' : SOk B.h₀ μ' σ' s'.heap) (p : Stp μ μ' s s') : Sit B C A cx env ρ μ' σ' s' :=
  ⟨S', X.F.step X.S p, p.gens.trans X.gens, X.R, X.calls⟩
/-- the heap only grew, and so did the tokens -/
theorem Sit.grown (X : Sit B C A cx env ρ μ σ s) {h' : Heap} {t : Nat} (hk : ∀ b o, s.heap.get? b = some o → h'.get? b = some o) : Sit B C A cx env ρ μ σ { s with heap := h', toks := t } :=
  X.go (X.S.grown hk) (Stp.grown hk)
end

noncomputable abbrev SndE (B : Base) (cx : Cx) (e : Expr) (c : Ex) : Prop :=
  ∀ {C : Calls} {A : Around} {env : Env} {ρ : REnv} {μ : List Addr} {σ : Store} {s : Shared}, Sit B C A cx env ρ μ σ s → ∀ {v : V} {σ' : Store}, ev B.T C ρ σ c = some (v, σ') →
  ∀ {Q : Value → Shared → Prop} {E : Value → Shared → Prop}, OutE B C A cx env ρ μ s σ' v Q →
  wpAny (model B.prog B.w) A (eval e env) Q E s
/-- the same, as a condition -/
noncomputable abbrev SndT (B : Base) (cx : Cx) (e : Expr) (c : Ex) : Prop :=
  ∀ {C : Calls} {A : Around} {env : Env} {ρ : REnv} {μ : List Addr} {σ : Store} {s : Shared}, Sit B C A cx env ρ μ σ s → ∀ {b : Bool} {σ' : Store}, ev B.T C ρ σ c = some (.bool b, σ') →
  ∀ {Q : Bool → Shared → Prop} {E : Value → Shared → Prop}, OutT B C A cx env ρ μ s σ' b Q →
  wpAny (model B.prog B.w) A (isTrue e env (eval e env)) Q E s
/-- both -/
noncomputable abbrev Snd (B : Base) (cx : Cx) (e : Expr) (c : Ex) : Prop := SndE B cx e c ∧ SndT B cx e c

section
variable {B : Base} {cx : Cx}

theorem snd_of {e : Expr} {c : Ex} (h : SndE B cx e c) (he : ∀ env, isTrue e env (eval e env) = (do let v ← eval e env; standAt e.pos; holding [v] (truthy v))) : Snd B cx e c :=
  ⟨h, fun X => fun hev => fun hQ => by
    refine isTrue_plain (h X hev fun v' s' μ' X' p r => ?_) (he _)
    cases r
    exact wpAny_truthy_bool (hQ _ _ X' p)⟩

theorem snd_int (i : Int) (k : Nat) (p : Pos) : Snd B cx (.Constant (.int i) k p) (.int i) :=
  snd_of (fun X => fun hev => fun hQ => by
    cases hev
    exact wpAny_Constant_int (hQ _ _ _ (X.grown fun _ _ h => h) .tok (.int _ _))) fun _ => rfl
theorem snd_str (l : List Nat) (hl : l.length ≤ LIM) (k : Nat) (p : Pos) : Snd B cx (.Constant (.str ⟨l.toArray⟩) k p) (.str l) :=
  snd_of (fun X => fun hev => fun hQ => by
    cases hev
    exact Constant_str (hQ _ _ _ (X.grown fun _ _ h => h) .tok (.str _ _ hl))) fun _ => rfl
theorem snd_bool (b : Bool) (k : Nat) (p : Pos) : Snd B cx (.Constant (.bool b) k p) (.bool b) :=
  snd_of (fun X => fun hev => fun hQ => by
    cases hev
    exact Constant_bool (hQ _ _ _ X (.refl _ _) (.bool _))) fun _ => rfl
theorem snd_none (k : Nat) (p : Pos) : Snd B cx (.Constant .none k p) .none :=
  snd_of (fun X => fun hev => fun hQ => by
    cases hev
    exact Constant_none (hQ _ _ _ X (.refl _ _) .none)) fun _ => rfl

theorem FrOk.kindOf {h₀ : Heap} {env : Env} {ρ : REnv} {μ : List Addr} {h : Heap} (F : FrOk h₀ cx env ρ μ h) (n : Str) : env.kindOf n = cx.scope.names.lookup n := by
  show env.scope.names.lookup n = _
  rw [F.sc]

/-- a name of the block's own -/
theorem load_name {n : Str} {i : Nat} (hs : cx.slot.lookup n = some i) {C : Calls} {A : Around} {env : Env} {ρ : REnv} {μ : List Addr} {σ : Store} {s : Shared} (X : Sit B C A cx env ρ μ σ s) {v : V}
    (hv : ρ[i]? = some (some v)) {Q : Value → Shared → Prop} {E : Value → Shared → Prop} (hQ : ∀ v', Rep B.h₀ μ s.heap v' v → Q v' s) : wpAny (model B.prog B.w) A (loadName env n) Q E s := by
  obtain ⟨m, hn, hm⟩ := X.F.nsm
  have hfk : env.scope.kind = .function := by rw [X.F.sc]; exact X.F.fk
  cases hm n i v hs hv with
  | loc h1 h2 h3 => exact wpAny_loadName_local hfk ((X.F.kindOf n).trans h1) hn h2 (hQ _ h3)
  | cel h1 h2 h3 h4 => exact wpAny_loadName_cell hfk ((X.F.kindOf n).trans h1) h2 h3 (hQ _ h4)
theorem snd_var {n : Str} {i : Nat} (hs : cx.slot.lookup n = some i) (hd : (n == ("__debug__" : Str)) = false) (p : Pos) : Snd B cx (.Name n p) (.var i) :=
  snd_of (fun {C A env ρ μ σ s} X {v σ'} hev {Q E} hQ => by
    simp only [ev] at hev
    split at hev
    · rename_i x hx
      cases hev
      exact wpAny_Name (load_name hs X hx fun v' r => hQ _ _ _ X (.refl _ _) r) hd
    · cases hev) fun _ => rfl

noncomputable abbrev OpB (B : Base) (o : Bop) (t : Value → Value → Sem Value) : Prop :=
  ∀ {A : Around} {μ : List Addr} {σ : Store} {s : Shared} {x' y' : Value} {x y v : V} {σ' : Store}, Rm A 0 → SOk B.h₀ μ σ s.heap → Rep B.h₀ μ s.heap x' x → Rep B.h₀ μ s.heap y' y → evB o x y σ = some (v, σ') →
  ∀ {Q : Value → Shared → Prop} {E : Value → Shared → Prop}, Out B μ s σ' v Q → wpAny (model B.prog B.w) A (t x' y') Q E s
noncomputable abbrev OpU (B : Base) (o : Uop) (t : Value → Sem Value) : Prop :=
  ∀ {A : Around} {μ : List Addr} {σ : Store} {s : Shared} {x' : Value} {x v : V} {σ' : Store}, Rm A 0 → SOk B.h₀ μ σ s.heap → Rep B.h₀ μ s.heap x' x → evU B.T o x σ = some (v, σ') →
  ∀ {Q : Value → Shared → Prop} {E : Value → Shared → Prop}, Out B μ s σ' v Q → wpAny (model B.prog B.w) A (t x') Q E s

inductive EvBin (T : Tabs) (C : Calls) (ρ : REnv) (σ σ' : Store) (o : Bop) (a b : Ex) (v : V) : Prop where
  | mk (x : V) (σ₁ : Store) (y : V) (σ₂ : Store) : ev T C ρ σ a = some (x, σ₁) → ev T C ρ σ₁ b = some (y, σ₂) → evB o x y σ₂ = some (v, σ') → EvBin T C ρ σ σ' o a b v
inductive EvUn (T : Tabs) (C : Calls) (ρ : REnv) (σ σ' : Store) (o : Uop) (a : Ex) (v : V) : Prop where
  | mk (x : V) (σ₁ : Store) : ev T C ρ σ a = some (x, σ₁) → evU T o x σ₁ = some (v, σ') → EvUn T C ρ σ σ' o a v
theorem ev_bin {T : Tabs} {C : Calls} {ρ : REnv} {σ σ' : Store} {o : Bop} {a b : Ex} {v : V} (h : ev T C ρ σ (.bin o a b) = some (v, σ')) :
    EvBin T C ρ σ σ' o a b v := by
  simp only [ev] at h
  split at h
  · rename_i x σ₁ h1
    split at h
    · rename_i y σ₂ h2
      exact ⟨x, σ₁, y, σ₂, h1, h2, h⟩
    · first | exact noSome h | cases h
  · first | exact noSome h | cases h
theorem ev_un {T : Tabs} {C : Calls} {ρ : REnv} {σ σ' : Store} {o : Uop} {a : Ex} {v : V} (h : ev T C ρ σ (.un o a) = some (v, σ')) :
    EvUn T C ρ σ σ' o a v := by
  simp only [ev] at h
  split at h
  · rename_i x σ₁ h1
    exact ⟨x, σ₁, h1, h⟩
  · first | exact noSome h | cases h

/-- two values, one after the other -/
theorem two {a b : Expr} {a' b' : Ex} (ha : SndE B cx a a') (hb : SndE B cx b b') {C : Calls} {A : Around} {env : Env} {ρ : REnv} {μ : List Addr} {σ σ₁ σ₂ : Store} {s : Shared} (X : Sit B C A cx env ρ μ σ s) {x y : V}
    (h1 : ev B.T C ρ σ a' = some (x, σ₁)) (h2 : ev B.T C ρ σ₁ b' = some (y, σ₂)) {Q : Value → Value → Shared → Prop} {E : Value → Shared → Prop}
    (hQ : ∀ x' y' s' μ', Sit B C A cx env ρ μ' σ₂ s' → Stp μ μ' s s' → Rep B.h₀ μ' s'.heap x' x → Rep B.h₀ μ' s'.heap y' y → Q x' y' s') :
    wpAny (model B.prog B.w) A (eval a env) (fun v s₁ => wpAny (model B.prog B.w) A (eval b env) (fun u s₂ => Q v u s₂) E s₁) E s :=
  ha X h1 fun x' s₁ μ₁ X₁ p₁ r₁ => hb X₁ h2 fun y' s₂ μ₂ X₂ p₂ r₂ => hQ _ _ _ _ X₂ (p₁.trans p₂) (r₁.step X₁.S p₂) r₂

theorem snd_binop {a b : Expr} {a' b' : Ex} {o : Bop} {op : Operator} (ha : Snd B cx a a') (hb : Snd B cx b b') (ho : OpB B o (binaryOp op)) (p : Pos) : Snd B cx (.BinOp a op b p) (.bin o a' b') :=
  snd_of (fun X => fun hev => fun hQ => by
    obtain ⟨x, σ₁, y, σ₂, h1, h2, h3⟩ := ev_bin hev
    exact wpAny_BinOp (two ha.1 hb.1 X h1 h2 fun x' y' s' μ' X' p' r r' => ho X'.R X'.S r r' h3 fun v' s'' μ'' S'' p'' r'' => hQ _ _ _ (X'.go S'' p'') (p'.trans p'') r'')) fun _ => rfl
theorem snd_cmp {a b : Expr} {a' b' : Ex} {o : Bop} {op : CmpOp} (ha : Snd B cx a a') (hb : Snd B cx b b') (ho : OpB B o (compareOp op)) (hm : behindInMarks op b = false) (p : Pos) :
    Snd B cx (.Compare a [op] [b] p) (.bin o a' b') :=
  ⟨fun X => fun hev => fun hQ => by
    obtain ⟨x, σ₁, y, σ₂, h1, h2, h3⟩ := ev_bin hev
    exact wpAny_Compare1 (two ha.1 hb.1 X h1 h2 fun x' y' s' μ' X' p' r r' => ho X'.R X'.S r r' h3 fun v' s'' μ'' S'' p'' r'' => hQ _ _ _ (X'.go S'' p'') (p'.trans p'') r'') hm,
   fun X => fun hev => fun hQ => by
    obtain ⟨x, σ₁, y, σ₂, h1, h2, h3⟩ := ev_bin hev
    refine wpAny_isTrue_Compare1 (two ha.1 hb.1 X h1 h2 fun x' y' s' μ' X' p' r r' => ho X'.R X'.S r r' h3 fun v' s'' μ'' S'' p'' r'' => ?_) hm
    cases r''
    exact wpAny_truthy_bool (hQ _ _ (X'.go S'' p'') (p'.trans p''))⟩
/-- a comparison that looks into a table -/
theorem snd_cmpU {a b : Expr} {a' : Ex} {o : Uop} {op : CmpOp} (ha : Snd B cx a a') (hb : ∀ {C : Calls} {A : Around} {env : Env} {ρ : REnv} {μ : List Addr} {σ : Store} {s : Shared}, Sit B C A cx env ρ μ σ s → ∀ {Q : Value → Shared → Prop} {E : Value → Shared → Prop} {x' : Value} {x v : V} {σ' : Store},
      Rep B.h₀ μ s.heap x' x → evU B.T o x σ = some (v, σ') → Out B μ s σ' v Q →
      wpAny (model B.prog B.w) A (eval b env) (fun y' s' => wpAny (model B.prog B.w) A (compareOp op x' y') Q E s') E s) (hm : behindInMarks op b = false) (p : Pos) :
    Snd B cx (.Compare a [op] [b] p) (.un o a') :=
  ⟨fun X => fun hev => fun hQ => by
    obtain ⟨x, σ₁, h1, h3⟩ := ev_un hev
    exact wpAny_Compare1 (ha.1 X h1 fun x' s' μ' X' p' r => hb X' r h3 fun v' s'' μ'' S'' p'' r'' => hQ _ _ _ (X'.go S'' p'') (p'.trans p'') r'') hm,
   fun X => fun hev => fun hQ => by
    obtain ⟨x, σ₁, h1, h3⟩ := ev_un hev
    refine wpAny_isTrue_Compare1 (ha.1 X h1 fun x' s' μ' X' p' r => hb X' r h3 fun v' s'' μ'' S'' p'' r'' => ?_) hm
    cases r''
    exact wpAny_truthy_bool (hQ _ _ (X'.go S'' p'') (p'.trans p''))⟩
theorem snd_unop {a : Expr} {a' : Ex} {o : Uop} {op : UnaryOp} (ha : Snd B cx a a') (ho : OpU B o (unaryOp op)) (p : Pos) (hop : op ≠ .Not) : Snd B cx (.UnaryOp op a p) (.un o a') :=
  snd_of (fun X => fun hev => fun hQ => by
    obtain ⟨x, σ₁, h1, h3⟩ := ev_un hev
    exact UnaryOp_ (ha.1 X h1 fun x' s' μ' X' p' r => ho X'.R X'.S r h3 fun v' s'' μ'' S'' p'' r'' => hQ _ _ _ (X'.go S'' p'') (p'.trans p'') r'')) fun _ => by cases op <;> first | rfl | exact absurd rfl hop

theorem ev_not {T : Tabs} {C : Calls} {ρ : REnv} {σ σ' : Store} {a : Ex} {v : V} (h : ev T C ρ σ (.not a) = some (v, σ')) : ∃ b, ev T C ρ σ a = some (.bool b, σ') ∧ v = .bool (!b) := by
  simp only [ev] at h
  split at h
  · rename_i b σ₁ h1
    cases h; exact ⟨b, h1, rfl⟩
  · first | exact noSome h | cases h
theorem snd_not {a : Expr} {a' : Ex} (ha : Snd B cx a a') (p : Pos) : Snd B cx (.UnaryOp .Not a p) (.not a') :=
  ⟨fun X => fun hev => fun hQ => by
    obtain ⟨b, h1, rfl⟩ := ev_not hev
    refine UnaryOp_ (ha.1 X h1 fun x' s' μ' X' p' r => ?_)
    cases r
    exact not_of (wpAny_truthy_bool (hQ _ _ _ X' p' (.bool _))),
   fun X => fun hev => fun hQ => by
    obtain ⟨b, h1, e⟩ := ev_not hev
    cases e
    exact isTrue_not (ha.2 X h1 fun s' μ' X' p' => hQ _ _ X' p')⟩

theorem ev_and {T : Tabs} {C : Calls} {ρ : REnv} {σ σ' : Store} {a b : Ex} {v : V} (h : ev T C ρ σ (.and a b) = some (v, σ')) :
    (∃ σ₁ c, ev T C ρ σ a = some (.bool true, σ₁) ∧ ev T C ρ σ₁ b = some (.bool c, σ') ∧ v = .bool c) ∨ (ev T C ρ σ a = some (.bool false, σ') ∧ v = .bool false) := by
  simp only [ev] at h
  split at h
  · rename_i σ₁ h1
    split at h
    · rename_i c σ₂ h2; cases h; exact .inl ⟨_, _, h1, h2, rfl⟩
    · first | exact noSome h | cases h
  · rename_i σ₁ h1; cases h; exact .inr ⟨h1, rfl⟩
  · first | exact noSome h | cases h
theorem ev_or {T : Tabs} {C : Calls} {ρ : REnv} {σ σ' : Store} {a b : Ex} {v : V} (h : ev T C ρ σ (.or a b) = some (v, σ')) :
    (∃ σ₁ c, ev T C ρ σ a = some (.bool false, σ₁) ∧ ev T C ρ σ₁ b = some (.bool c, σ') ∧ v = .bool c) ∨ (ev T C ρ σ a = some (.bool true, σ') ∧ v = .bool true) := by
  simp only [ev] at h
  split at h
  · rename_i σ₁ h1
    split at h
    · rename_i c σ₂ h2; cases h; exact .inl ⟨_, _, h1, h2, rfl⟩
    · first | exact noSome h | cases h
  · rename_i σ₁ h1; cases h; exact .inr ⟨h1, rfl⟩
  · first | exact noSome h | cases h
theorem snd_and {a b : Expr} {rest : List Expr} {a' b' : Ex} {p : Pos} (ha : Snd B cx a a') (hb : Snd B cx (.BoolOp .And (b :: rest) p) b') : Snd B cx (.BoolOp .And (a :: b :: rest) p) (.and a' b') :=
  ⟨fun X => fun hev => fun hQ => by
    refine BoolOp_and ?_
    rcases ev_and hev with ⟨σ₁, c, h1, h2, rfl⟩ | ⟨h1, rfl⟩
    · refine ha.1 X h1 fun x' s' μ' X' p' r => ?_
      cases r
      exact wpAny_truthy_bool (hb.1 X' h2 fun v' s'' μ'' X'' p'' r'' => hQ _ _ _ X'' (p'.trans p'') r'')
    · refine ha.1 X h1 fun x' s' μ' X' p' r => ?_
      cases r
      exact wpAny_truthy_bool (hQ _ _ _ X' p' (.bool _)),
   fun X => fun hev => fun hQ => by
    refine isTrue_and ?_
    rcases ev_and hev with ⟨σ₁, c, h1, h2, e⟩ | ⟨h1, e⟩ <;> cases e
    · exact ha.2 X h1 fun s' μ' X' p' => hb.2 X' h2 fun s'' μ'' X'' p'' => hQ _ _ X'' (p'.trans p'')
    · exact ha.2 X h1 fun s' μ' X' p' => hQ _ _ X' p'⟩
theorem snd_or {a b : Expr} {rest : List Expr} {a' b' : Ex} {p : Pos} (ha : Snd B cx a a') (hb : Snd B cx (.BoolOp .Or (b :: rest) p) b') : Snd B cx (.BoolOp .Or (a :: b :: rest) p) (.or a' b') :=
  ⟨fun X => fun hev => fun hQ => by
    refine BoolOp_or ?_
    rcases ev_or hev with ⟨σ₁, c, h1, h2, rfl⟩ | ⟨h1, rfl⟩
    · refine ha.1 X h1 fun x' s' μ' X' p' r => ?_
      cases r
      exact wpAny_truthy_bool (hb.1 X' h2 fun v' s'' μ'' X'' p'' r'' => hQ _ _ _ X'' (p'.trans p'') r'')
    · refine ha.1 X h1 fun x' s' μ' X' p' r => ?_
      cases r
      exact wpAny_truthy_bool (hQ _ _ _ X' p' (.bool _)),
   fun X => fun hev => fun hQ => by
    refine isTrue_or ?_
    rcases ev_or hev with ⟨σ₁, c, h1, h2, e⟩ | ⟨h1, e⟩ <;> cases e
    · exact ha.2 X h1 fun s' μ' X' p' => hb.2 X' h2 fun s'' μ'' X'' p'' => hQ _ _ X'' (p'.trans p'')
    · exact ha.2 X h1 fun s' μ' X' p' => hQ _ _ X' p'⟩
theorem snd_boolOne {a : Expr} {a' : Ex} {o : BoolOp} (ha : Snd B cx a a') (p : Pos) : Snd B cx (.BoolOp o [a] p) a' :=
  ⟨fun X => fun hev => fun hQ => BoolOp_one (ha.1 X hev hQ),
   fun {C A env ρ μ σ s} X {v σ'} hev {Q E} hQ => by
    cases o with
    | And =>
      refine isTrue_and (ha.2 X hev fun s' μ' X' p' => ?_)
      cases v
      · exact hQ _ _ X' p'
      · exact isTrue_and_nil (hQ _ _ X' p')
    | Or =>
      refine isTrue_or (ha.2 X hev fun s' μ' X' p' => ?_)
      cases v
      · exact isTrue_or_nil (hQ _ _ X' p')
      · exact hQ _ _ X' p'⟩

theorem ev_ite {T : Tabs} {C : Calls} {ρ : REnv} {σ σ' : Store} {c a b : Ex} {v : V} (h : ev T C ρ σ (.ite c a b) = some (v, σ')) :
    ∃ t σ₁, ev T C ρ σ c = some (.bool t, σ₁) ∧ ev T C ρ σ₁ (if t then a else b) = some (v, σ') := by
  simp only [ev] at h
  split at h
  · rename_i σ₁ h1; exact ⟨true, _, h1, h⟩
  · rename_i σ₁ h1; exact ⟨false, _, h1, h⟩
  · first | exact noSome h | cases h
theorem snd_ite {c a b : Expr} {c' a' b' : Ex} (hc : Snd B cx c c') (ha : Snd B cx a a') (hb : Snd B cx b b') (p : Pos) : Snd B cx (.IfExp c a b p) (.ite c' a' b') :=
  ⟨fun X => fun hev => fun hQ => by
    obtain ⟨t, σ₁, h1, h2⟩ := ev_ite hev
    refine IfExp_ (hc.2 X h1 fun s' μ' X' p' => ?_)
    cases t
    · exact hb.1 X' h2 fun v' s'' μ'' X'' p'' r'' => hQ _ _ _ X'' (p'.trans p'') r''
    · exact ha.1 X' h2 fun v' s'' μ'' X'' p'' r'' => hQ _ _ _ X'' (p'.trans p'') r'',
   fun X => fun hev => fun hQ => by
    obtain ⟨t, σ₁, h1, h2⟩ := ev_ite hev
    refine isTrue_IfExp (hc.2 X h1 fun s' μ' X' p' => ?_)
    cases t
    · exact hb.2 X' h2 fun s'' μ'' X'' p'' => hQ _ _ X'' (p'.trans p'')
    · exact ha.2 X' h2 fun s'' μ'' X'' p'' => hQ _ _ X'' (p'.trans p'')⟩

/-- displays' and calls' items -/
noncomputable abbrev SndL (B : Base) (cx : Cx) (es : List Expr) (cs : Exs) : Prop :=
  ∀ {C : Calls} {A : Around} {env : Env} {ρ : REnv} {μ : List Addr} {σ : Store} {s : Shared} {pos : Pos}, Sit B C A cx env ρ μ σ s → ∀ {vs : List V} {σ' : Store}, evs B.T C ρ σ cs = some (vs, σ') →
  ∀ {Q : List Value → Shared → Prop} {E : Value → Shared → Prop}, OutL B C A cx env ρ μ s σ' vs Q →
  wpAny (model B.prog B.w) A (spliced (backTo pos (starEach es env))) Q E s
theorem sndL_nil : SndL B cx [] .nil := fun X => fun hev => fun hQ => by
  cases hev
  exact args_nil (hQ _ _ _ X (.refl _ _) .nil)
theorem sndL_cons {e : Expr} {es : List Expr} {c : Ex} {cs : Exs} (he : Snd B cx e c) (hes : SndL B cx es cs) (hst : ∀ env, starEach (e :: es) env = (false, eval e env) :: starEach es env) : SndL B cx (e :: es) (.cons c cs) :=
  fun X => fun hev => fun hQ => by
    simp only [evs] at hev
    split at hev
    · rename_i v σ₁ h1
      split at hev
      · rename_i vs₂ σ₂ h2
        cases hev
        exact args_cons (he.1 X h1 fun v' s₁ μ₁ X₁ p₁ r₁ => hes X₁ h2 fun vs' s₂ μ₂ X₂ p₂ r₂ => hQ _ _ _ X₂ (p₁.trans p₂) (.cons (r₁.step X₁.S p₂) r₂)) (hst _)
      · first | exact noSome hev | cases hev
    · first | exact noSome hev | cases hev

theorem snd_list {es : List Expr} {cs : Exs} (hes : SndL B cx es cs) (p : Pos) : Snd B cx (.List es p) (.list cs) :=
  snd_of (fun X => fun hev => fun hQ => by
    simp only [ev] at hev
    split at hev
    · rename_i vs σ₁ h1
      split at hev
      · rename_i hl
        cases hev
        refine wpAny_List (hes X h1 fun vs' s' μ' X' p' r => ⟨by rw [r.length]; exact hl, ?_⟩)
        obtain ⟨S', q, r'⟩ := SOk.new (t := s'.toks) X'.S r (by rw [r.length]; exact hl)
        exact hQ _ _ _ (X'.go S' q) (p'.trans q) r'
      · first | exact noSome hev | cases hev
    · cases hev) fun _ => rfl
theorem snd_tup {es : List Expr} {cs : Exs} (hes : SndL B cx es cs) (k : Nat) (p : Pos) : Snd B cx (.Tuple es k p) (.tup cs) :=
  snd_of (fun X => fun hev => fun hQ => by
    simp only [ev] at hev
    split at hev
    · rename_i vs σ₁ h1
      split at hev
      · rename_i hl
        cases hev
        refine wpAny_Tuple (hes X h1 fun vs' s' μ' X' p' r => ⟨by rw [r.length]; exact hl, ?_⟩)
        have hk : ∀ b o, s'.heap.get? b = some o → (s'.heap.push { cls := .type "tuple", data := .seq vs'.toArray }).get? b = some o := fun b o h => Heap.get?_push_of_some _ h
        exact hQ _ _ _ (X'.grown hk) (p'.trans (Stp.grown hk)) (.tup (Heap.get?_push_size _ rfl) (by rw [r.length]; exact hl) (r.grown hk))
      · first | exact noSome hev | cases hev
    · cases hev) fun _ => rfl
end
end Mine
end

section
open PySem PySem.W PyProof.Rows PySem.Calls
set_option Elab.async false
set_option linter.unusedVariables false
namespace Mine
theorem sizeLine_LIM : sizeLine = LIM := by rw [sizeLine_eq]; rfl
section
variable {B : Base}

theorem strAppend (a b : List Nat) : (⟨a.toArray⟩ : Str) ++ (⟨b.toArray⟩ : Str) = ⟨(a ++ b).toArray⟩ := by
  show Str.mk (a.toArray ++ b.toArray) = _
  simp
theorem strLen (a : List Nat) : (⟨a.toArray⟩ : Str).length = a.length := by
  show a.toArray.size = _
  simp
theorem strBeq (a b : List Nat) : ((⟨a.toArray⟩ : Str) == (⟨b.toArray⟩ : Str)) = (a == b) := by
  rw [Bool.eq_iff_iff]
  simp
theorem some_pair {α β : Type} {a c : α} {b d : β} (h : some (a, b) = some (c, d)) : c = a ∧ d = b := by cases h; exact ⟨rfl, rfl⟩
inductive IfS {α β : Type} (c : Prop) (a v : α) (b w : β) : Prop where
  | mk : c → v = a → w = b → IfS c a v b w
inductive MapP {α β γ : Type} (o : Option α) (f : α → β) (τ w : γ) (v : β) : Prop where
  | mk (x : α) : o = some x → v = f x → w = τ → MapP o f τ w v
theorem if_some {α β : Type} {c : Prop} [Decidable c] {a v : α} {b w : β} (h : (if c then some (a, b) else none) = some (v, w)) : IfS c a v b w := by
  split at h
  · rename_i hc; exact ⟨hc, (some_pair h).1, (some_pair h).2⟩
  · first | exact noSome h | cases h
theorem map_pair {α β γ : Type} {o : Option α} {f : α → β} {τ w : γ} {v : β} (h : (o.map fun x => (f x, τ)) = some (v, w)) : MapP o f τ w v := by
  cases o with
  | none => cases h
  | some x => exact ⟨x, rfl, (some_pair h).1, (some_pair h).2⟩
/-- an operation of two ints -/
theorem opB_ints {f : Int → Int → Option (V × Store)} {t : Value → Value → Sem Value} {A : Around} {μ : List Addr} {s : Shared} {x' y' : Value} {x y v : V} {σ' : Store} (rx : Rep B.h₀ μ s.heap x' x) (ry : Rep B.h₀ μ s.heap y' y) (h : bInt f x y = some (v, σ'))
    {Q : Value → Shared → Prop} {E : Value → Shared → Prop} (k : ∀ a b t₁ t₂, f a b = some (v, σ') → wpAny (model B.prog B.w) A (t (.int a t₁) (.int b t₂)) Q E s) : wpAny (model B.prog B.w) A (t x' y') Q E s := by
  replace h := bInt_inv h
  obtain ⟨a, b, rfl, rfl, h⟩ := h
  obtain ⟨t₁, rfl⟩ := rx.inv_int
  obtain ⟨t₂, rfl⟩ := ry.inv_int
  exact k a b t₁ t₂ h

theorem opB_add : OpB B .add (binaryOp .Add) := by
  intro A μ σ s x' y' x y v σ' R S rx ry h Q E hQ
  replace h := orE_inv h
  rcases h with h | h
  · exact opB_ints rx ry h fun a b t u h => by
      obtain ⟨rfl, rfl⟩ := some_pair h
      exact PySem.P.add_int (hQ _ _ _ S .tok (.int _ _))
  replace h := orE_inv h
  rcases h with h | h
  · replace h := bStr_inv h
    obtain ⟨a, b, rfl, rfl, h⟩ := h
    obtain ⟨hl, rfl, rfl⟩ := if_some h
    obtain ⟨t, rfl, _⟩ := rx.inv_str
    obtain ⟨u, rfl, _⟩ := ry.inv_str
    refine add_str (fun t' tk => hQ _ _ _ S .tok ?_) (by rw [strLen, strLen, sizeLine_LIM]; exact hl)
    rw [strAppend]; exact .str _ _ (by rw [List.length_append]; exact hl)
  · replace h := bLst_inv h
    obtain ⟨m, xs, n, ys, rfl, e1, rfl, e2, h⟩ := h
    obtain ⟨hl, rfl, rfl⟩ := if_some h
    obtain ⟨a, its, ep, rfl, ha, g1, l1, r1⟩ := rx.at_list S e1
    obtain ⟨b, its', ep', rfl, hb, g2, l2, r2⟩ := ry.at_list S e2
    have hl' : its.length + its'.length ≤ LIM := by rw [r1.length, r2.length]; exact hl
    refine PySem.P.add_list g1 g2 ?_ (by rw [List.size_toArray, List.size_toArray, sizeLine_LIM]; exact hl')
    obtain ⟨S', p, r⟩ := SOk.new (t := s.toks) S (r1.append r2) (by rw [List.length_append]; exact hl')
    rw [List.append_toArray]
    exact hQ _ _ _ S' p r
theorem opB_sub : OpB B .sub (binaryOp .Sub) := fun R S rx ry h _ _ hQ => opB_ints rx ry h fun a b t u h => by
  obtain ⟨rfl, rfl⟩ := some_pair h
  exact PySem.P.sub_int (hQ _ _ _ S .tok (.int _ _))
theorem opB_fdiv : OpB B .fdiv (binaryOp .FloorDiv) := fun R S rx ry h _ _ hQ => opB_ints rx ry h fun a b t u h => by
  obtain ⟨⟨h0, hb⟩, rfl, rfl⟩ := if_some h
  exact floordiv_int h0 (hQ _ _ _ S .tok (.int _ _)) (Or.inl (PyProof.noPylong_small (by (first | lia | omega))))
theorem opB_mod : OpB B .mod (binaryOp .Mod) := fun R S rx ry h _ _ hQ => opB_ints rx ry h fun a b t u h => by
  obtain ⟨h0, rfl, rfl⟩ := if_some h
  exact PyProof.Rows.mod_int' h0 (hQ _ _ _ S .tok (.int _ _))
theorem opB_pow : OpB B .pow (binaryOp .Pow) := fun R S rx ry h _ _ hQ => opB_ints rx ry h fun a b t u h => by
  obtain ⟨⟨h0, h1, h2⟩, rfl, rfl⟩ := if_some h
  exact pow_int_small h0 (by (first | lia | omega)) (by (first | lia | omega)) (hQ _ _ _ S .tok (.int _ _))
theorem opB_lt : OpB B .lt (compareOp .Lt) := fun R S rx ry h _ _ hQ => opB_ints rx ry h fun a b t u h => by
  obtain ⟨rfl, rfl⟩ := some_pair h
  exact PySem.P.lt_int (hQ _ _ _ S (.refl _ _) (.bool _))
theorem opB_le : OpB B .le (compareOp .LtE) := fun R S rx ry h _ _ hQ => opB_ints rx ry h fun a b t u h => by
  obtain ⟨rfl, rfl⟩ := some_pair h
  exact PySem.P.le_int (hQ _ _ _ S (.refl _ _) (.bool _))
theorem opB_gt : OpB B .gt (compareOp .Gt) := fun R S rx ry h _ _ hQ => opB_ints rx ry h fun a b t u h => by
  obtain ⟨rfl, rfl⟩ := some_pair h
  exact PySem.P.gt_int (hQ _ _ _ S (.refl _ _) (.bool _))
theorem opB_ge : OpB B .ge (compareOp .GtE) := fun R S rx ry h _ _ hQ => opB_ints rx ry h fun a b t u h => by
  obtain ⟨rfl, rfl⟩ := some_pair h
  exact PySem.P.ge_int (hQ _ _ _ S (.refl _ _) (.bool _))
theorem opU_neg : OpU B .neg (unaryOp .USub) := by
  intro A μ σ s x' x v σ' R S rx h Q E hQ
  replace h := uInt_inv h
  obtain ⟨a, rfl, h⟩ := h
  obtain ⟨rfl, rfl⟩ := some_pair h
  obtain ⟨t, rfl⟩ := rx.inv_int
  exact PySem.P.neg_int (hQ _ _ _ S .tok (.int _ _))
/-- the answers of «is» -/
theorem isV_inv {x y : V} {r : Bool} (h : isV x y = some r) : (∃ a b, x = .bool a ∧ y = .bool b ∧ r = (a == b)) ∨ (y = .none ∧ ((x = .none ∧ r = true) ∨ (r = false ∧ ((∃ a, x = .int a) ∨ (∃ a, x = .str a) ∨ ∃ a, x = .tup a)))) := by
  unfold isV at h
  split at h
  · exact .inl ⟨_, _, rfl, rfl, (Option.some.inj h).symm⟩
  · exact .inr ⟨rfl, .inl ⟨rfl, (Option.some.inj h).symm⟩⟩
  · exact .inr ⟨rfl, .inr ⟨(Option.some.inj h).symm, .inl ⟨_, rfl⟩⟩⟩
  · exact .inr ⟨rfl, .inr ⟨(Option.some.inj h).symm, .inr (.inl ⟨_, rfl⟩)⟩⟩
  · exact .inr ⟨rfl, .inr ⟨(Option.some.inj h).symm, .inr (.inr ⟨_, rfl⟩)⟩⟩
  · first | exact noSome h | cases h
theorem isV_none_ok {h₀ : Heap} {μ : List Addr} {h : Heap} {x' : Value} {x : V} {r : Bool} (rx : Rep h₀ μ h x' x) (hx : (x = .none ∧ r = true) ∨ (r = false ∧ ((∃ a, x = .int a) ∨ (∃ a, x = .str a) ∨ ∃ a, x = .tup a))) : (x' == Value.none) = r := by
  rcases hx with ⟨rfl, rfl⟩ | ⟨rfl, ⟨a, rfl⟩ | ⟨a, rfl⟩ | ⟨a, rfl⟩⟩
  · obtain rfl := rx.inv_none; rfl
  · obtain ⟨t, rfl⟩ := rx.inv_int; rfl
  · obtain ⟨t, rfl, _⟩ := rx.inv_str; rfl
  · obtain ⟨b, _, _, rfl, _⟩ := rx.inv_tup; rfl
theorem opB_is : OpB B .is (compareOp .Is) := by
  intro A μ σ s x' y' x y v σ' R S rx ry h Q E hQ
  obtain ⟨r, h2, rfl, rfl⟩ := map_pair h
  rcases isV_inv h2 with ⟨a, b, rfl, rfl, rfl⟩ | ⟨rfl, hx⟩
  · obtain rfl := rx.inv_bool
    obtain rfl := ry.inv_bool
    exact is_bool (hQ _ _ _ S (.refl _ _) (.bool _))
  · obtain rfl := ry.inv_none
    refine is_none ?_
    rw [isV_none_ok rx hx]
    exact hQ _ _ _ S (.refl _ _) (.bool _)
theorem opB_isnot : OpB B .isnot (compareOp .IsNot) := by
  intro A μ σ s x' y' x y v σ' R S rx ry h Q E hQ
  obtain ⟨r, h2, rfl, rfl⟩ := map_pair (f := fun r => V.bool (!r)) h
  obtain ⟨rfl, h3⟩ := isN_inv h2
  rcases isV_inv h3 with ⟨a, b, _, e, _⟩ | ⟨_, hx⟩
  · cases e
  · obtain rfl := ry.inv_none
    refine isNot_none ?_
    rw [isV_none_ok rx hx]
    exact hQ _ _ _ S (.refl _ _) (.bool _)
end
end Mine
end

section
open PySem PySem.W PyProof.Rows PySem.Calls PySem.SeqAt
set_option Elab.async false
set_option linter.unusedVariables false
namespace Mine
section
variable {h₀ : Heap} {μ : List Addr} {A : Around} {s : Shared}

/-- the answer at a place -/
noncomputable def flatAt (xs ys : List V) (j : Nat) : Bool := match xs[j]? with
  | some x => match ys[j]? with
    | some y => (flat1 x y).getD false
    | none => false
  | none => false
theorem flat1_ok {A : Around} {v v' : Value} {x x' : V} {b : Bool} (r : Rep h₀ μ s.heap v x) (r' : Rep h₀ μ s.heap v' x') (h : flat1 x x' = some b) : EqAt A s v v' b := by
  rcases flat1_inv h with ⟨a, c, rfl, rfl, rfl⟩ | ⟨a, c, rfl, rfl, rfl⟩
  · obtain ⟨t, rfl⟩ := r.inv_int
    obtain ⟨u, rfl⟩ := r'.inv_int
    exact .int_int _ _ _ _
  · obtain ⟨t, rfl, _⟩ := r.inv_str
    obtain ⟨u, rfl, _⟩ := r'.inv_str
    have := EqAt.str_str (A := A) (s := s) ⟨a.toArray⟩ t ⟨c.toArray⟩ u
    rw [strBeq] at this
    exact this
theorem eqFlat_len : ∀ {xs ys : List V} {b : Bool}, eqFlat xs ys = some b → xs.length = ys.length
  | [], [], _, _ => rfl
  | [], _ :: _, _, h => by first | exact noSome h | exact nomatch h
  | _ :: _, [], _, h => by first | exact noSome h | exact nomatch h
  | x :: xs, y :: ys, c, h => by
    obtain ⟨a, c, _, hr, _⟩ := eqFlat_inv h
    rw [List.length_cons, List.length_cons, eqFlat_len hr]
theorem eqFlat_ok : ∀ {its its' : List Value} {xs ys : List V} {b : Bool}, Reps h₀ μ s.heap its xs → Reps h₀ μ s.heap its' ys → eqFlat xs ys = some b →
    (∀ j (h1 : j < its.length) (h2 : j < its'.length), EqAt A s its[j] its'[j] (flatAt xs ys j)) ∧ (List.range its.length).all (flatAt xs ys) = b
  | its, its', [], [], b, r, r', h => by
    obtain rfl := r.inv_nil
    obtain rfl := Option.some.inj h
    exact ⟨fun j h1 => absurd h1 (Nat.not_lt_zero _), rfl⟩
  | _, _, [], _ :: _, _, _, _, h => by first | exact noSome h | exact nomatch h
  | _, _, _ :: _, [], _, _, _, h => by first | exact noSome h | exact nomatch h
  | its, its', x :: xs, y :: ys, b, r, r', h => by
    obtain ⟨v, vs, rfl, rv, rr⟩ := r.inv_cons
    obtain ⟨v', vs', rfl, rv', rr'⟩ := r'.inv_cons
    obtain ⟨a, c, h1, h2, rfl⟩ := eqFlat_inv h
    obtain ⟨i1, i2⟩ := eqFlat_ok rr rr' h2
    have e : flatAt (x :: xs) (y :: ys) 0 = a := by simp [flatAt, h1]
    refine ⟨fun j h1' h2' => ?_, ?_⟩
    · cases j with
      | zero => rw [e]; exact flat1_ok rv rv' h1
      | succ j => exact i1 j (Nat.lt_of_succ_lt_succ h1') (Nat.lt_of_succ_lt_succ h2')
    · rw [List.length_cons, List.range_succ_eq_map, List.all_cons, List.all_map, e, ← i2]
      rfl

theorem lists_rc {l m : Addr} {ep ep' : Nat} {its its' : List Value} {xs ys : List V} {b : Bool}
    (g1 : s.heap.get? l = some { cls := .type "list", dict := none, data := .seq (List.toArray its) ep, slots := #[] }) (r1 : Reps h₀ μ s.heap its xs)
    (g2 : s.heap.get? m = some { cls := .type "list", dict := none, data := .seq (List.toArray its') ep', slots := #[] }) (r2 : Reps h₀ μ s.heap its' ys) (hu : A.units < cLine)
    (h : eqList xs ys = some b) : RcAt A s (.ref l) (.ref m) b ∧ RcNeAt A s (.ref l) (.ref m) (!b) := by
  have L1 : s.heap.IsList l its.toArray := ⟨_, g1, rfl, _, rfl⟩
  have L2 : s.heap.IsList m its'.toArray := ⟨_, g2, rfl, _, rfl⟩
  unfold eqList at h
  split at h
  · rename_i hl
    have hsz : its.toArray.size = its'.toArray.size := by rw [List.size_toArray, List.size_toArray, r1.length, r2.length, hl]
    obtain ⟨h1, h2⟩ := eqFlat_ok (A := A.in1) r1 r2 h
    have hs : its.toArray.size = its.length := by simp
    have he : ∀ j (h1' : j < its.toArray.size) (h2' : j < its'.toArray.size), EqAt A.in1 s its.toArray[j] its'.toArray[j] (flatAt xs ys j) := fun j h3 h4 => by
      simpa using h1 j (by simpa using h3) (by simpa using h4)
    have a1 := RcAt.lists L1 L2 hsz hu he
    have a2 := RcNeAt.lists L1 L2 hsz hu he
    rw [hs, h2] at a1 a2
    exact ⟨a1, a2⟩
  · rename_i hl
    cases h
    have hsz : (its.toArray.size != its'.toArray.size) = true := by rw [List.size_toArray, List.size_toArray, r1.length, r2.length]; simpa using hl
    exact ⟨RcAt.lists_lengths L1 L2 hsz hu, RcNeAt.lists_lengths L1 L2 hsz hu⟩

theorem EqAt.lists' {l m : Addr} {ep ep' : Nat} {its its' : List Value} {xs ys : List V} {b : Bool}
    (g1 : s.heap.get? l = some { cls := .type "list", dict := none, data := .seq (List.toArray its) ep, slots := #[] }) (r1 : Reps h₀ μ s.heap its xs)
    (g2 : s.heap.get? m = some { cls := .type "list", dict := none, data := .seq (List.toArray its') ep', slots := #[] }) (r2 : Reps h₀ μ s.heap its' ys) (hu : A.units < cLine)
    (h : eqList xs ys = some b) (hne : l ≠ m) : EqAt A s (.ref l) (.ref m) b := .of_refs hne (lists_rc g1 r1 g2 r2 hu h).1

theorem all_true (n : Nat) : (List.range n).all (fun _ => true) = true := by simp

theorem base1_ok {A : Around} {v v' : Value} {x x' : V} {b : Bool} (r : Rep h₀ μ s.heap v x) (r' : Rep h₀ μ s.heap v' x') (h : base1 x x' = some b) : EqAt A s v v' b ∧ RcAt A s v v' b := by
  unfold base1 at h
  split at h
  · split at h
    · obtain rfl := r.inv_none
      obtain rfl := r'.inv_none
      obtain rfl := Option.some.inj h
      exact ⟨.same _, .none_none⟩
    · first | exact noSome h | cases h
  · split at h
    · obtain rfl := r.inv_bool
      obtain rfl := r'.inv_bool
      obtain rfl := Option.some.inj h
      exact ⟨.bool_bool _ _, .bool_bool _ _⟩
    · first | exact noSome h | cases h
  · split at h
    · obtain ⟨t, rfl⟩ := r.inv_int
      obtain ⟨u, rfl⟩ := r'.inv_int
      obtain rfl := Option.some.inj h
      exact ⟨.int_int _ _ _ _, .int_int _ _ _ _⟩
    · first | exact noSome h | cases h
  · split at h
    · rename_i a _ c
      obtain ⟨t, rfl, _⟩ := r.inv_str
      obtain ⟨u, rfl, _⟩ := r'.inv_str
      obtain rfl := Option.some.inj h
      have h1 := EqAt.str_str (A := A) (s := s) ⟨a.toArray⟩ t ⟨c.toArray⟩ u
      have h2 := RcAt.str_str (A := A) (s := s) ⟨a.toArray⟩ t ⟨c.toArray⟩ u
      rw [strBeq] at h1 h2
      exact ⟨h1, h2⟩
    · first | exact noSome h | cases h
  · first | exact noSome h | cases h
theorem eqqs_ok {f : V → V → Option Bool} (hf : ∀ {v v' : Value} {x x' : V}, Rep h₀ μ s.heap v x → Rep h₀ μ s.heap v' x' → f x x' = some true → EqAt A s v v' true) : ∀ {its its' : List Value} {l l' : List V} {b : Bool}, Reps h₀ μ s.heap its l → Reps h₀ μ s.heap its' l' → eqqs f l l' = some b →
    b = true ∧ its.length = its'.length ∧ ∀ j (h1 : j < its.length) (h2 : j < its'.length), EqAt A s its[j] its'[j] true
  | its, its', [], [], b, r, r', h => by
    obtain rfl := r.inv_nil
    obtain rfl := r'.inv_nil
    exact ⟨(Option.some.inj h).symm, rfl, fun j h1 => absurd h1 (Nat.not_lt_zero _)⟩
  | _, _, [], _ :: _, _, _, _, h => by first | exact noSome h | exact nomatch h
  | _, _, _ :: _, [], _, _, _, h => by first | exact noSome h | exact nomatch h
  | its, its', x :: xs, y :: ys, b, r, r', h => by
    obtain ⟨v, vs, rfl, rv, rr⟩ := r.inv_cons
    obtain ⟨v', vs', rfl, rv', rr'⟩ := r'.inv_cons
    rw [eqqs_cons] at h
    split at h
    · rename_i h1
      obtain ⟨e1, e2, e3⟩ := eqqs_ok hf rr rr' h
      refine ⟨e1, by rw [List.length_cons, List.length_cons, e2], fun j h3 h4 => ?_⟩
      cases j with
      | zero => exact hf rv rv' h1
      | succ j => exact e3 j (Nat.lt_of_succ_lt_succ h3) (Nat.lt_of_succ_lt_succ h4)
    · first | exact noSome h | cases h
/-- values without lists -/
theorem eqq_ok : ∀ (n : Nat) (A : Around) {v v' : Value} {x x' : V} {b : Bool}, Rep h₀ μ s.heap v x → Rep h₀ μ s.heap v' x' → A.units + n < cLine → V.eqq n x x' = some b → EqAt A s v v' b ∧ RcAt A s v v' b
  | 0, A, v, v', x, x', b, r, r', hu, h => base1_ok r r' h
  | n + 1, A, v, v', x, x', b, r, r', hu, h => by
    unfold V.eqq at h
    split at h
    · split at h
      · obtain ⟨a, its, k, rfl, g, hl, rr⟩ := r.inv_tup
        obtain ⟨a', its', k', rfl, g', hl', rr'⟩ := r'.inv_tup
        obtain ⟨rfl, e2, e3⟩ := eqqs_ok (A := A.in1) (fun q q' e => (eqq_ok n A.in1 q q' (by rw [Around.in1_units]; (first | lia | omega)) e).1) rr rr' h
        have T1 : s.heap.IsTuple a its.toArray := ⟨_, g, rfl, _, rfl⟩
        have T2 : s.heap.IsTuple a' its'.toArray := ⟨_, g', rfl, _, rfl⟩
        have hrc : RcAt A s (.ref a) (.ref a') true := by
          have := RcAt.tuples (e := fun _ => true) T1 T2 (A := A) (by (first | lia | omega)) fun j h1 h2 => by simpa using e3 j (by simpa using h1) (by simpa using h2)
          rw [all_true] at this
          simpa [e2] using this
        refine ⟨?_, hrc⟩
        by_cases e : a = a'
        · subst e; exact .same _
        · exact .of_refs e hrc
      · first | exact noSome h | cases h
    · exact base1_ok r r' h
end

section
variable {B : Base}
theorem eqV_ok {h₀ : Heap} {μ : List Addr} {σ : Store} {A : Around} {s : Shared} (S : SOk h₀ μ σ s.heap) {v v' : Value} {x x' : V} {b : Bool} (r : Rep h₀ μ s.heap v x) (r' : Rep h₀ μ s.heap v' x') (hu : A.units + 100 < cLine) (h : eqV σ x x' = some b) : RcAt A s v v' b := by
  unfold eqV at h
  split at h
  · split at h
    · split at h
      · rename_i xs e1
        split at h
        · rename_i ys e2
          obtain ⟨a, its, ep, rfl, ha, g1, l1, r1⟩ := r.at_list S e1
          obtain ⟨a', its', ep', rfl, ha', g2, l2, r2⟩ := r'.at_list S e2
          exact (lists_rc g1 r1 g2 r2 (by (first | lia | omega)) h).1
        · first | exact noSome h | cases h
      · first | exact noSome h | cases h
    · first | exact noSome h | cases h
  · exact (eqq_ok 60 A r r' (by (first | lia | omega)) h).2

theorem opB_eq : OpB B .eq (compareOp .Eq) := by
  intro A μ σ s x' y' x y v σ' R S rx ry h Q E hQ
  obtain ⟨b, hb, rfl, rfl⟩ := map_pair h
  exact eqV_ok S rx ry (by have := R.un; (first | lia | omega)) hb _ _ _ _ (hQ _ _ _ S (.refl _ _) (.bool _))
theorem opB_ne : OpB B .ne (compareOp .NotEq) := by
  intro A μ σ s x' y' x y v σ' R S rx ry h Q E hQ
  have hu := R.un
  replace h := orE_inv h
  rcases h with h | h
  · exact opB_ints rx ry h fun a b t u h => by
      obtain ⟨rfl, rfl⟩ := some_pair h
      exact PySem.P.ne_int (hQ _ _ _ S (.refl _ _) (.bool _))
  replace h := orE_inv h
  rcases h with h | h
  · replace h := bStr_inv h
    obtain ⟨a, b, rfl, rfl, h⟩ := h
    obtain ⟨rfl, rfl⟩ := some_pair h
    obtain ⟨t, rfl, _⟩ := rx.inv_str
    obtain ⟨u, rfl, _⟩ := ry.inv_str
    exact ne_str (by rw [bne, strBeq]; exact hQ _ _ _ S (.refl _ _) (.bool _))
  · replace h := bLst_inv h
    obtain ⟨m, xs, n, ys, rfl, e1, rfl, e2, h⟩ := h
    obtain ⟨c, hc, rfl, rfl⟩ := map_pair (f := fun r => V.bool (!r)) h
    obtain ⟨a, its, ep, rfl, ha, g1, l1, r1⟩ := rx.at_list S e1
    obtain ⟨b, its', ep', rfl, hb, g2, l2, r2⟩ := ry.at_list S e2
    exact (lists_rc g1 r1 g2 r2 (by (first | lia | omega)) hc).2 _ _ _ _ (hQ _ _ _ S (.refl _ _) (.bool _))
end
end Mine
end

section
open PySem PySem.W PyProof.Rows PySem.Calls PySem.SeqAt
set_option Elab.async false
set_option linter.unusedVariables false
namespace Mine
section
variable {h₀ : Heap} {μ : List Addr} {A : Around} {s : Shared}

/-- is the one the other? -/
noncomputable def eVal (x : Value) : Value → Bool
  | .int b _ => match x with
    | .int a _ => b == a
    | _ => false
  | .str b _ => match x with
    | .str a _ => b == a
    | _ => false
  | _ => false
theorem eVal_ok {v v' : Value} {x x' : V} {b : Bool} (r : Rep h₀ μ s.heap v x) (r' : Rep h₀ μ s.heap v' x') (h : flat1 x x' = some b) : eVal v' v = b := by
  rcases flat1_inv h with ⟨a, c, rfl, rfl, rfl⟩ | ⟨a, c, rfl, rfl, rfl⟩
  · obtain ⟨t, rfl⟩ := r.inv_int
    obtain ⟨u, rfl⟩ := r'.inv_int
    rfl
  · obtain ⟨t, rfl, _⟩ := r.inv_str
    obtain ⟨u, rfl, _⟩ := r'.inv_str
    exact strBeq _ _
theorem inFlat_ok {v : Value} {x : V} (r : Rep h₀ μ s.heap v x) : ∀ {its : List Value} {xs : List V} {b : Bool}, Reps h₀ μ s.heap its xs → inFlat x xs = some b → (∀ y ∈ its, EqAt A s y v (eVal v y)) ∧ its.any (eVal v) = b
  | its, [], b, rr, h => by
    obtain rfl := rr.inv_nil
    obtain rfl := Option.some.inj h
    exact ⟨fun y hy => (nomatch hy), rfl⟩
  | its, x' :: xs, b, rr, h => by
    obtain ⟨w, ws, rfl, rw', rr'⟩ := rr.inv_cons
    obtain ⟨a, c, h1, h2, rfl⟩ := inFlat_inv h
    obtain ⟨i1, i2⟩ := inFlat_ok r rr' h2
    have e := eVal_ok rw' r h1
    refine ⟨fun y hy => ?_, by rw [List.any_cons, i2, e]⟩
    rcases List.mem_cons.mp hy with rfl | hy
    · rw [e]; exact flat1_ok rw' r h1
    · exact i1 y hy

theorem eqFlat_refl : ∀ {xs : List V} {b : Bool}, eqFlat xs xs = some b → b = true
  | [], _, h => (Option.some.inj h).symm
  | x :: xs, c, h => by
    obtain ⟨a, c, h1, h2, rfl⟩ := eqFlat_inv h
    obtain rfl := eqFlat_refl h2
    rcases flat1_inv h1 with ⟨a, b, rfl, e, rfl⟩ | ⟨a, b, rfl, e, rfl⟩
    · obtain rfl := V.int.inj e; simp
    · obtain rfl := V.str.inj e; simp
theorem eqList_refl {xs : List V} {b : Bool} (h : eqList xs xs = some b) : b = true := by
  unfold eqList at h; rw [if_pos rfl] at h; exact eqFlat_refl h

noncomputable def eLst (μ : List Addr) (σ : Store) (xs : List V) : Value → Bool
  | .ref a => match μ.findIdx? (· == a) with
    | some n => match σ[n]? with
      | some zs => (eqList zs xs).getD false
      | none => false
    | none => false
  | _ => false
theorem find_at {μ : List Addr} (hn : μ.Nodup) {n : Nat} {a : Addr} (h : μ[n]? = some a) : μ.findIdx? (· == a) = some n := by
  obtain ⟨hlt, e⟩ := List.getElem?_eq_some_iff.mp h
  rw [List.findIdx?_eq_some_iff_getElem]
  refine ⟨hlt, by simp [e], fun j hj => ?_⟩
  have : μ[j] ≠ a := fun e' => Nat.ne_of_lt hj ((List.getElem_inj (h₀ := Nat.lt_trans hj hlt) (h₁ := hlt) hn).mp (e'.trans e.symm))
  simpa using this
theorem inLists_ok {σ : Store} (S : SOk h₀ μ σ s.heap) {m : Nat} {c : Addr} {xs : List V} (hm : σ[m]? = some xs) (hc : μ[m]? = some c) (hu : A.units < cLine) :
    ∀ {its : List Value} {ys : List V} {b : Bool}, Reps h₀ μ s.heap its ys → inLists σ xs ys = some b → (∀ y ∈ its, EqAt A s y (.ref c) (eLst μ σ xs y)) ∧ its.any (eLst μ σ xs) = b
  | its, [], b, rr, h => by
    obtain rfl := rr.inv_nil
    obtain rfl := Option.some.inj h
    exact ⟨fun y hy => (nomatch hy), rfl⟩
  | its, y' :: ys, b, rr, h => by
    obtain ⟨w, ws, rfl, rw', rr'⟩ := rr.inv_cons
    obtain ⟨n, zs, b1, r1, rfl, hz, h1, h2, rfl⟩ := inLists_inv h
    obtain ⟨i1, i2⟩ := inLists_ok S hm hc hu rr' h2
    obtain ⟨a, itz, epz, rfl, ha, gz, lz, rz⟩ := rw'.at_list S hz
    obtain ⟨c', its0, ep0, e0, g0, l0, r0⟩ := S.cell hm
    rw [hc] at e0
    obtain rfl := Option.some.inj e0
    have hev : eLst μ σ xs (.ref a) = b1 := by
      simp only [eLst, find_at S.nd ha, hz, h1, Option.getD_some]
    refine ⟨fun y hy => ?_, by rw [List.any_cons, i2, hev]⟩
    rcases List.mem_cons.mp hy with rfl | hy
    · rw [hev]
      by_cases e : a = c
      · subst e
        obtain rfl : n = m := (List.getElem?_inj (List.getElem?_eq_some_iff.mp ha).1 S.nd).mp (ha.trans hc.symm)
        rw [hm] at hz
        obtain rfl := Option.some.inj hz
        rw [eqList_refl h1]
        exact .same _
      · exact EqAt.lists' gz rz g0 r0 hu h1 e
    · exact i1 y hy
end

section
variable {B : Base}
/-- the answer for lists and tuples -/
theorem in_seq {prog : Program} {w : World} {A : Around} {s : Shared} {l : Addr} {its : List Value} {v : Value} {b : Bool} {e : Value → Bool} (hl : s.heap.IsList l its.toArray ∨ s.heap.IsTuple l its.toArray) (h : (∀ y ∈ its, EqAt A.in1 s y v (e y)) ∧ its.any e = b)
    {Q : Value → Shared → Prop} {E : Value → Shared → Prop} : (Q (.bool b) s → wpAny (model prog w) A (compareOp .In v (.ref l)) Q E s) ∧ (Q (.bool (!b)) s → wpAny (model prog w) A (compareOp .NotIn v (.ref l)) Q E s) := by
  obtain ⟨h1, h2⟩ := h
  have h3 : its.toArray.any e = b := by rw [← h2]; simp
  have h4 : ∀ y ∈ its.toArray, EqAt A.in1 s y v (e y) := fun y hy => h1 y (by simpa using hy)
  rcases hl with L | L
  · exact ⟨fun q => in_listAt _ L h4 (by rw [h3]; exact q), fun q => notIn_listAt _ L h4 (by rw [h3]; exact q)⟩
  · exact ⟨fun q => in_tupleAt _ L h4 (by rw [h3]; exact q), fun q => notIn_tupleAt _ L h4 (by rw [h3]; exact q)⟩
theorem in_ok {h₀ : Heap} {μ : List Addr} {σ : Store} {A : Around} {s : Shared} (R : Rm A 0) (S : SOk h₀ μ σ s.heap) {v v' : Value} {x x' : V} {b : Bool} (r : Rep h₀ μ s.heap v x) (r' : Rep h₀ μ s.heap v' x') (h : inV σ x x' = some b)
    {prog : Program} {w : World} {Q : Value → Shared → Prop} {E : Value → Shared → Prop} : (Q (.bool b) s → wpAny (model prog w) A (compareOp .In v v') Q E s) ∧ (Q (.bool (!b)) s → wpAny (model prog w) A (compareOp .NotIn v v') Q E s) := by
  have hu := R.un
  unfold inV at h
  split at h
  · split at h
    · rename_i xs e1
      obtain ⟨a', its, ep, rfl, hb, g1, l1, r1⟩ := r'.at_list S e1
      exact in_seq (.inl ⟨_, g1, rfl, _, rfl⟩) (inFlat_ok r r1 h)
    · first | exact noSome h | cases h
  · obtain ⟨a', its, k, rfl, g, hl', rr⟩ := r'.inv_tup
    split at h
    · split at h
      · rename_i xs e1
        obtain ⟨a, rfl, ha⟩ := r.inv_lst
        exact in_seq (.inr ⟨_, g, rfl, _, rfl⟩) (inLists_ok S e1 ha (by rw [Around.in1_units]; (first | lia | omega)) rr h)
      · first | exact noSome h | cases h
    · exact in_seq (.inr ⟨_, g, rfl, _, rfl⟩) (inFlat_ok r rr h)
  · first | exact noSome h | cases h
theorem opB_in : OpB B .inn (compareOp .In) := fun R S rx ry h _ _ hQ => by
  obtain ⟨b, hb, rfl, rfl⟩ := map_pair h
  exact (in_ok R S rx ry hb).1 (hQ _ _ _ S (.refl _ _) (.bool _))
theorem opB_notin : OpB B .notin (compareOp .NotIn) := fun R S rx ry h _ _ hQ => by
  obtain ⟨b, hb, rfl, rfl⟩ := map_pair (f := fun r => V.bool (!r)) h
  exact (in_ok R S rx ry hb).2 (hQ _ _ _ S (.refl _ _) (.bool _))
end
end Mine
end

section
open PySem PySem.W PyProof.Rows PySem.Calls PySem.SeqAt
set_option Elab.async false
set_option linter.unusedVariables false
namespace Mine

theorem place_idx {i : Int} {n k : Nat} (h : place i n = some k) : seqIndex? i n = some k := by
  unfold place at h
  unfold seqIndex?
  split at h
  · rename_i h0
    split at h
    · rename_i h1
      cases h
      simp only [show ¬ i < 0 from by (first | lia | omega), if_false]
      rw [if_pos (by simp; (first | lia | omega))]
    · first | exact noSome h | cases h
  · rename_i h0
    split at h
    · rename_i h1
      cases h
      simp only [show i < 0 from by (first | lia | omega), if_true]
      rw [if_pos (by simp; (first | lia | omega))]
      congr 1; (first | lia | omega)
    · first | exact noSome h | cases h
theorem ints_get : ∀ {its : List Value} {l : List Int}, IntsAre its l → ∀ {k : Nat} {c : Int}, l[k]? = some c → its.length = l.length ∧ ∃ t, its[k]? = some (.int c t)
  | _, _, .nil, k, c, h => by simp at h
  | _, _, .cons n t hi, 0, c, h => by
    obtain rfl : n = c := by simpa using h
    refine ⟨?_, t, rfl⟩
    rw [List.length_cons, List.length_cons]
    congr 1
    clear h
    induction hi with
    | nil => rfl
    | cons _ _ _ ih => rw [List.length_cons, List.length_cons, ih]
  | _, _, .cons n t hi, k + 1, c, h => by
    obtain ⟨a, b⟩ := ints_get hi (k := k) (by simpa using h)
    exact ⟨by rw [List.length_cons, List.length_cons, a], by simpa using b⟩
theorem place_rng {i : Int} {n k : Nat} (h : place i n = some k) (hn : n ≤ LIM) : -16777216 ≤ i ∧ i < 16777216 := by
  have hL : LIM = 16777216 := rfl
  unfold place at h
  split at h <;> split at h <;> cases h <;> (first | lia | omega)

section
variable {B : Base}
theorem strGet {l : List Nat} {k : Nat} : (⟨l.toArray⟩ : Str).cps[k]? = l[k]? := by
  show l.toArray[k]? = _
  simp
theorem listItem {prog : Program} {w : World} {A : Around} {s : Shared} {l : Addr} {items : List Value} {i : Int} {t : Tok} {k : Nat} {y : Value} (hl : s.heap.IsList l items.toArray) (hp : place i items.length = some k) (hlen : items.length ≤ LIM) (hy : items[k]? = some y)
    {Q : Value → Shared → Prop} {E : Value → Shared → Prop} (h : Q y s) : wpAny (model prog w) A (getItem (.ref l) (.int i t)) Q E s := by
  have hr := place_rng hp hlen
  by_cases h0 : 0 ≤ i
  · have e : k = i.toNat := by unfold place at hp; rw [if_pos h0] at hp; split at hp <;> cases hp; rfl
    exact wpAny_getItem_list hl h0 (by (first | lia | omega)) (x := y) (by rw [← e]; simpa using hy) h
  · have e : -(items.length : Int) ≤ i ∧ k = (i + items.length).toNat := by
      unfold place at hp; rw [if_neg h0] at hp; split at hp <;> cases hp; (first | lia | omega)
    exact wpAny_getItem_list_neg hl (by (first | lia | omega)) (by simpa using e.1) (by (first | lia | omega)) (x := y) (by simp only [List.size_toArray]; rw [← e.2]; simpa using hy) h

/-- an item: and the kind is one with items -/
theorem item_ok {A : Around} {μ : List Addr} {σ : Store} {s : Shared} {x' y' : Value} {x y v : V} {σ' : Store} (R : Rm A 0) (S : SOk B.h₀ μ σ s.heap) (rx : Rep B.h₀ μ s.heap x' x) (ry : Rep B.h₀ μ s.heap y' y) (h : evB .item x y σ = some (v, σ'))
    {Q : Value → Shared → Prop} {E : Value → Shared → Prop} (hQ : Out B μ s σ' v Q) :
    (∃ T id, typeLookup (.type T) "__getitem__" = pure (some (.builtin id)) ∧ s.TypeIs x' T) ∧ wpAny (model B.prog B.w) A (getItem x' y') Q E s := by
  obtain ⟨i, rfl, h2⟩ := uInt_inv h
  clear h
  obtain ⟨u, rfl⟩ := ry.inv_int
  unfold bItem at h2
  split at h2
  · obtain ⟨k, c, hk, hc, rfl, rfl⟩ := itemOf_inv h2
    obtain ⟨t, rfl, hl⟩ := rx.inv_str
    have hr := place_rng hk hl
    refine ⟨⟨"str", _, F.slot_str_getitem.lookup, rfl⟩, getItem_str (c := c) ?_ ?_ (hQ _ _ _ S .tok (.str [c] _ (by show 1 ≤ 16777216; decide)))⟩
    · rw [decide_eq_false (show ¬ i < -(2 ^ 63 : Int) by (first | lia | omega)), decide_eq_false (show ¬ i ≥ 2 ^ 63 by (first | lia | omega))]; rfl
    · rw [strLen, place_idx hk, Option.bind_some, strGet]; exact hc
  · obtain ⟨k, c, hk, hc, rfl, rfl⟩ := itemOf_inv h2
    obtain ⟨a, its, n, rfl, g, hl, rr⟩ := rx.inv_tup
    have hr := place_rng hk (by rw [← rr.length]; exact hl)
    obtain ⟨y, hy, ry⟩ := rr.get hc
    exact ⟨⟨"tuple", _, F.slot_tuple_getitem.lookup, ⟨_, g, rfl⟩⟩, PySem.P.getItem_tuple g (by (first | lia | omega)) (by (first | lia | omega)) (by rw [List.size_toArray, rr.length]; exact place_idx hk) (by simpa using hy) (hQ _ _ _ S (.refl _ _) ry)⟩
  · obtain ⟨k, c, hk, hc, rfl, rfl⟩ := itemOf_inv h2
    obtain ⟨a, its, rfl, hl, hb, hi⟩ := rx.inv_ro
    have hL : s.heap.IsList a its.toArray := let ⟨o, ho, r⟩ := hl; ⟨o, S.base _ _ ho, r⟩
    obtain ⟨hlen, t, ht⟩ := ints_get hi hc
    exact ⟨⟨"list", _, list_getitem_lookup, hL.typeIs⟩, listItem hL (by rw [hlen]; exact hk) hb ht (hQ _ _ _ S (.refl _ _) (.int _ _))⟩
  · obtain ⟨n, xs, rfl, e1, h3⟩ := uLst_inv h2
    obtain ⟨k, c, hk, hc, rfl, rfl⟩ := itemOf_inv h3
    obtain ⟨a, its, ep, rfl, ha, g1, l1, r1⟩ := rx.at_list S e1
    obtain ⟨y, hy, ry⟩ := r1.get hc
    exact ⟨⟨"list", _, list_getitem_lookup, ⟨_, g1, rfl⟩⟩, listItem ⟨_, g1, rfl, _, rfl⟩ (by rw [r1.length]; exact hk) l1 hy (hQ _ _ _ S (.refl _ _) ry)⟩
end

section
variable {prog : Program} {w : World} {A : Around} {E : Value → Shared → Prop} {s : Shared} {env : Env}
theorem subscript_any {value idx : Expr} {pos : Pos} {Q : Value → Shared → Prop}
    (h : wpAny (model prog w) A (eval value env) (fun o s₁ => wpAny (model prog w) A (eval idx env) (fun i s₂ => (∃ T id, typeLookup (.type T) "__getitem__" = pure (some (.builtin id)) ∧ s₂.TypeIs o T) ∧ wpAny (model prog w) A (getItem o i) Q E s₂) E s₁) E s)
    (hi : ∀ o i, subscripted idx false o i = operate [o, i] (getItem o i)) : wpAny (model prog w) A (eval (.Subscript value idx pos) env) Q E s := by
  rw [eval_Subscript]
  refine wpAny_bind (wpAny_mono h (fun o s₁ h₁ => wpAny_bind (wpAny_holding (wpAny_mono h₁ (fun i s₂ h₂ => wpAny_bind (wpAny_standAt ?_)) fun _ _ x => x))) fun _ _ x => x)
  obtain ⟨⟨T, id, hl, hT⟩, hg⟩ := h₂
  have fin : wpAny (model prog w) A (operate [o, i] (getItem o i)) (fun r s₃ => wpAny (model prog w) A (letTemporaryGo value o r >>= fun _ => pure r) Q E s₃) E s₂ :=
    wpAny_operating (wpAny_mono hg (fun r s₃ h₃ => wpAny_bind (wpAny_letTemporaryGo (wpAny_pure h₃))) fun _ _ x => x)
  refine wpAny_bind ?_
  rw [getitemInPython_of_ne hT.not_modules]
  refine wpAny_bind (wpAny_specialOf hT hl ?_)
  refine wpAny_pure ?_
  refine wpAny_bind ?_
  show wpAny (model prog w) A (subscripted idx false o i) _ E s₂
  rw [hi]
  exact fin
end
section
variable {B : Base} {cx : Cx}
theorem snd_item {a b : Expr} {a' b' : Ex} (ha : Snd B cx a a') (hb : Snd B cx b b') (hi : ∀ o i, subscripted b false o i = operate [o, i] (getItem o i)) (p : Pos) : Snd B cx (.Subscript a b p) (.bin .item a' b') :=
  snd_of (fun X => fun hev => fun hQ => by
    obtain ⟨x, σ₁, y, σ₂, h1, h2, h3⟩ := ev_bin hev
    exact subscript_any (two ha.1 hb.1 X h1 h2 fun x' y' s' μ' X' p' r r' => item_ok X'.R X'.S r r' h3 fun v' s'' μ'' S'' p'' r'' => hQ _ _ _ (X'.go S'' p'') (p'.trans p'') r'') hi) fun _ => rfl
end
end Mine
end

section
open PySem PySem.W PyProof.Rows PySem.Calls PySem.SeqAt
set_option Elab.async false
set_option linter.unusedVariables false
namespace Mine

theorem clip_at (n : Nat) (i : Int) : clipAt n i = clip i n := by
  apply Int.ofNat.inj
  show ((clipAt n i : Nat) : Int) = ((clip i n : Nat) : Int)
  unfold clip
  rw [clipAt_cast]
  by_cases h : 0 ≤ i
  · obtain ⟨k, rfl⟩ := Int.eq_ofNat_of_zero_le h
    rw [if_pos h, if_neg (Int.not_lt.mpr h), Int.toNat_natCast]
    show _ = ((min k n : Nat) : Int)
    rw [Int.max_eq_right (Int.le_min.mpr ⟨h, Int.natCast_nonneg n⟩)]
    (first | lia | omega)
  · obtain ⟨k, rfl⟩ : ∃ k : Nat, i = -(k : Int) := ⟨(-i).toNat, by rw [Int.toNat_of_nonneg (by (first | lia | omega))]; (first | lia | omega)⟩
    rw [if_neg h, if_pos (by (first | lia | omega)), Int.neg_neg, Int.toNat_natCast, Int.min_eq_left (by (first | lia | omega))]
    (first | lia | omega)
theorem clip_le (i : Int) (n : Nat) : clip i n ≤ n := by
  unfold clip
  split
  · exact Nat.min_le_right _ _
  · (first | lia | omega)
theorem idx_plain (lo hi : Option Int) (n : Nat) : Builtin.Str.strSliceIndices lo hi 1 n = (List.range (hi.elim n (clipAt n) - lo.elim 0 (clipAt n))).map ((lo.elim 0 (clipAt n)) + ·) := by
  rw [← sliceRange_one]
  have h := sliceBounds_plain lo hi n
  unfold Builtin.Str.strSliceIndices
  simp only [sliceBounds, Option.getD_none] at h
  cases lo <;> cases hi <;> simp [clipAt_cast]

theorem cut_len {α : Type} (l : List α) (a b : Nat) : (cut l a b).length ≤ l.length := by
  unfold cut
  rw [List.length_take, List.length_drop]; (first | lia | omega)

section
variable {B : Base} {cx : Cx}

theorem sliceStr {l : List Nat} {t : Tok} {lo hi : Option (Int × Tok)} {s : Shared} {Q : Value → Shared → Prop} (hl : l.length ≤ LIM)
    (hQ : ∀ t' tk, Q (.str ⟨(cut l ((lo.map (·.1)).elim 0 (clipAt l.length)) ((hi.map (·.1)).elim l.length (clipAt l.length))).toArray⟩ t') { s with toks := tk }) :
    (sliceMade ⟨l.toArray⟩ t lo hi none).post Q s := by
  unfold sliceMade slicePicked
  simp only [Option.map_none, Option.getD_none]
  rw [idx_plain, strLen]
  have hb : (hi.map (·.1)).elim l.length (clipAt l.length) ≤ l.length := by
    cases hi with
    | none => exact Nat.le_refl _
    | some p => show clipAt l.length p.1 ≤ _; rw [clip_at]; exact clip_le _ _
  generalize (lo.map (·.1)).elim 0 (clipAt l.length) = a at *
  generalize (hi.map (·.1)).elim l.length (clipAt l.length) = b at *
  split
  · rename_i hc
    simp at hc
    have h0 : cut l a b = l := by
      unfold cut
      have hlen : b - a = l.length := by
        rcases hc with hc
        (first | lia | omega)
      by_cases h : l.length = 0
      · have : l = [] := List.eq_nil_of_length_eq_zero h
        subst this; simp
      · have ha : a = 0 := by (first | lia | omega)
        subst ha
        rw [List.drop_zero, hlen]; exact List.take_length
    have := hQ t s.toks
    rw [h0] at this
    exact this
  · have e : ((List.range (b - a)).map (a + ·)).filterMap ((⟨l.toArray⟩ : Str).cps[·]?) = cut l a b := by
      have := pick_run l.toArray a (b - a)
      simpa [cut] using this
    rw [e]
    refine ⟨?_, hQ _ _⟩
    rw [strLen, sizeLine_LIM]; exact Nat.le_trans (cut_len _ _ _) hl

/-- what a slice of a text, of a list leaves -/
theorem str_tail {C : Calls} {A : Around} {env : Env} {ρ : REnv} {μ μ' : List Addr} {σ : Store} {s s₃ : Shared} {l : List Nat} {t : Tok} {lo hi : Option (Int × Tok)} {vl vu : Value} {v : V} {σ' : Store} (X : Sit B C A cx env ρ μ' σ s₃) (p : Stp μ μ' s s₃) (hl : l.length ≤ LIM)
    (h : some (V.str (cut l ((lo.map (·.1)).elim 0 (clipAt l.length)) ((hi.map (·.1)).elim l.length (clipAt l.length))), σ) = some (v, σ')) {Q : Value → Shared → Prop} (hQ : ∀ v' s' μ', Sit B C A cx env ρ μ' σ' s' → Stp μ μ' s s' → Rep B.h₀ μ' s'.heap v' v → Q v' s') :
    (sliceMade ⟨l.toArray⟩ t lo hi none).post Q { s₃ with heap := s₃.heap.push { cls := .type "slice", data := .fields #[vl, vu, .none] } } := by
  obtain ⟨rfl, rfl⟩ := some_pair h
  have hgr : ∀ b o, s₃.heap.get? b = some o → (s₃.heap.push { cls := .type "slice", data := .fields #[vl, vu, .none] }).get? b = some o := fun b o h => Heap.get?_push_of_some _ h
  exact sliceStr hl fun t' tk => hQ _ _ _ (X.grown hgr) (p.trans (Stp.grown hgr)) (.str _ _ (Nat.le_trans (cut_len _ _ _) hl))
theorem list_tail {C : Calls} {A : Around} {env : Env} {ρ : REnv} {μ μ' : List Addr} {σ : Store} {s s₃ : Shared} {n : Nat} {xs : List V} {x' : Value} {lo hi : Option Int} {vl vu : Value} {v : V} {σ' : Store} (X : Sit B C A cx env ρ μ' σ s₃) (p : Stp μ μ' s s₃) (r : Rep B.h₀ μ' s₃.heap x' (.lst n)) (e : σ[n]? = some xs) (h1 : IsPart vl lo) (h2 : IsPart vu hi)
    (h : some (V.lst σ.length, σ ++ [cut xs (lo.elim 0 (clipAt xs.length)) (hi.elim xs.length (clipAt xs.length))]) = some (v, σ')) {Q : Value → Shared → Prop} (hQ : ∀ v' s' μ', Sit B C A cx env ρ μ' σ' s' → Stp μ μ' s s' → Rep B.h₀ μ' s'.heap v' v → Q v' s') :
    ∃ l items lo hi, x' = .ref l ∧ s₃.heap.IsList l items ∧ items.size ≤ sizeLine ∧ IsPart vl lo ∧ IsPart vu hi ∧
        Q (.ref (s₃.heap.objs.size + 1)) { s₃ with heap := (s₃.heap.push { cls := .type "slice", data := .fields #[vl, vu, .none] }).push { cls := .type "list", data := .seq (slicePick items lo hi none) } } := by
  obtain ⟨rfl, rfl⟩ := some_pair h
  obtain ⟨a, its, ep, rfl, ha, g1, l1, r1⟩ := r.at_list X.S e
  refine ⟨a, its.toArray, lo, hi, rfl, ⟨_, g1, rfl, _, rfl⟩, by rw [List.size_toArray, sizeLine_LIM]; exact l1, h1, h2, ?_⟩
  have hgr : ∀ b o, s₃.heap.get? b = some o → (s₃.heap.push { cls := .type "slice", data := .fields #[vl, vu, .none] }).get? b = some o := fun b o h => Heap.get?_push_of_some _ h
  rw [slicePick_plain]
  simp only [List.size_toArray]
  have X2 := X.grown (t := s₃.toks) hgr
  show Q _ { s₃ with heap := (s₃.heap.push { cls := .type "slice", data := .fields #[vl, vu, .none] }).push { cls := .type "list", data := .seq (List.toArray (cut its (lo.elim 0 (clipAt its.length)) (hi.elim its.length (clipAt its.length)))) } }
  rw [r1.length]
  have rr : Reps B.h₀ μ' (s₃.heap.push { cls := .type "slice", data := .fields #[vl, vu, .none] }) (cut its (lo.elim 0 (clipAt xs.length)) (hi.elim xs.length (clipAt xs.length))) (cut xs (lo.elim 0 (clipAt xs.length)) (hi.elim xs.length (clipAt xs.length))) := ((r1.drop _).take _).grown hgr
  obtain ⟨S', q, r⟩ := SOk.new (t := s₃.toks) X2.S rr (Nat.le_trans (cut_len _ _ _) l1)
  have hsz : ({ s₃ with heap := s₃.heap.push { cls := .type "slice", data := .fields #[vl, vu, .none] } } : Shared).heap.objs.size = s₃.heap.objs.size + 1 := Heap.size_push ..
  simp only [hsz] at S' q r
  exact hQ _ _ _ (X2.go S' q) (p.trans ((Stp.grown hgr).trans q)) r
theorem bCut_inv {σ : Store} {lo hi : Nat → Nat} {x : V} {r : V × Store} (h : bCut σ lo hi x = some r) : (∃ l, x = .str l ∧ some (V.str (cut l (lo l.length) (hi l.length)), σ) = some r) ∨ ∃ n xs, x = .lst n ∧ σ[n]? = some xs ∧ some (V.lst σ.length, σ ++ [cut xs (lo xs.length) (hi xs.length)]) = some r := by
  unfold bCut at h
  split at h
  · exact .inl ⟨_, rfl, h⟩
  · replace h := uLst_inv h
    obtain ⟨n, xs, rfl, e, h⟩ := h
    exact .inr ⟨n, xs, rfl, e, h⟩
theorem part_int {i : Int} {u : Tok} : IsPart (.int i u) (some i) := .int _ _
theorem snd_sliceF {a k : Expr} {a' k' : Ex} (ha : Snd B cx a a') (hk : Snd B cx k k') (ht : ∀ o r, letTemporaryGo a o r = pure ()) (p q : Pos) : Snd B cx (.Subscript a (.Slice (some k) none none q) p) (.bin .sliceF a' k') :=
  snd_of (fun {C A env ρ μ σ s} X {v σ'} hev {Q E} hQ => by
    obtain ⟨x, σ₁, y, σ₂, h1, h2, h3⟩ := ev_bin hev
    obtain ⟨i, rfl, h4⟩ := uInt_inv h3
    clear h3
    simp only [← clip_at] at h4
    rcases bCut_inv h4 with ⟨l, rfl, h⟩ | ⟨n, xs, rfl, e, h⟩
    · refine wpAny_Subscript_str_slice (two ha.1 hk.1 X h1 h2 fun x' y' s' μ' X' p' r r' => wpAny_pure ?_) ht
      obtain ⟨t, rfl, hl⟩ := r.inv_str
      obtain ⟨u, rfl⟩ := r'.inv_int
      exact ⟨_, t, some (i, u), none, rfl, rfl, rfl, str_tail (lo := some (i, u)) (hi := none) X' p' hl h hQ⟩
    · refine wpAny_Subscript_list_slice (two ha.1 hk.1 X h1 h2 fun x' y' s' μ' X' p' r r' => wpAny_pure ?_) ht
      obtain ⟨u, rfl⟩ := r'.inv_int
      exact list_tail (lo := some i) (hi := none) X' p' r e part_int .none h hQ) fun _ => rfl
theorem snd_sliceT {a k : Expr} {a' k' : Ex} (ha : Snd B cx a a') (hk : Snd B cx k k') (ht : ∀ o r, letTemporaryGo a o r = pure ()) (p q : Pos) : Snd B cx (.Subscript a (.Slice none (some k) none q) p) (.bin .sliceT a' k') :=
  snd_of (fun {C A env ρ μ σ s} X {v σ'} hev {Q E} hQ => by
    obtain ⟨x, σ₁, y, σ₂, h1, h2, h3⟩ := ev_bin hev
    obtain ⟨i, rfl, h4⟩ := uInt_inv h3
    clear h3
    simp only [← clip_at] at h4
    rcases bCut_inv h4 with ⟨l, rfl, h⟩ | ⟨n, xs, rfl, e, h⟩
    · refine wpAny_Subscript_str_slice (ha.1 X h1 fun x' s₁ μ₁ X₁ p₁ r₁ => wpAny_pure (hk.1 X₁ h2 fun y' s' μ' X' p' r' => ?_)) ht
      obtain ⟨t, rfl, hl⟩ := r₁.inv_str
      obtain ⟨u, rfl⟩ := r'.inv_int
      exact ⟨_, t, none, some (i, u), rfl, rfl, rfl, str_tail (lo := none) (hi := some (i, u)) X' (p₁.trans p') hl h hQ⟩
    · refine wpAny_Subscript_list_slice (ha.1 X h1 fun x' s₁ μ₁ X₁ p₁ r₁ => wpAny_pure (hk.1 X₁ h2 fun y' s' μ' X' p' r' => ?_)) ht
      obtain ⟨u, rfl⟩ := r'.inv_int
      exact list_tail (lo := none) (hi := some i) X' (p₁.trans p') (r₁.step X₁.S p') e .none part_int h hQ) fun _ => rfl

theorem snd_slice {a k j : Expr} {a' k' j' : Ex} (ha : Snd B cx a a') (hk : Snd B cx k k') (hj : Snd B cx j j') (ht : ∀ o r, letTemporaryGo a o r = pure ()) (p q : Pos) : Snd B cx (.Subscript a (.Slice (some k) (some j) none q) p) (.slice a' k' j') :=
  snd_of (fun {C A env ρ μ σ s} X {v σ'} hev {Q E} hQ => by
    simp only [ev] at hev
    split at hev
    · rename_i x σ₁ h1
      split at hev
      · rename_i lo σ₂ h2
        split at hev
        · rename_i hi σ₃ h3
          split at hev
          · rename_i x l
            cases hev
            refine wpAny_Subscript_str_slice (ha.1 X h1 fun x' s₁ μ₁ X₁ p₁ r₁ => hk.1 X₁ h2 fun y' s₂ μ₂ X₂ p₂ r₂ => hj.1 X₂ h3 fun z' s₃ μ₃ X₃ p₃ r₃ => ?_) ht
            obtain ⟨t, rfl, hl⟩ := r₁.inv_str
            obtain ⟨u, rfl⟩ := r₂.inv_int
            obtain ⟨u', rfl⟩ := r₃.inv_int
            exact ⟨_, t, some (lo, u), some (hi, u'), rfl, rfl, rfl, str_tail (lo := some (lo, u)) (hi := some (hi, u')) X₃ (p₁.trans (p₂.trans p₃)) hl (by simp only [Option.map_some, Option.elim, clip_at]) hQ⟩
          · first | exact noSome hev | cases hev
        · first | exact noSome hev | cases hev
      · first | exact noSome hev | cases hev
    · cases hev) fun _ => rfl
end
end Mine
end

section
open PySem PySem.W PyProof.Rows PySem.Calls PySem.SeqAt
set_option Elab.async false
set_option linter.unusedVariables false
namespace Mine
theorem LIM_eq : LIM = 16777216 := rfl
theorem ints_len' : ∀ {its : List Value} {l : List Int}, IntsAre its l → its.length = l.length
  | _, _, .nil => rfl
  | _, _, .cons _ _ h => by rw [List.length_cons, List.length_cons, ints_len' h]
theorem uLen_inv {σ : Store} {x : V} {r : V × Store} (h : uLen σ x = some r) : (∃ l, x = .str l ∧ some (V.int l.length, σ) = some r) ∨ (∃ l, x = .tup l ∧ some (V.int l.length, σ) = some r) ∨ (∃ l, x = .ro l ∧ some (V.int l.length, σ) = some r) ∨ ∃ n xs, x = .lst n ∧ σ[n]? = some xs ∧ some (V.int xs.length, σ) = some r := by
  unfold uLen at h
  split at h
  · exact .inl ⟨_, rfl, h⟩
  · exact .inr (.inl ⟨_, rfl, h⟩)
  · exact .inr (.inr (.inl ⟨_, rfl, h⟩))
  · replace h := uLst_inv h
    obtain ⟨n, xs, rfl, e, h⟩ := h
    exact .inr (.inr (.inr ⟨n, xs, rfl, e, h⟩))
section
variable {B : Base}

theorem opU_len : OpU B .len (fun v => call (.builtin "len") [v]) := by
  intro A μ σ s x' x v σ' R S rx h Q E hQ
  have hL := LIM_eq
  replace h := uLen_inv h
  rcases h with ⟨l, rfl, h⟩ | ⟨l, rfl, h⟩ | ⟨l, rfl, h⟩ | ⟨n, xs, rfl, e1, h⟩
  · obtain ⟨rfl, rfl⟩ := some_pair h
    obtain ⟨t, rfl, hl⟩ := rx.inv_str
    refine len_str (by rw [strLen]; (first | lia | omega)) ?_
    rw [strLen]
    exact hQ _ _ _ S .tok (.int _ _)
  · obtain ⟨rfl, rfl⟩ := some_pair h
    obtain ⟨a, its, n, rfl, g, hl, rr⟩ := rx.inv_tup
    refine PySem.P.len_tuple g (by rw [List.size_toArray]; (first | lia | omega)) ?_
    rw [List.size_toArray, rr.length]
    exact hQ _ _ _ S .tok (.int _ _)
  · obtain ⟨rfl, rfl⟩ := some_pair h
    obtain ⟨a, its, rfl, hl, hb, hi⟩ := rx.inv_ro
    have hL : s.heap.IsList a its.toArray := let ⟨o, ho, r⟩ := hl; ⟨o, S.base _ _ ho, r⟩
    refine call_len_list hL (by rw [List.size_toArray]; (first | lia | omega)) ?_
    rw [List.size_toArray, ints_len' hi]
    exact hQ _ _ _ S .tok (.int _ _)
  · obtain ⟨rfl, rfl⟩ := some_pair h
    obtain ⟨a, its, ep, rfl, ha, g1, l1, r1⟩ := rx.at_list S e1
    refine call_len_list ⟨_, g1, rfl, _, rfl⟩ (by rw [List.size_toArray]; (first | lia | omega)) ?_
    rw [List.size_toArray, r1.length]
    exact hQ _ _ _ S .tok (.int _ _)
theorem one_inv {l : List Nat} {c : Nat} (h : one l = some c) : l = [c] := by
  unfold one at h
  split at h
  · rw [Option.some.inj h]
  · first | exact noSome h | cases h
theorem opU_ord : OpU B .ord (fun v => call (.builtin "ord") [v]) := by
  intro A μ σ s x' x v σ' R S rx h Q E hQ
  obtain ⟨l, rfl, h2⟩ := uStr_inv h
  obtain ⟨c, hc, rfl, rfl⟩ := map_pair (f := fun c : Nat => V.int c) h2
  obtain ⟨t, rfl, hl⟩ := rx.inv_str
  obtain rfl := one_inv hc
  exact PySem.P.ord_of_char (hQ _ _ _ S .tok (.int _ _))
theorem opU_chr : OpU B .chr (fun v => call (.builtin "chr") [v]) := by
  intro A μ σ s x' x v σ' R S rx h Q E hQ
  replace h := uInt_inv h
  obtain ⟨i, rfl, h⟩ := h
  obtain ⟨⟨h0, h1⟩, rfl, rfl⟩ := if_some h
  obtain ⟨t, rfl⟩ := rx.inv_int
  refine PySem.P.chr_of_int ?_ (hQ _ _ _ S .tok (.str [i.toNat] _ (by show 1 ≤ 16777216; decide)))
  rw [decide_eq_false (Int.not_lt.mpr h0), decide_eq_false (show ¬ i > 1114111 by (first | lia | omega))]; rfl
theorem opB_min : OpB B .min (fun a b => call (.builtin "min") [a, b]) := fun {A μ σ s x' y' x y v σ'} R S rx ry h {Q E} hQ => opB_ints (t := fun a b => call (.builtin "min") [a, b]) rx ry h fun a b t u h => by
  obtain ⟨rfl, rfl⟩ := some_pair h
  refine min_two_ints R.hd fun h' tk hk => ?_
  refine hQ (if b < a then .int b u else .int a t) { s with heap := h', toks := tk } μ (S.grown hk) (Stp.grown hk) ?_
  split
  · exact .int _ _
  · exact .int _ _
theorem opU_range : OpU B .range (fun v => call (.type "range") [v]) := by
  intro A μ σ s x' x v σ' R S rx h Q E hQ
  replace h := uInt_inv h
  obtain ⟨n, rfl, h⟩ := h
  obtain ⟨⟨h0, h1⟩, rfl, rfl⟩ := if_some h
  obtain ⟨t, rfl⟩ := rx.inv_int
  have hgr : ∀ b o, s.heap.get? b = some o → (s.heap.push { cls := .type "range", data := .fields #[.int 0 s.toks, .int n t, .int 1 (s.toks + 1)] }).get? b = some o := fun b o h => Heap.get?_push_of_some _ h
  refine call_range_1 (hQ _ _ _ (S.grown hgr) (Stp.grown hgr) (.rng (IsRange.new ..) (small_one (by (first | lia | omega)) (by (first | lia | omega)) (by (first | lia | omega)) (by (first | lia | omega))) ?_))
  rw [rangeSize_one]
  split <;> (first | lia | omega)
theorem opB_down {A : Around} {μ : List Addr} {σ : Store} {s : Shared} {x' y' : Value} {x y v : V} {σ' : Store} (R : Rm A 0) (S : SOk B.h₀ μ σ s.heap) (rx : Rep B.h₀ μ s.heap x' x) (ry : Rep B.h₀ μ s.heap y' y) (h : evB .down x y σ = some (v, σ'))
    {w' : Tok} {Q : Value → Shared → Prop} {E : Value → Shared → Prop} (hQ : Out B μ s σ' v Q) : wpAny (model B.prog B.w) A (call (.type "range") [x', y', .int (-1) w']) Q E s := by
  replace h := bInt_inv h
  obtain ⟨a, b, rfl, rfl, h⟩ := h
  obtain ⟨⟨h0, rfl, h2⟩, rfl, rfl⟩ := if_some h
  obtain ⟨t, rfl⟩ := rx.inv_int
  obtain ⟨u, rfl⟩ := ry.inv_int
  have hgr : ∀ b o, s.heap.get? b = some o → (s.heap.push { cls := .type "range", data := .fields #[.int a t, .int (-1) u, .int (-1) w'] }).get? b = some o := fun b o h => Heap.get?_push_of_some _ h
  have hsz : Builtin.Range.rangeSize a (-1) (-1) = ((a + 1).toNat : Int) := by
    unfold Builtin.Range.rangeSize; simp; (first | lia | omega)
  refine call_range_3 (by decide) (hQ _ _ _ (S.grown hgr) (Stp.grown hgr) (.rng (IsRange.new ..) ?_ hsz)) (Or.inl (PyProof.noPylong_small (by decide)))
  unfold Builtin.Range.small
  rw [hsz]
  simp [Builtin.Range.rangeFitsLong]
  (first | lia | omega)
theorem opU_list : OpU B .list (fun v => call (.type "list") [v]) := by
  intro A μ σ s x' x v σ' R S rx h Q E hQ
  replace h := uLst_inv h
  obtain ⟨n, xs, rfl, e1, h⟩ := h
  obtain ⟨rfl, rfl⟩ := some_pair h
  obtain ⟨a, its, ep, rfl, ha, g1, l1, r1⟩ := rx.at_list S e1
  refine call_list_seq a (Or.inl rfl) g1 rfl rfl (fun h' c' hk hg => ?_) (by rw [List.size_toArray, sizeLine_LIM]; exact l1)
  obtain ⟨S', p, r⟩ := SOk.newAt (t := s.toks) S hk (free_size _) hg (r1.grown hk) l1
  exact hQ _ _ _ S' p r
theorem isTupV_inv {x : V} {b : Bool} (h : isTupV x = some b) : (∃ l, x = .tup l ∧ b = true) ∨ (∃ i, x = .int i ∧ b = false) := by
  unfold isTupV at h
  split at h
  · exact .inl ⟨_, rfl, (Option.some.inj h).symm⟩
  · exact .inr ⟨_, rfl, (Option.some.inj h).symm⟩
  · first | exact noSome h | cases h
theorem opB_isTup : ∀ {A : Around} {μ : List Addr} {σ : Store} {s : Shared} {x' : Value} {x v : V} {σ' : Store}, Rm A 0 → SOk B.h₀ μ σ s.heap → Rep B.h₀ μ s.heap x' x → evU B.T .isTup x σ = some (v, σ') →
  ∀ {Q : Value → Shared → Prop} {E : Value → Shared → Prop}, Out B μ s σ' v Q → wpAny (model B.prog B.w) A (call (.builtin "isinstance") [x', .type "tuple"]) Q E s := by
  intro A μ σ s x' x v σ' R S rx h Q E hQ
  obtain ⟨b, hb, rfl, rfl⟩ := map_pair h
  rcases isTupV_inv hb with ⟨l, rfl, rfl⟩ | ⟨i, rfl, rfl⟩
  · obtain ⟨a, its, n, rfl, g, hl, rr⟩ := rx.inv_tup
    exact PySem.IsiPair.tuple_tuple g rfl (hQ _ _ _ S (.refl _ _) (.bool _))
  · obtain ⟨t, rfl⟩ := rx.inv_int
    exact PySem.IsiPair.int_tuple (hQ _ _ _ S .tok (.bool _))
end
end Mine
end

section
open PySem PySem.W PyProof.Rows PySem.Calls PySem.SeqAt
set_option Elab.async false
set_option linter.unusedVariables false
namespace Mine

theorem Stp.at {μ μ' : List Addr} {s s' : Shared} (p : Stp μ μ' s s') {n : Nat} {a : Addr} (h : μ[n]? = some a) : μ'[n]? = some a := by
  obtain ⟨ν, hν, _⟩ := p.pre
  rw [hν, List.getElem?_append_left (List.getElem?_eq_some_iff.mp h).1]; exact h
/-- what holds of the world behind the top -/
structure BOk (B : Base) : Prop where
  g : B.h₀.Ns mainGlobals B.mg
  b : B.h₀.Ns builtinsNs B.mb
  built : ∀ x : Str, x ≠ "__name__" → B.mb x = bootBuiltins x
  nolimit : B.h₀.NoLimit

section
variable {B : Base} {cx : Cx} {C : Calls} {A : Around} {env : Env} {ρ : REnv} {μ : List Addr} {σ : Store} {s : Shared} {Q : Value → Shared → Prop} {E : Value → Shared → Prop}

theorem load_glob (hB : BOk B) {n : Str} {v : Value} (hk : cx.scope.names.lookup n = some .globalImplicit) (hv : B.mg n = some v) (hd : (n == ("__debug__" : Str)) = false) (X : Sit B C A cx env ρ μ σ s) (p : Pos) (h : Q v s) :
    wpAny (model B.prog B.w) A (eval (.Name n p) env) Q E s := by
  refine Name_function_global (by rw [X.F.sc]; exact X.F.fk) ((X.F.kindOf n).trans hk) (loadGlobal_global (mg := B.mg) ?_ hv h) hd
  rw [X.F.gl]; exact hB.g.keeps X.S.base
theorem load_boot (hB : BOk B) {n : Str} {v : Value} (hk : cx.scope.names.lookup n = some .globalImplicit) (hm : B.mg n = none) (hv : bootBuiltins n = some v) (hn : n ≠ "__name__") (hd : (n == ("__debug__" : Str)) = false) (X : Sit B C A cx env ρ μ σ s) (p : Pos) (h : Q v s) :
    wpAny (model B.prog B.w) A (eval (.Name n p) env) Q E s := by
  refine Name_function_global (by rw [X.F.sc]; exact X.F.fk) ((X.F.kindOf n).trans hk) (loadGlobal_builtin (mg := B.mg) (mb := B.mb) ?_ hm ?_ ((hB.built n hn).trans hv) h) hd
  · rw [X.F.gl]; exact hB.g.keeps X.S.base
  · rw [X.F.bl]; exact hB.b.keeps X.S.base
end

noncomputable def eStr (l : Str) : Value → Bool
  | .str b _ => b == l
  | _ => false
theorem strs_ok {h₀ : Heap} {μ : List Addr} {h : Heap} {l : List Nat} {u : Tok} : ∀ {its : List Value} {xs : List V}, Reps h₀ μ h its xs → xs.all isStr = true →
    (∀ y ∈ its, MeetsSeq.EqGives y (.str ⟨l.toArray⟩ u) (eStr ⟨l.toArray⟩ y)) ∧ ∀ m (hm : m < its.length) (hm' : m < (xs.map strOf).length), eStr ⟨l.toArray⟩ its[m] = ((xs.map strOf)[m] == l)
  | its, [], r, _ => by
    obtain rfl := r.inv_nil
    exact ⟨fun y hy => (nomatch hy), fun m hm => absurd hm (Nat.not_lt_zero _)⟩
  | its, x :: xs, r, hall => by
    obtain ⟨v, vs, rfl, rv, rr⟩ := r.inv_cons
    obtain ⟨hx, hall⟩ := all_cons hall
    obtain ⟨i1, i2⟩ := strs_ok (u := u) (l := l) rr hall
    obtain ⟨a, rfl⟩ := isStr_inv hx
    obtain ⟨t, rfl, _⟩ := rv.inv_str
    refine ⟨fun y hy => ?_, fun m hm hm' => ?_⟩
    · rcases List.mem_cons.mp hy with rfl | hy
      · exact eqGives_str _ _ _ _
      · exact i1 y hy
    · cases m with
      | zero => exact strBeq a l
      | succ m => exact i2 m (Nat.lt_of_succ_lt_succ hm) (Nat.lt_of_succ_lt_succ hm')
section
variable {B : Base} {cx : Cx}
theorem snd_glob (hB : BOk B) {n : Str} {i : Int} {t : Tok} (hk : cx.scope.names.lookup n = some .globalImplicit) (hv : B.mg n = some (.int i t)) (hd : (n == ("__debug__" : Str)) = false) (p : Pos) : Snd B cx (.Name n p) (.int i) :=
  snd_of (fun X => fun hev => fun hQ => by
    cases hev
    exact load_glob hB hk hv hd X p (hQ _ _ _ X (.refl _ _) (.int _ _))) fun _ => rfl

noncomputable abbrev Plain (e : Expr) : Prop := ∀ (es : List Expr) (env : Env), starEach (e :: es) env = (false, eval e env) :: starEach es env
noncomputable abbrev NoStars (es : List Expr) : Prop := ∀ (pos : Pos) (env : Env), (backTo pos (starEach es env)).any (·.1) = false

theorem snd_call1 (hB : BOk B) {n : Str} {id : String} {o : Uop} {a : Expr} {a' : Ex} (hk : cx.scope.names.lookup n = some .globalImplicit) (hm : B.mg n = none) (hv : bootBuiltins n = some (.builtin id)) (hn : n ≠ "__name__") (hd : (n == ("__debug__" : Str)) = false)
    (ho : OpU B o (fun v => call (.builtin id) [v])) (ha : Snd B cx a a') (hs : Plain a) (p pos : Pos) : Snd B cx (.Call (.Name n p) [a] [] pos) (.un o a') :=
  snd_of (fun X => fun hev => fun hQ => by
    obtain ⟨x, σ₁, h1, h3⟩ := ev_un hev
    refine Call_ (load_boot hB hk hm hv hn hd X p (callWith_builtin1 (he := hs _ _) (args_cons (he := hs _ _) (ha.1 X h1 fun x' s' μ' X' p' r => args_nil ?_))))
    exact ho X'.R X'.S r h3 fun v' s'' μ'' S'' p'' r'' => hQ _ _ _ (X'.go S'' p'') (p'.trans p'') r'') fun _ => rfl
theorem snd_type1 (hB : BOk B) {n : Str} {T : String} {o : Uop} {a : Expr} {a' : Ex} (hk : cx.scope.names.lookup n = some .globalImplicit) (hm : B.mg n = none) (hv : bootBuiltins n = some (.type T)) (hn : n ≠ "__name__") (hd : (n == ("__debug__" : Str)) = false)
    (ho : OpU B o (fun v => call (.type T) [v])) (ha : Snd B cx a a') (hs : Plain a) (p pos : Pos) : Snd B cx (.Call (.Name n p) [a] [] pos) (.un o a') :=
  snd_of (fun X => fun hev => fun hQ => by
    obtain ⟨x, σ₁, h1, h3⟩ := ev_un hev
    refine Call_ (load_boot hB hk hm hv hn hd X p (PyProof.Rows.callWith_type1 (he := hs _ _) (args_cons (he := hs _ _) (ha.1 X h1 fun x' s' μ' X' p' r => args_nil ?_))))
    exact ho X'.R X'.S r h3 fun v' s'' μ'' S'' p'' r'' => hQ _ _ _ (X'.go S'' p'') (p'.trans p'') r'') fun _ => rfl
theorem snd_call2 (hB : BOk B) {n : Str} {id : String} {o : Bop} {a b : Expr} {a' b' : Ex} (hk : cx.scope.names.lookup n = some .globalImplicit) (hm : B.mg n = none) (hv : bootBuiltins n = some (.builtin id)) (hn : n ≠ "__name__") (hd : (n == ("__debug__" : Str)) = false)
    (ho : OpB B o (fun v u => call (.builtin id) [v, u])) (ha : Snd B cx a a') (hb : Snd B cx b b') (hs : Plain a) (hs2 : Plain b) (hns : NoStars [b]) (p pos : Pos) : Snd B cx (.Call (.Name n p) [a, b] [] pos) (.bin o a' b') :=
  snd_of (fun X => fun hev => fun hQ => by
    obtain ⟨x, σ₁, y, σ₂, h1, h2, h3⟩ := ev_bin hev
    refine Call_ (load_boot hB hk hm hv hn hd X p (callWith_builtin1 (he := hs _ _) (hplain := hns _ _) (args_cons (he := hs _ _) (ha.1 X h1 fun x' s' μ' X' p' r => args_cons (he := hs2 _ _) (hb.1 X' h2 fun y' s'' μ'' X'' p'' r'' => args_nil ?_)))))
    exact ho X''.R X''.S (r.step X'.S p'') r'' h3 fun v' s₃ μ₃ S₃ p₃ r₃ => hQ _ _ _ (X''.go S₃ p₃) (p'.trans (p''.trans p₃)) r₃) fun _ => rfl
theorem snd_down (hB : BOk B) {a b c : Expr} {a' b' : Ex} (hk : cx.scope.names.lookup ("range" : Str) = some .globalImplicit) (hm : B.mg "range" = none)
    (ha : Snd B cx a a') (hb : Snd B cx b b') (hc : Snd B cx c (.un .neg (.int 1))) (hs : Plain a) (hs2 : Plain b) (hs3 : Plain c) (hns : NoStars [b, c]) (p pos : Pos) : Snd B cx (.Call (.Name "range" p) [a, b, c] [] pos) (.bin .down a' b') :=
  snd_of (fun X => fun hev => fun hQ => by
    obtain ⟨x, σ₁, y, σ₂, h1, h2, h3⟩ := ev_bin hev
    refine Call_ (load_boot hB hk hm Boot.«range» (by decide) (by decide) X p (PyProof.Rows.callWith_type1 (he := hs _ _) (hplain := hns _ _) (args_cons (he := hs _ _) (ha.1 X h1 fun x' s' μ' X' p' r => args_cons (he := hs2 _ _) (hb.1 X' h2 fun y' s'' μ'' X'' p'' r'' => args_cons (he := hs3 _ _) (hc.1 X'' (v := .int (-1)) (σ' := σ₂) (by simp only [ev, evU, uInt_int]) fun z' s₄ μ₄ X₄ p₄ r₄ => args_nil ?_))))))
    obtain ⟨w, rfl⟩ := r₄.inv_int
    exact opB_down X₄.R X₄.S ((r.step X'.S p'').step X''.S p₄) (r''.step X''.S p₄) h3 fun v' s₃ μ₃ S₃ p₃ r₃ => hQ _ _ _ (X₄.go S₃ p₃) (p'.trans (p''.trans (p₄.trans p₃))) r₃) fun _ => rfl
theorem snd_isTup (hB : BOk B) {a : Expr} {a' : Ex} {q : Pos} (hk : cx.scope.names.lookup ("isinstance" : Str) = some .globalImplicit) (hm : B.mg "isinstance" = none) (hk2 : cx.scope.names.lookup ("tuple" : Str) = some .globalImplicit) (hm2 : B.mg "tuple" = none)
    (ha : Snd B cx a a') (hs : Plain a) (p pos : Pos) : Snd B cx (.Call (.Name "isinstance" p) [a, .Name "tuple" q] [] pos) (.un .isTup a') :=
  snd_of (fun X => fun hev => fun hQ => by
    obtain ⟨x, σ₁, h1, h3⟩ := ev_un hev
    refine Call_ (load_boot hB hk hm Boot.«isinstance» (by decide) (by decide) X p (callWith_builtin1 (he := hs _ _) (hplain := rfl) (args_cons (he := hs _ _) (ha.1 X h1 fun x' s' μ' X' p' r => args_cons (he := rfl) (load_boot hB hk2 hm2 Boot.«tuple» (by decide) (by decide) X' q (args_nil ?_))))))
    exact opB_isTup X'.R X'.S r h3 fun v' s'' μ'' S'' p'' r'' => hQ _ _ _ (X'.go S'' p'') (p'.trans p'') r'') fun _ => rfl
theorem snd_def (hB : BOk B) {n : Str} {f : Nat} {a : Addr} {o : Obj} {fd : FuncData} {e : Expr} {es : List Expr} {cs : Exs} (hk : cx.scope.names.lookup n = some .globalImplicit) (hv : B.mg n = some (.ref a)) (hat : B.at' f = some a) (ho : B.h₀.get? a = some o) (hf : o.data = .func fd) (hd : (n == ("__debug__" : Str)) = false)
    (hes : SndL B cx (e :: es) cs) (hs : Plain e) (p pos : Pos) : Snd B cx (.Call (.Name n p) (e :: es) [] pos) (.call f cs) :=
  snd_of (fun X => fun hev => fun hQ => by
    simp only [ev] at hev
    split at hev
    · rename_i vs σ₁ h1
      refine Call_ (load_glob hB hk hv hd X p (callWith_def hf (he := hs _ _) (hes X h1 fun vs' s' μ' X' p' r => ⟨X'.S.base _ _ ho, ?_⟩)))
      exact X'.calls f a vs σ₁ _ _ hat hev μ' s' vs' X'.S X'.gens r _ _ fun v' s'' μ'' S'' p'' r'' => hQ _ _ _ (X'.go S'' p'') (p'.trans p'') r''
    · cases hev) fun _ => rfl

/-- a list stands where it stood -/
theorem Rep.list_later {h₀ : Heap} {μ μ' : List Addr} {σ : Store} {s s' : Shared} {v : Value} {n : Nat} {xs : List V} (r : Rep h₀ μ s.heap v (.lst n)) (p : Stp μ μ' s s') (S : SOk h₀ μ' σ s'.heap) (e : σ[n]? = some xs) :
    AtList h₀ μ' s'.heap v n xs := by
  obtain ⟨a, rfl, ha⟩ := r.inv_lst
  exact Rep.at_list (.lst (p.at ha)) S e
/-- a method of a list -/
theorem method_list {μ : List Addr} {σ : Store} {s : Shared} {prog : Program} {w : World} {A : Around} {E : Value → Shared → Prop} {h₀ : Heap} {name : Str} {id : String} {v : Value} {n : Nat} {pos : Pos} {args : List (Bool × Sem Value)} {Q : Value → Shared → Prop} (r : Rep h₀ μ s.heap v (.lst n)) (S : SOk h₀ μ σ s.heap)
    (slot : Slot "list" name id) (ty : typeOf (.builtin id) = pure (.type "method_descriptor")) (h : ∀ a, v = .ref a → wpAny (model prog w) A (callWith pos (.builtin id) [.ref a] args []) Q E s) : MethodOnS prog w A E name v pos args Q s := by
  obtain ⟨a, rfl, ha⟩ := r.inv_lst
  obtain ⟨xs0, its0, ep0, _, g0, _, _⟩ := S.list ha
  exact ⟨"list", id, F.plainAttrs_list, slot, ty, ⟨_, g0, rfl⟩, fun b e => by obtain rfl := Value.ref.inj e; exact ⟨_, g0, rfl⟩, h a rfl⟩

/-- a method of a list with one argument -/
theorem snd_append {a b : Expr} {a' b' : Ex} {ap pos : Pos} (ha : Snd B cx a a') (hb : Snd B cx b b') (hbase : ∀ env, attributeBase a "append" env (eval a env) = eval a env) (hs : Plain b) (hline : (ap.endLine == pos.line) = true) :
    Snd B cx (.Call (.Attribute a "append" ap) [b] [] pos) (.bin .append a' b') :=
  snd_of (fun {C A env ρ μ σ s} X {v σ'} hev {Q E} hQ => by
    obtain ⟨x, σ₁, y, σ₂, h1, h2, h3⟩ := ev_bin hev
    obtain ⟨n, xs, rfl, e1, h4⟩ := uLst_inv h3
    obtain ⟨hl, rfl, rfl⟩ := if_some h4
    refine Call_method1 (hbase _) (hs _ _) hline (ha.1 X h1 fun x' s' μ' X' p' r => method_list r X'.S F.slot_list_append F.type_list_append fun l el => PySem.P.append_list (hb.1 X' h2 fun y' s'' μ'' X'' p'' r'' => ?_))
    obtain ⟨a', its, ep, e2, hm, g1, l1, r1⟩ := (el ▸ r).list_later p'' X''.S e1
    obtain rfl := Value.ref.inj e2
    refine ⟨its.toArray, ep, by rw [List.size_toArray, sizeLine_LIM, r1.length]; exact Nat.le_of_lt hl, g1, ?_⟩
    obtain ⟨S', q⟩ := SOk.put (t := s''.toks) (items' := its ++ [y']) (f := fun xs => xs.push y') X''.S hm g1 (by simp) (r1.append (.cons r'' .nil)) (by rw [List.length_append, r1.length]; exact hl)
    exact hQ _ _ _ (X''.go S' q) (p'.trans (p''.trans q)) .none) fun _ => rfl

theorem snd_index {a b : Expr} {a' b' : Ex} {ap pos : Pos} (ha : Snd B cx a a') (hb : Snd B cx b b') (hbase : ∀ env, attributeBase a "index" env (eval a env) = eval a env) (hs : Plain b) (hline : (ap.endLine == pos.line) = true) :
    Snd B cx (.Call (.Attribute a "index" ap) [b] [] pos) (.bin .index a' b') :=
  snd_of (fun {C A env ρ μ σ s} X {v σ'} hev {Q E} hQ => by
    obtain ⟨x, σ₁, y, σ₂, h1, h2, h3⟩ := ev_bin hev
    obtain ⟨n, xs, rfl, e1, h4⟩ := uLst_inv h3
    obtain ⟨l, rfl, h5⟩ := uStr_inv h4
    obtain ⟨⟨hall, hlt⟩, rfl, rfl⟩ := if_some h5
    refine Call_method1 (hbase _) (hs _ _) hline (ha.1 X h1 fun x' s' μ' X' p' r => method_list r X'.S F.slot_list_index F.type_list_index fun ad el => PySem.P.index_list (hb.1 X' h2 fun y' s'' μ'' X'' p'' r'' => ?_))
    obtain ⟨a', its, ep, e2, hm, g1, l1, r1⟩ := (el ▸ r).list_later p'' X''.S e1
    obtain rfl := Value.ref.inj e2
    obtain ⟨u, rfl, hl⟩ := r''.inv_str
    obtain ⟨k1, k2⟩ := strs_ok (u := u) (l := l) r1 hall
    have hj : (xs.map strOf).idxOf l < its.length := by rw [r1.length]; exact hlt
    have hj' : (xs.map strOf).idxOf l < (xs.map strOf).length := by rw [List.length_map]; exact hlt
    have hat : ∀ m (hm : m < its.length), eStr ⟨l.toArray⟩ its[m] = ((xs.map strOf)[m]'(by rw [List.length_map, ← r1.length]; exact hm) == l) := fun m hm => k2 m hm _
    refine ⟨its.toArray, ep, eStr ⟨l.toArray⟩, (xs.map strOf).idxOf l, by simpa using hj, g1, fun y hy => k1 y (by simpa using hy), by have hL := LIM_eq; (first | lia | omega), ?_, fun m hm hlt' => ?_, ?_⟩
    · have := hat _ hj
      simp only [List.getElem_toArray]
      rw [this]; simp
    · have := hat m (by simpa using hm)
      simp only [List.getElem_toArray]
      rw [this]
      exact by simpa using List.not_of_lt_findIdx (p := (· == l)) hlt'
    · exact hQ _ _ _ (X''.grown fun _ _ h => h) (p'.trans (p''.trans Stp.tok)) (.int _ _)) fun _ => rfl

theorem snd_pop {a : Expr} {a' : Ex} {ap pos : Pos} (ha : Snd B cx a a') (hbase : ∀ env, attributeBase a "pop" env (eval a env) = eval a env) (hline : (ap.endLine == pos.line) = true) :
    Snd B cx (.Call (.Attribute a "pop" ap) [] [] pos) (.un .pop a') :=
  snd_of (fun {C A env ρ μ σ s} X {v σ'} hev {Q E} hQ => by
    obtain ⟨x, σ₁, h1, h3⟩ := ev_un hev
    obtain ⟨n, xs, rfl, e1, h4⟩ := uLst_inv h3
    cases hy : xs.getLast? with
    | none => rw [hy] at h4; cases h4
    | some y =>
      rw [hy] at h4
      obtain ⟨rfl, rfl⟩ := some_pair h4
      refine Call_method0 (hbase _) hline (ha.1 X h1 fun x' s' μ' X' p' r => method_list r X'.S F.slot_list_pop F.type_list_pop fun ad el => ?_)
      obtain ⟨a', its, ep, e2, hm, g1, l1, r1⟩ := (el ▸ r).at_list X'.S e1
      obtain rfl := Value.ref.inj e2
      rw [List.getLast?_eq_getElem?] at hy
      obtain ⟨y', hy', ry⟩ := r1.get hy
      rw [← r1.length] at hy'
      have hne : its.length - 1 < its.length := (List.getElem?_eq_some_iff.mp hy').1
      refine PySem.P.pop_list g1 (y := y') (by simpa using hy') ?_ (by rw [List.size_toArray, sizeLine_LIM]; exact l1)
      obtain ⟨S', q⟩ := SOk.put (t := s'.toks) (items' := its.take (its.length - 1)) (xs' := xs.dropLast) (f := fun xs => xs.eraseIdxIfInBounds (its.toArray.size - 1)) X'.S hm g1 (by
          rw [List.size_toArray, Array.eraseIdxIfInBounds_eq, dif_pos (by rw [List.size_toArray]; exact hne)]
          simp
          rw [List.dropLast_eq_take]) (by rw [List.dropLast_eq_take, r1.length]; exact r1.take _) (Nat.le_trans (List.length_take_le _ _) (Nat.le_trans (Nat.sub_le _ _) l1))
      exact hQ _ _ _ (X'.go S' q) (p'.trans q) (ry.step X'.S q)) fun _ => rfl
end
end Mine
end

section
open PySem PySem.W PyProof.Rows PySem.Calls PySem.SeqAt
set_option Elab.async false
set_option linter.unusedVariables false
namespace Mine

/-- the world's tables -/
structure TabOk (B : Base) : Prop where
  b1 : ∃ a n, B.mg "b1_set" = some (.ref a) ∧ B.h₀.SetOf (intKind B.prog B.w) a (fun k => B.T.b1.contains k) n
  b3 : ∃ a f, B.mg "b3_exceptions" = some (.ref a) ∧ (a == sysModules) = false ∧ B.h₀.MapOf (intKind B.prog B.w) a f ∧ ∀ k, match B.T.b3.lookup k with
    | none => f k = none
    | some l => l.length ≤ LIM ∧ ∃ t, f k = some (.str ⟨l.toArray⟩ t)
  tok : ∃ a f, B.mg "EXACT_TOKEN_TYPES" = some (.ref a) ∧ (a == sysModules) = false ∧ B.h₀.MapOf (PySem.strKind B.prog B.w) a f ∧ ∀ k : List Nat, match B.T.tok.lookup k with
    | none => f ⟨k.toArray⟩ = none
    | some i => ∃ t, f ⟨k.toArray⟩ = some (.int i t)

theorem mapUp {prog : Program} {w : World} {K : Type} [DecidableEq K] {knd : KeyKind prog w K} {h h' : Heap} {a : Addr} {f : K → Option Value} (x : h.MapOf knd a f) (hk : ∀ b o, h.get? b = some o → h'.get? b = some o) : h'.MapOf knd a f :=
  let ⟨o, es, ep, ho, r⟩ := x; ⟨o, es, ep, hk _ _ ho, r⟩
theorem setUp {prog : Program} {w : World} {K : Type} [DecidableEq K] {knd : KeyKind prog w K} {h h' : Heap} {a : Addr} {f : K → Bool} {n : Nat} (x : h.SetOf knd a f n) (hk : ∀ b o, h.get? b = some o → h'.get? b = some o) : h'.SetOf knd a f n :=
  let ⟨o, es, ep, t, ho, r⟩ := x; ⟨o, es, ep, t, hk _ _ ho, r⟩

section
variable {B : Base} {cx : Cx}

theorem snd_inB1 (hB : BOk B) (hT : TabOk B) (hk : cx.scope.names.lookup ("b1_set" : Str) = some .globalImplicit) {a : Expr} {a' : Ex} (ha : Snd B cx a a') (q p : Pos) : Snd B cx (.Compare a [.In] [.Name "b1_set" q] p) (.un .inB1 a') := by
  refine snd_cmpU ha (fun {C A env ρ μ σ s} X {Q E x' x v σ'} rx h hQ => ?_) rfl p
  obtain ⟨b, n, hb, hS⟩ := hT.b1
  refine load_glob hB hk hb (by decide) X q ?_
  replace h := uInt_inv h
  obtain ⟨c, rfl, h⟩ := h
  obtain ⟨rfl, rfl⟩ := some_pair h
  obtain ⟨t, rfl⟩ := rx.inv_int
  · refine wpAny_inSet_of (knd := intKind B.prog B.w) (k := c) (by simp [intKind, Value.isInt]) rfl (setUp hS X.S.base) (hQ _ _ _ X.S .tok ?_)
    exact .bool _
theorem snd_inTok (hB : BOk B) (hT : TabOk B) (hk : cx.scope.names.lookup ("EXACT_TOKEN_TYPES" : Str) = some .globalImplicit) {a : Expr} {a' : Ex} (ha : Snd B cx a a') (q p : Pos) : Snd B cx (.Compare a [.In] [.Name "EXACT_TOKEN_TYPES" q] p) (.un .inTok a') := by
  refine snd_cmpU ha (fun {C A env ρ μ σ s} X {Q E x' x v σ'} rx h hQ => ?_) rfl p
  obtain ⟨b, f, hb, hd, hM, hf⟩ := hT.tok
  refine load_glob hB hk hb (by decide) X q ?_
  replace h := uStr_inv h
  obtain ⟨l, rfl, h⟩ := h
  obtain ⟨rfl, rfl⟩ := some_pair h
  obtain ⟨t, rfl, hl⟩ := rx.inv_str
  · refine wpAny_in_of (knd := PySem.strKind B.prog B.w) (k := ⟨l.toArray⟩) (by simp [PySem.strKind, Value.isStrOf]) hd (mapUp hM X.S.base) ?_
    have := hf l
    have e : (f ⟨l.toArray⟩).isSome = (B.T.tok.lookup l).isSome := by
      split at this
      · rename_i h; rw [this, h]; rfl
      · rename_i i h; obtain ⟨t, e⟩ := this; rw [e, h]; rfl
    rw [e]
    exact hQ _ _ _ X.S .tok (.bool _)
theorem snd_tok (hB : BOk B) (hT : TabOk B) (hk : cx.scope.names.lookup ("EXACT_TOKEN_TYPES" : Str) = some .globalImplicit) {a : Expr} {a' : Ex} (ha : Snd B cx a a') (hi : ∀ o i, subscripted a false o i = operate [o, i] (getItem o i)) (q p : Pos) : Snd B cx (.Subscript (.Name "EXACT_TOKEN_TYPES" q) a p) (.un .tok a') :=
  snd_of (fun X => fun hev => fun hQ => by
    obtain ⟨x, σ₁, h1, h3⟩ := ev_un hev
    obtain ⟨b, f, hb, hd, hM, hf⟩ := hT.tok
    obtain ⟨l, rfl, h4⟩ := uStr_inv h3
    obtain ⟨i, hi', rfl, rfl⟩ := map_pair h4
    refine subscript_any (load_glob hB hk hb (by decide) X q (ha.1 X h1 fun x' s' μ' X' p' r => ?_)) hi
    obtain ⟨t, rfl, hl⟩ := r.inv_str
    have := hf l
    rw [hi'] at this
    obtain ⟨t', e⟩ := this
    have hM' := mapUp hM X'.S.base
    exact ⟨⟨"dict", _, F.slot_dict_getitem.lookup, hM'.typeIs⟩, wpAny_getItem_of (knd := PySem.strKind B.prog B.w) (k := ⟨l.toArray⟩) (by simp [PySem.strKind, Value.isStrOf]) hM' e (hQ _ _ _ (X'.grown fun _ _ h => h) (p'.trans Stp.tok) (.int _ _))⟩) fun _ => rfl
theorem snd_getB3 (hB : BOk B) (hT : TabOk B) (hk : cx.scope.names.lookup ("b3_exceptions" : Str) = some .globalImplicit) {a : Expr} {a' : Ex} (ha : Snd B cx a a') (hs : Plain a) {q ap p : Pos} (hline : (ap.endLine == p.line) = true) : Snd B cx (.Call (.Attribute (.Name "b3_exceptions" q) "get" ap) [a] [] p) (.un .getB3 a') :=
  snd_of (fun X => fun hev => fun hQ => by
    obtain ⟨x, σ₁, h1, h3⟩ := ev_un hev
    obtain ⟨b, f, hb, hd, hM, hf⟩ := hT.b3
    have hM0 := mapUp hM X.S.base
    refine Call_method1 rfl (hs _ _) hline (load_glob hB hk hb (by decide) X q ⟨"dict", "dict.get", F.plainAttrs_dict, F.slot_dict_get, F.type_dict_get, hM0.typeIs, hM0.noDict, wpAny_dict_get1 (knd := intKind B.prog B.w) hd (ha.1 X h1 fun x' s' μ' X' p' r => ?_)⟩)
    obtain ⟨c, rfl, h4⟩ := uInt_inv h3
    obtain ⟨rfl, rfl⟩ := some_pair h4
    obtain ⟨t, rfl⟩ := r.inv_int
    refine ⟨c, f, by simp [intKind, Value.isInt], mapUp hM X'.S.base, ?_⟩
    have := hf c
    have X2 := X'.grown (t := s'.toks + 1) fun _ _ h => h
    cases hl : B.T.b3.lookup c with
    | none => rw [hl] at this hQ; rw [this]; exact hQ _ _ _ X2 (p'.trans Stp.tok) .none
    | some l => rw [hl] at this hQ; obtain ⟨hl, t, e⟩ := this; rw [e]; exact hQ _ _ _ X2 (p'.trans Stp.tok) (.str _ _ hl)) fun _ => rfl

theorem lo1_lowA (l : List Nat) : l.map lo1 = l.map lowA := rfl
theorem snd_lower {a : Expr} {a' : Ex} {ap pos : Pos} (ha : Snd B cx a a') (hbase : ∀ env, attributeBase a "lower" env (eval a env) = eval a env) (hline : (ap.endLine == pos.line) = true) :
    Snd B cx (.Call (.Attribute a "lower" ap) [] [] pos) (.un .lower a') :=
  snd_of (fun X => fun hev => fun hQ => by
    obtain ⟨x, σ₁, h1, h3⟩ := ev_un hev
    refine Call_method0 (hbase _) hline (ha.1 X h1 fun x' s' μ' X' p' r => ?_)
    obtain ⟨l, rfl, h4⟩ := uStr_inv h3
    obtain ⟨hall, rfl, rfl⟩ := if_some h4
    obtain ⟨t, rfl, hl⟩ := r.inv_str
    have e : Txt.lower ⟨l.toArray⟩ = ⟨(l.map lowA).toArray⟩ := by
      rw [lower_ascii (by simpa using hall)]
      simp [lo1_lowA]
    refine SB.lower ?_ ?_
    · rw [e, strLen]; unfold Builtin.Str.tooLong; rw [decide_eq_false_iff_not, sizeLine_LIM, List.length_map]; exact Nat.not_lt.mpr hl
    · rw [e]; exact hQ _ _ _ (X'.grown fun _ _ h => h) (p'.trans Stp.tok) (.str _ _ (by rw [List.length_map]; exact hl))) fun _ => rfl

theorem join_is (sep : List Nat) : ∀ ls : List (List Nat), Txt.join ⟨sep.toArray⟩ (ls.map fun l => ⟨l.toArray⟩) = ⟨(joinL sep ls).toArray⟩
  | [] => rfl
  | x :: r => by
    have key : ∀ (r : List (List Nat)) (acc : List Nat), (r.map fun l => (⟨l.toArray⟩ : Str)).foldl (fun acc p => acc ++ (⟨sep.toArray⟩ : Str).cps ++ p.cps) acc.toArray = (joinL sep (acc :: r)).toArray := by
      intro r
      induction r with
      | nil => intro acc; rfl
      | cons y r ih =>
        intro acc
        have := ih (acc ++ sep ++ y)
        rw [List.map_cons, List.foldl_cons]
        rw [show (acc.toArray ++ (⟨sep.toArray⟩ : Str).cps ++ (⟨y.toArray⟩ : Str).cps) = (acc ++ sep ++ y).toArray from by simp]
        rw [this]
        cases r with
        | nil => simp [joinL]
        | cons z r => simp [joinL]
    show Str.mk ((r.map fun l => (⟨l.toArray⟩ : Str)).foldl (fun acc p => acc ++ (⟨sep.toArray⟩ : Str).cps ++ p.cps) x.toArray) = _
    rw [key]
theorem strsAre_of {h₀ : Heap} {μ : List Addr} {h : Heap} : ∀ {its : List Value} {xs : List V}, Reps h₀ μ h its xs → xs.all isStr = true → StrsAre its ((xs.map strOf).map fun l => ⟨l.toArray⟩)
  | its, [], r, _ => by
    obtain rfl := r.inv_nil
    exact .nil
  | its, x :: xs, r, hall => by
    obtain ⟨v, vs, rfl, rv, rr⟩ := r.inv_cons
    obtain ⟨hx, hall⟩ := all_cons hall
    obtain ⟨a, rfl⟩ := isStr_inv hx
    obtain ⟨t, rfl, _⟩ := rv.inv_str
    exact .cons _ _ (strsAre_of rr hall)
theorem joinL_len (sep : List Nat) : ∀ ls : List (List Nat), (joinL sep ls).length ≤ (ls.map List.length).sum + ls.length * sep.length
  | [] => by simp [joinL]
  | [x] => by simp [joinL]
  | x :: y :: r => by
    have := joinL_len sep (y :: r)
    simp only [joinL, List.length_append, List.map_cons, List.sum_cons, List.length_cons, Nat.add_mul] at this ⊢
    (first | lia | omega)
theorem snd_join {a b : Expr} {a' b' : Ex} {ap pos : Pos} (ha : Snd B cx a a') (hb : Snd B cx b b') (hbase : ∀ env, attributeBase a "join" env (eval a env) = eval a env) (hs : Plain b) (hline : (ap.endLine == pos.line) = true) :
    Snd B cx (.Call (.Attribute a "join" ap) [b] [] pos) (.bin .join a' b') :=
  snd_of (fun {C A env ρ μ σ s} X {v σ'} hev {Q E} hQ => by
    obtain ⟨x, σ₁, y, σ₂, h1, h2, h3⟩ := ev_bin hev
    obtain ⟨sep, rfl, h4⟩ := uStr_inv h3
    refine Call_method1 (hbase _) (hs _ _) hline (ha.1 X h1 fun x' s' μ' X' p' r => ?_)
    obtain ⟨t, rfl, hl⟩ := r.inv_str
    refine ⟨"str", "str.join", F.plainAttrs_str, F.slot_str_join, F.type_str_join, typeIs_str _ _ _, fun a e => (nomatch e), Calls.callWith_builtin rfl (Calls.evalArgs_plain (Calls.spliced_cons (hb.1 X' h2 fun y' s'' μ'' X'' p'' r'' => Calls.spliced_nil ?_)))⟩
    show wpAny _ A (call (.builtin "str.join") [.str ⟨sep.toArray⟩ t, y']) Q E s''
    rcases orE_inv h4 with h5 | h5
    · obtain ⟨l, rfl, h6⟩ := uStr_inv h5
      obtain ⟨hlen, rfl, rfl⟩ := if_some h6
      obtain ⟨u, rfl, hl'⟩ := r''.inv_str
      have e : PyProof.Rows.signs ⟨l.toArray⟩ = (l.map fun c => [c]).map fun l => (⟨l.toArray⟩ : Str) := by
        unfold PyProof.Rows.signs
        simp
      refine SC.joinStr X''.R.hd (joinOk_of ?_) fun h' k t' hk => ?_
      · rw [signs_sumLen, PyProof.Rows.signs_length, strLen, strLen]; exact hlen
      · rw [e, join_is]
        refine hQ _ _ _ (X''.grown hk) (p'.trans (p''.trans (Stp.grown hk))) (.str _ _ ?_)
        refine Nat.le_trans (joinL_len _ _) ?_
        rw [List.length_map, List.map_map, show (List.length ∘ fun c : Nat => [c]) = fun _ => 1 from rfl]
        rw [List.map_const', List.sum_replicate_nat, Nat.mul_one]; exact hlen
    · obtain ⟨n, xs, rfl, e1, h6⟩ := uLst_inv h5
      obtain ⟨⟨hall, hlen⟩, rfl, rfl⟩ := if_some h6
      obtain ⟨a', its, ep, rfl, hm, g1, l1, r1⟩ := r''.at_list X''.S e1
      have hS := strsAre_of r1 hall
      have hsum : ((((xs.map strOf).map fun l => (⟨l.toArray⟩ : Str)).map (·.length)).sum) = ((xs.map strOf).map List.length).sum := by
        rw [List.map_map]
        congr 1
      refine join_list ⟨_, g1, rfl, _, rfl⟩ hS ?_ fun t' k => ?_
      · rw [hsum, List.length_map, List.length_map, strLen]; exact hlen
      · rw [join_is]
        refine hQ _ _ _ (X''.grown fun _ _ h => h) (p'.trans (p''.trans Stp.tok)) (.str _ _ ?_)
        exact Nat.le_trans (joinL_len _ _) (by rw [List.length_map]; exact hlen)) fun _ => rfl
end
end Mine
end

section
open PySem PySem.W PyProof.Rows PySem.Calls PySem.SeqAt
set_option Elab.async false
set_option linter.unusedVariables false
namespace Mine

/-- what statements may do: the block's own objects may change too -/
structure StpX (W : Addr → Prop) (μ μ' : List Addr) (s s' : Shared) : Prop where
  pre : ∃ ν, μ' = μ ++ ν ∧ ∀ a ∈ ν, s.heap.get? a = none
  keep : ∀ b o, s.heap.get? b = some o → b ∉ μ → ¬ W b → s'.heap.get? b = some o
  live : ∀ b o, s.heap.get? b = some o → ¬ W b → ∃ o', s'.heap.get? b = some o'
  gens : s'.gens = s.gens
  os : s'.os = s.os

/-- some objects, apart from lists and what stands firm -/
structure Loose (h₀ : Heap) (W : Addr → Prop) (μ : List Addr) (h : Heap) : Prop where
  fresh : ∀ b, W b → h₀.get? b = none
  apart : ∀ b, W b → b ∉ μ
  firm : ∀ b o, W b → h.get? b = some o → ¬ Firm o

section
variable {W : Addr → Prop} {μ μ' μ'' : List Addr} {s s' s'' : Shared}
theorem Stp.toX (p : Stp μ μ' s s') : StpX W μ μ' s s' := ⟨p.pre, fun b o h hn _ => p.keep b o h hn, fun b o h _ => p.live b o h, p.gens, p.os⟩
theorem StpX.refl : StpX W μ μ s s := (Stp.refl μ s).toX
theorem StpX.old (a : StpX W μ μ' s s') {c : Addr} (hw : ¬ W c) (h : s'.heap.get? c = none) : s.heap.get? c = none := by
  cases e : s.heap.get? c with
  | none => rfl
  | some o => obtain ⟨o', e'⟩ := a.live _ _ e hw; rw [h] at e'; cases e'
theorem StpX.trans (a : StpX W μ μ' s s') (b : StpX W μ' μ'' s' s'') (hW : ∀ c, W c → c ∉ μ'') : StpX W μ μ'' s s'' := by
  obtain ⟨ν, rfl, h1⟩ := a.pre
  obtain ⟨ν', rfl, h2⟩ := b.pre
  refine ⟨⟨ν ++ ν', by simp, fun x hx => ?_⟩, fun c o h hn hw => b.keep c o (a.keep c o h hn hw) (fun hm => ?_) hw, fun c o h hw => let ⟨o', h'⟩ := a.live c o h hw; b.live c o' h' hw, b.gens.trans a.gens, b.os.trans a.os⟩
  · rcases List.mem_append.mp hx with hx | hx
    · exact h1 x hx
    · exact a.old (fun hw => hW x hw (List.mem_append_right _ hx)) (h2 x hx)
  · rcases List.mem_append.mp hm with hm | hm
    · exact hn hm
    · rw [h1 c hm] at h; cases h
/-- only loose objects changed -/
theorem StpX.but {h' : Heap} {t : Nat} (hk : ∀ b o, s.heap.get? b = some o → ¬ W b → h'.get? b = some o) : StpX W μ μ s { s with heap := h', toks := t } :=
  ⟨⟨[], by simp, by simp⟩, fun b o h _ hw => hk b o h hw, fun b o h hw => ⟨o, hk b o h hw⟩, rfl, rfl⟩
/-- the loose objects were not there yet -/
theorem StpX.toStp (p : StpX W μ μ' s s') (hW : ∀ b, W b → s.heap.get? b = none) : Stp μ μ' s s' :=
  ⟨p.pre, fun b o h hn => p.keep b o h hn fun hw => (by rw [hW b hw] at h; cases h), fun b o h => p.live b o h fun hw => (by rw [hW b hw] at h; cases h), p.gens, p.os⟩
theorem StpX.weaken {W' : Addr → Prop} (p : StpX W μ μ' s s') (hW : ∀ b o, W b → s.heap.get? b = some o → W' b) : StpX W' μ μ' s s' :=
  ⟨p.pre, fun b o h hn hw => p.keep b o h hn fun hw' => hw (hW b o hw' h), fun b o h hw => p.live b o h fun hw' => hw (hW b o hw' h), p.gens, p.os⟩
end

section
variable {h₀ h h' : Heap} {W : Addr → Prop} {μ : List Addr} {σ : Store}
theorem Rep.but {v : Value} {x : V} (r : Rep h₀ μ h v x) (hk : ∀ b o, h.get? b = some o → ¬ W b → h'.get? b = some o) (hW : Loose h₀ W μ h) : Rep h₀ μ h' v x := by
  have := r.mono (ν := []) (h' := h') fun b o hb hf => hk b o hb fun hw => hW.firm b o hw hb hf
  rwa [List.append_nil] at this
theorem Reps.but {v : List Value} {x : List V} (r : Reps h₀ μ h v x) (hk : ∀ b o, h.get? b = some o → ¬ W b → h'.get? b = some o) (hW : Loose h₀ W μ h) : Reps h₀ μ h' v x := by
  have := r.mono (ν := []) (h' := h') fun b o hb hf => hk b o hb fun hw => hW.firm b o hw hb hf
  rwa [List.append_nil] at this
theorem SOk.but (S : SOk h₀ μ σ h) (hk : ∀ b o, h.get? b = some o → ¬ W b → h'.get? b = some o) (hW : Loose h₀ W μ h) : SOk h₀ μ σ h' :=
  ⟨S.len, S.nd, S.fresh, fun e => by
    obtain ⟨a, items, ep, h1, h2, h3, h4⟩ := S.cell e
    exact ⟨a, items, ep, h1, hk _ _ h2 fun hw => hW.apart _ hw (List.mem_of_getElem? h1), h3, h4.but hk hW⟩,
   fun b o hb => hk b o (S.base b o hb) fun hw => by rw [hW.fresh b hw] at hb; cases hb⟩
end

noncomputable def Own (env : Env) (b : Addr) : Prop := b = env.locals ∨ ∃ n, (n, b) ∈ env.cells

theorem FrOk.loose {h₀ h : Heap} {cx : Cx} {env : Env} {ρ : REnv} {μ : List Addr} (F : FrOk h₀ cx env ρ μ h) : Loose h₀ (Own env) μ h := by
  refine ⟨fun b hb => ?_, fun b hb => ?_, fun b o hb ho hf => ?_⟩
  · rcases hb with rfl | ⟨n, hb⟩
    · exact F.own.2
    · exact (F.cel n b hb).2.1
  · rcases hb with rfl | ⟨n, hb⟩
    · exact F.own.1
    · exact (F.cel n b hb).1
  · rcases hb with rfl | ⟨n, hb⟩
    · obtain ⟨m, ⟨o', es, ep, h1, h2, _⟩, _⟩ := F.nsm
      rw [ho] at h1; cases h1
      rcases hf with ⟨_, xs, n, h3⟩ | ⟨_, xs, h3⟩ <;> rw [h2] at h3 <;> cases h3
    · obtain ⟨_, _, _, v, o', h1, h2⟩ := F.cel n b hb
      rw [ho] at h1; cases h1
      rcases hf with ⟨_, xs, n, h3⟩ | ⟨_, xs, h3⟩ <;> rw [h2] at h3 <;> cases h3
/-- the frame stands where only other loose objects changed -/
theorem FrOk.but {h₀ h h' : Heap} {cx : Cx} {env : Env} {ρ : REnv} {μ : List Addr} {W : Addr → Prop} (F : FrOk h₀ cx env ρ μ h) (hk : ∀ b o, h.get? b = some o → ¬ W b → h'.get? b = some o) (hW : Loose h₀ W μ h) (hO : ∀ b, W b → ¬ Own env b) : FrOk h₀ cx env ρ μ h' := by
  obtain ⟨m, hn, hv⟩ := F.nsm
  have hloc : ¬ W env.locals := fun hw => hO _ hw (.inl rfl)
  have hcel : ∀ n c, (n, c) ∈ env.cells → ¬ W c := fun n c hm hw => hO _ hw (.inr ⟨n, hm⟩)
  have hc : ∀ n c v, (n, c) ∈ env.cells → h.IsCell c v → h'.IsCell c v := fun n c v hm ⟨o, ho, hd⟩ => ⟨o, hk _ o ho (hcel n c hm), hd⟩
  refine ⟨F.sc, F.fk, F.gl, F.bl, F.len, ⟨m, hn.at' fun o e => hk _ o e hloc, fun n i v hs hr => ?_⟩, F.own, fun n c hm => ?_, F.apart, F.hasc⟩
  · cases hv n i v hs hr with
    | loc h1 h2 h3 => exact .loc h1 h2 (h3.but hk hW)
    | cel h1 h2 h3 h4 => exact .cel h1 h2 (hc n _ _ (mem_of_lookup h2) h3) (h4.but hk hW)
  · obtain ⟨h1, h2, h3, v, hv⟩ := F.cel n c hm
    exact ⟨h1, h2, h3, v, hc n c v hm hv⟩

/-- an iterator -/
inductive IterAt (h₀ : Heap) (I : Addr) : Src → Nat → List Addr → Heap → Prop where
  | live {n a j : Nat} {μ : List Addr} {h : Heap} : μ[n]? = some a → h.IsListIter I a j → IterAt h₀ I (.live n) j μ h
  | tup {a : Addr} {its : List Value} {k j : Nat} {xs : List V} {μ : List Addr} {h : Heap} : h.IsTupleIter I a j → h.get? a = some { cls := .type "tuple", dict := .none, data := .seq its.toArray k, slots := #[] } → Reps h₀ μ h its xs → IterAt h₀ I (.fix xs) j μ h
  | ascii {l : List Nat} {t : Tok} {j : Nat} {μ : List Addr} {h : Heap} : h.IsStrIter I "str_ascii_iterator" ⟨l.toArray⟩ t j → IterAt h₀ I (.fix (l.map fun c => .str [c])) j μ h
  | wide {l : List Nat} {t : Tok} {j : Nat} {μ : List Addr} {h : Heap} : h.IsStrIter I "str_iterator" ⟨l.toArray⟩ t j → IterAt h₀ I (.fix (l.map fun c => .str [c])) j μ h
  | rng {a c : Int} {n j : Nat} {μ : List Addr} {h : Heap} : IsRangeIter h I (a + (j : Nat) * c) ((n : Int) - (j : Nat)) c → IterAt h₀ I (.fix (rangeL a c n)) j μ h

theorem IterAt.obj {h₀ h : Heap} {I : Addr} {S : Src} {j : Nat} {μ : List Addr} (x : IterAt h₀ I S j μ h) : ∃ o, h.get? I = some o ∧ ¬ Firm o ∧ o.cls ≠ .type "list" := by
  have key : ∀ {o : Obj} {T : String}, o.cls = .type T → T ≠ "tuple" → T ≠ "range" → T ≠ "list" → ¬ Firm o ∧ o.cls ≠ .type "list" := fun hc h1 h2 h3 =>
    ⟨fun hf => by rcases hf with ⟨h, _⟩ | ⟨h, _⟩ <;> rw [hc] at h <;> first | exact h1 (Value.type.inj h) | exact h2 (Value.type.inj h), fun h => h3 (Value.type.inj (hc.symm.trans h))⟩
  cases x with
  | live _ h => obtain ⟨o, ho, hc, _⟩ := h; exact ⟨o, ho, key hc (by decide) (by decide) (by decide)⟩
  | tup h _ _ => obtain ⟨o, ho, hc, _⟩ := h; exact ⟨o, ho, key hc (by decide) (by decide) (by decide)⟩
  | ascii h => obtain ⟨o, ho, hc, _⟩ := h; exact ⟨o, ho, key hc (by decide) (by decide) (by decide)⟩
  | wide h => obtain ⟨o, ho, hc, _⟩ := h; exact ⟨o, ho, key hc (by decide) (by decide) (by decide)⟩
  | rng h => exact ⟨_, h, key rfl (by decide) (by decide) (by decide)⟩
theorem IterAt.apart {h₀ : Heap} {σ : Store} {I : Addr} {S : Src} {j : Nat} {μ : List Addr} {h : Heap} (x : IterAt h₀ I S j μ h) (Sx : SOk h₀ μ σ h) : I ∉ μ := fun hm => by
  obtain ⟨o, ho, hf, hl⟩ := x.obj
  obtain ⟨o', ho', hl'⟩ := Sx.isList hm
  rw [ho] at ho'; cases ho'
  exact hl hl'
/-- an iterator stands while others work -/
theorem IterAt.stepX {h₀ : Heap} {W : Addr → Prop} {I : Addr} {S : Src} {j : Nat} {μ μ' : List Addr} {σ : Store} {s s' : Shared} (x : IterAt h₀ I S j μ s.heap) (Sx : SOk h₀ μ σ s.heap) (p : StpX W μ μ' s s') (hW : ∀ b o, W b → s.heap.get? b = some o → ¬ Firm o) (hI : ¬ W I) : IterAt h₀ I S j μ' s'.heap := by
  have hap := x.apart Sx
  have hk : ∀ b o, s.heap.get? b = some o → Firm o → s'.heap.get? b = some o := fun b o h hf => p.keep b o h (fun hm => by
    obtain ⟨o', h', hl⟩ := Sx.isList hm
    rw [h] at h'; cases h'
    exact hf.not_list hl) fun hw => hW b o hw h hf
  obtain ⟨ν, hν, _⟩ := p.pre
  cases x with
  | live h1 h2 => obtain ⟨o, ho, r⟩ := h2; exact .live (by rw [hν, List.getElem?_append_left (List.getElem?_eq_some_iff.mp h1).1]; exact h1) ⟨o, p.keep _ _ ho hap hI, r⟩
  | tup h1 h2 h3 =>
    obtain ⟨o, ho, r⟩ := h1
    exact .tup ⟨o, p.keep _ _ ho hap hI, r⟩ (hk _ _ h2 (.inl ⟨rfl, _, _, rfl⟩)) (by rw [hν]; exact h3.mono hk)
  | ascii h1 => obtain ⟨o, ho, r⟩ := h1; exact .ascii ⟨o, p.keep _ _ ho hap hI, r⟩
  | wide h1 => obtain ⟨o, ho, r⟩ := h1; exact .wide ⟨o, p.keep _ _ ho hap hI, r⟩
  | rng h1 => exact .rng (p.keep _ _ h1 hap hI)

section
variable {prog : Program} {w : World} {A : Around} {h₀ : Heap} {μ : List Addr} {σ : Store} {s : Shared}

theorem iter_start (S : SOk h₀ μ σ s.heap) {v : Value} {x : V} {Z : Src} (r : Rep h₀ μ s.heap v x) (hz : srcOf x = some Z) {Q : Value → Shared → Prop} {E : Value → Shared → Prop}
    (hQ : ∀ h', (∀ b o, s.heap.get? b = some o → h'.get? b = some o) → IterAt h₀ s.heap.objs.size Z 0 μ h' → Q (.ref s.heap.objs.size) { s with heap := h' }) : wpAny (model prog w) A (pyIter v) Q E s := by
  have hp : ∀ o b o', s.heap.get? b = some o' → (s.heap.push o).get? b = some o' := fun o b o' h => Heap.get?_push_of_some o h
  cases r <;> simp [srcOf] at hz
  case str l t hl =>
    subst hz
    cases ha : (⟨l.toArray⟩ : Str).cps.all (· < 128)
    · exact wpAny_pyIter_wide ha (hQ _ (hp _) (.wide ⟨_, Heap.get?_push_size _ rfl, rfl, rfl⟩))
    · exact wpAny_pyIter_ascii ha (hQ _ (hp _) (.ascii ⟨_, Heap.get?_push_size _ rfl, rfl, rfl⟩))
  case tup a its n l g hl rr =>
    subst hz
    exact wpAny_pyIter_tuple ⟨_, g, rfl, _, rfl⟩ (hQ _ (hp _) (.tup ⟨_, Heap.get?_push_size _ rfl, rfl, rfl⟩ (hp _ _ _ g) (rr.grown (hp _))))
  case lst a n ha =>
    subst hz
    obtain ⟨xs, its, ep, e1, g1, l1, r1⟩ := S.list ha
    exact wpAny_pyIter_list ⟨_, g1, rfl, _, rfl⟩ (hQ _ (hp _) (.live ha ⟨_, Heap.get?_push_size _ rfl, rfl, rfl⟩))
  case rng r a b c t u v n h1 h2 h3 =>
    subst hz
    refine wpAny_pyIter_range h1 h2 (hQ _ (hp _) (.rng ?_))
    have := Heap.get?_push_size (h := s.heap) (o := { cls := .type "range_iterator", data := .fields #[rawInt a, rawInt (Builtin.Range.rangeSize a b c), rawInt c] }) rfl
    rw [h3] at this ⊢
    simpa using this

theorem iter_next (S : SOk h₀ μ σ s.heap) {I : Addr} {Z : Src} {j : Nat} {r : Option V} (x : IterAt h₀ I Z j μ s.heap) (hj : ∀ xs, Z = .fix xs → j ≤ xs.length) (hh : A.handled = none) (hI : h₀.get? I = none) (hr : Z.get j σ = some r) {Q : Option Value → Shared → Prop} {E : Value → Shared → Prop}
    (hQ : ∀ h' tk, (∀ b o, s.heap.get? b = some o → ¬ b = I → h'.get? b = some o) → match r with
      | some y => ∀ v, Rep h₀ μ h' v y → IterAt h₀ I Z (j + 1) μ h' → Q (some v) { s with heap := h', toks := tk }
      | none => Q none { s with heap := h', toks := tk }) : wpAny (model prog w) A (pyNext (.ref I)) Q E s := by
  have hap := x.apart S
  obtain ⟨oI, hoI, hfI, _⟩ := x.obj
  have hW : Loose h₀ (fun b => b = I) μ s.heap := ⟨fun b e => by subst e; exact hI, fun b e => by subst e; exact hap, fun b o e h => by subst e; rw [hoI] at h; cases h; exact hfI⟩
  have hsb : ∀ {h' : Heap}, Heap.SameBut I s.heap h' → ∀ b o, s.heap.get? b = some o → ¬ b = I → h'.get? b = some o := fun hs b o h hb => (hs.2 b hb).trans h
  have heb : ∀ {h' : Heap}, Heap.ExtBut I s.heap h' → ∀ b o, s.heap.get? b = some o → ¬ b = I → h'.get? b = some o := fun hs b o h hb => hs b o hb h
  cases x with
  | @live n a _ _ _ h1 h2 =>
    obtain ⟨xs, its, ep, e1, g1, l1, r1⟩ := S.list h1
    simp only [Src.get, e1, Option.some.injEq] at hr
    have L : s.heap.IsList a its.toArray := ⟨_, g1, rfl, _, rfl⟩
    subst hr
    cases hy : xs[j]? with
    | some y =>
      obtain ⟨v, hv, rv⟩ := r1.get hy
      rw [hy] at hQ
      exact wpAny_pyNext_list_item h2 L (x := v) (by simpa using hv) fun h' hit hs => hQ h' s.toks (hsb hs) v (rv.but (hsb hs) hW) (.live h1 hit)
    | none =>
      rw [hy] at hQ
      have : its.toArray[j]? = none := by simpa [r1.length] using hy
      exact wpAny_pyNext_list_end hh h2 L this fun h' he => hQ h' s.toks (heb he)
  | @tup a its k _ xs _ _ h1 h2 h3 =>
    simp only [Src.get, Option.some.injEq] at hr
    have L : s.heap.IsTuple a its.toArray := ⟨_, h2, rfl, _, rfl⟩
    subst hr
    have hne : a ≠ I := fun e => by subst e; rw [h2] at hoI; cases hoI; exact hfI (.inl ⟨rfl, _, _, rfl⟩)
    cases hy : xs[j]? with
    | some y =>
      obtain ⟨v, hv, rv⟩ := h3.get hy
      rw [hy] at hQ
      exact wpAny_pyNext_tuple_item h1 L (x := v) (by simpa using hv) fun h' hit hs => hQ h' s.toks (hsb hs) v (rv.but (hsb hs) hW) (.tup hit (hsb hs _ _ h2 hne) (h3.but (hsb hs) hW))
    | none =>
      rw [hy] at hQ
      have : its.toArray[j]? = none := by simpa [h3.length] using hy
      exact wpAny_pyNext_tuple_end hh h1 L this fun h' he => hQ h' s.toks (heb he)
  | @ascii l t _ _ _ h1 =>
    simp only [Src.get, Option.some.injEq] at hr
    subst hr
    rw [List.getElem?_map] at hQ
    cases hy : l[j]? with
    | some y =>
      rw [hy] at hQ
      exact wpAny_pyNext_ascii_item h1 (c := y) (by rw [strGet]; exact hy) fun h' hit hs => hQ h' (s.toks + 1) (hsb hs) _ (.str [y] _ (by show 1 ≤ 16777216; decide)) (.ascii hit)
    | none =>
      rw [hy] at hQ
      exact wpAny_pyNext_ascii_end hh h1 (by rw [strGet]; exact hy) fun h' he => hQ h' s.toks (heb he)
  | @wide l t _ _ _ h1 =>
    simp only [Src.get, Option.some.injEq] at hr
    subst hr
    rw [List.getElem?_map] at hQ
    cases hy : l[j]? with
    | some y =>
      rw [hy] at hQ
      exact wpAny_pyNext_wide_item h1 (c := y) (by rw [strGet]; exact hy) fun h' hit hs => hQ h' (s.toks + 1) (hsb hs) _ (.str [y] _ (by show 1 ≤ 16777216; decide)) (.wide hit)
    | none =>
      rw [hy] at hQ
      exact wpAny_pyNext_wide_end hh h1 (by rw [strGet]; exact hy) fun h' he => hQ h' s.toks (heb he)
  | @rng a c n _ _ _ h1 =>
    simp only [Src.get, Option.some.injEq] at hr
    subst hr
    have hle : j ≤ n := by have := hj _ rfl; simpa [rangeL] using this
    by_cases hlt : j < n
    · have e : (rangeL a c n)[j]? = some (.int (a + (j : Nat) * c)) := by simp [rangeL, hlt]
      rw [e] at hQ
      refine wpAny_pyNext_range_item h1 (by (first | lia | omega)) fun h' hit hs => hQ h' (s.toks + 1) (hsb hs) _ (.int _ _) (.rng ?_)
      have e1 : a + ((j + 1 : Nat) : Int) * c = a + (j : Int) * c + c := by push_cast; rw [Int.add_mul, Int.one_mul, Int.add_assoc]
      have e2 : (n : Int) - ((j + 1 : Nat) : Int) = (n : Int) - (j : Int) - 1 := by push_cast; (first | lia | omega)
      rw [e1, e2]; exact hit
    · have e : (rangeL a c n)[j]? = none := by simp [rangeL]; (first | lia | omega)
      rw [e] at hQ
      exact wpAny_pyNext_range_end hh h1 (by (first | lia | omega)) fun h' he => hQ h' s.toks (heb he)
end
end Mine
end

section
open PySem PySem.W PyProof.Rows PySem.Calls PySem.SeqAt
set_option Elab.async false
set_option linter.unusedVariables false
namespace Mine

structure CxOk (cx : Cx) : Prop where
  inj : ∀ p ∈ cx.slot, ∀ q ∈ cx.slot, p.2 = q.2 → p.1 = q.1
  kind : ∀ p ∈ cx.slot, cx.scope.names.lookup p.1 = some .local ∨ cx.scope.names.lookup p.1 = some .cell
  lt : ∀ p ∈ cx.slot, p.2 < cx.n

section
variable {M : Model} {A : Around} {E : Value → Shared → Prop} {h₀ : Heap} {cx : Cx} {env : Env} {ρ : REnv} {μ : List Addr} {s : Shared}

theorem FrOk.plain (F : FrOk h₀ cx env ρ μ s.heap) : (env.scope.kind == .class || (env.scope.kind == .module && env.locals != env.globals)) = false := by
  rw [F.sc, F.fk]; rfl
theorem store_local (F : FrOk h₀ cx env ρ μ s.heap) (hok : CxOk cx) {n : Str} {i : Nat} (hs : cx.slot.lookup n = some i) (hl : cx.scope.names.lookup n = some .local) {v' : Value} {v : V} (r : Rep h₀ μ s.heap v' v) {Q : Unit → Shared → Prop}
    (hQ : ∀ h', FrOk h₀ cx env (ρ.set i (some v)) μ h' → Heap.SameBut env.locals s.heap h' → Q () { s with heap := h', toks := s.toks + 1 }) : wpAny M A (storeName env n v') Q E s := by
  obtain ⟨m, hn, hm⟩ := F.nsm
  refine wpAny_storeName_local ((F.kindOf n).trans hl) hn (fun h' hn' hsb => hQ h' ?_ hsb) F.plain
  have hlo := F.loose
  have hk : ∀ b o, s.heap.get? b = some o → ¬ Own env b → h'.get? b = some o := fun b o hb ho => (hsb.2 b fun e => ho (.inl e)).trans hb
  have hc : ∀ n c v, (n, c) ∈ env.cells → s.heap.IsCell c v → h'.IsCell c v := fun n c v hm ⟨o, ho, hd⟩ => ⟨o, (hsb.2 c (F.cel n c hm).2.2.1).trans ho, hd⟩
  refine ⟨F.sc, F.fk, F.gl, F.bl, by rw [List.length_set]; exact F.len, ⟨_, hn', fun n' i' w hs' hr => ?_⟩, F.own, fun n c hm => ?_, F.apart, F.hasc⟩
  · by_cases e : n' = n
    · subst e
      rw [hs] at hs'; cases hs'
      have hlt : i < ρ.length := by rw [F.len]; exact hok.lt _ (mem_of_lookup hs)
      rw [List.getElem?_set_self hlt] at hr
      cases hr
      exact .loc hl (if_pos rfl) (r.but hk hlo)
    · have hne : i ≠ i' := fun e' => e (hok.inj _ (mem_of_lookup hs') _ (mem_of_lookup hs) e'.symm)
      rw [List.getElem?_set_ne hne] at hr
      cases hm n' i' w hs' hr with
      | loc h1 h2 h3 => exact .loc h1 (by rw [if_neg e]; exact h2) (h3.but hk hlo)
      | cel h1 h2 h3 h4 => exact .cel h1 h2 (hc n' _ _ (mem_of_lookup h2) h3) (h4.but hk hlo)
  · obtain ⟨h1, h2, h3, v, hv⟩ := F.cel n c hm
    exact ⟨h1, h2, h3, v, hc n c v hm hv⟩
theorem store_cell (F : FrOk h₀ cx env ρ μ s.heap) (hok : CxOk cx) {n : Str} {i : Nat} (hs : cx.slot.lookup n = some i) (hl : cx.scope.names.lookup n = some .cell) {v' : Value} {v : V} (r : Rep h₀ μ s.heap v' v) {Q : Unit → Shared → Prop}
    (hQ : ∀ h', FrOk h₀ cx env (ρ.set i (some v)) μ h' → (∀ b o, s.heap.get? b = some o → ¬ Own env b → h'.get? b = some o) → Q () { s with heap := h' }) : wpAny M A (storeName env n v') Q E s := by
  obtain ⟨m, hn, hm⟩ := F.nsm
  obtain ⟨c, hcl⟩ := F.hasc n hl
  have hmem := mem_of_lookup hcl
  obtain ⟨c1, c2, c3, v₀, hc0⟩ := F.cel n c hmem
  refine wpAny_storeName_cell (by rw [F.sc]; exact F.fk) ((F.kindOf n).trans hl) hcl hc0 fun h' hc' hsb => hQ h' ?_ fun b o hb ho => (hsb.2 b fun e => ho (.inr ⟨n, e ▸ hmem⟩)).trans hb
  have hlo := F.loose
  have hk : ∀ b o, s.heap.get? b = some o → ¬ Own env b → h'.get? b = some o := fun b o hb ho => (hsb.2 b fun e => ho (.inr ⟨n, e ▸ hmem⟩)).trans hb
  have hc : ∀ n' c' v, (n', c') ∈ env.cells → n' ≠ n → s.heap.IsCell c' v → h'.IsCell c' v := fun n' c' v hm hne ⟨o, ho, hd⟩ => ⟨o, (hsb.2 c' fun e => hne (F.apart n' n c (e ▸ hm) hmem)).trans ho, hd⟩
  refine ⟨F.sc, F.fk, F.gl, F.bl, by rw [List.length_set]; exact F.len, ⟨m, hn.sameBut hsb (Ne.symm c3), fun n' i' w hs' hr => ?_⟩, F.own, fun n' c' hm => ?_, F.apart, F.hasc⟩
  · by_cases e : n' = n
    · subst e
      rw [hs] at hs'; cases hs'
      have hlt : i < ρ.length := by rw [F.len]; exact hok.lt _ (mem_of_lookup hs)
      rw [List.getElem?_set_self hlt] at hr
      cases hr
      exact .cel hl hcl hc' (r.but hk hlo)
    · have hne : i ≠ i' := fun e' => e (hok.inj _ (mem_of_lookup hs') _ (mem_of_lookup hs) e'.symm)
      rw [List.getElem?_set_ne hne] at hr
      cases hm n' i' w hs' hr with
      | loc h1 h2 h3 => exact .loc h1 h2 (h3.but hk hlo)
      | cel h1 h2 h3 h4 => exact .cel h1 h2 (hc n' _ _ (mem_of_lookup h2) e h3) (h4.but hk hlo)
  · obtain ⟨h1, h2, h3, v, hv⟩ := F.cel n' c' hm
    by_cases e : c' = c
    · subst e; exact ⟨h1, h2, h3, _, hc'⟩
    · obtain ⟨o, ho, hd⟩ := hv
      exact ⟨h1, h2, h3, v, o, (hsb.2 c' e).trans ho, hd⟩
end

/-- a store to a name: the frame's own objects change -/
theorem store_ok {B : Base} {C : Calls} {A : Around} {cx : Cx} {env : Env} {ρ : REnv} {μ : List Addr} {σ : Store} {s : Shared} (X : Sit B C A cx env ρ μ σ s) (hok : CxOk cx) {n : Str} {i : Nat} (hs : cx.slot.lookup n = some i) {v' : Value} {v : V} (r : Rep B.h₀ μ s.heap v' v) {Q : Unit → Shared → Prop} {E : Value → Shared → Prop}
    (hQ : ∀ s', Sit B C A cx env (ρ.set i (some v)) μ σ s' → StpX (Own env) μ μ s s' → Q () s') : wpAny (model B.prog B.w) A (storeName env n v') Q E s := by
  rcases hok.kind _ (mem_of_lookup hs) with hl | hl
  · refine store_local X.F hok hs hl r fun h' F' hsb => ?_
    have hk : ∀ b o, s.heap.get? b = some o → ¬ Own env b → h'.get? b = some o := fun b o hb ho => (hsb.2 b fun e => ho (.inl e)).trans hb
    exact hQ _ ⟨X.S.but hk X.F.loose, F', X.gens, X.R, X.calls⟩ (StpX.but hk)
  · refine store_cell X.F hok hs hl r fun h' F' hk => ?_
    exact hQ { s with heap := h', toks := s.toks } ⟨X.S.but hk X.F.loose, F', X.gens, X.R, X.calls⟩ (StpX.but hk)
end Mine
end

section
open PySem PySem.W PyProof.Rows PySem.Calls PySem.SeqAt
set_option Elab.async false
set_option linter.unusedVariables false
namespace Mine

noncomputable def relab (scope cs : Scope) : Scope :=
  { scope with names := scope.names.map fun (n, k) => if (k == .free && cs.kind == .function && cs.names.lookup n == some .cell) then (n, .cell) else (n, k) }

noncomputable def clos (cells : List (Str × Addr)) : List (Str × NameKind) → List (Str × Addr) → List (Str × Addr)
  | [], acc => acc
  | (n, k) :: r, acc => if k == .free then clos cells r ((n, (cells.lookup n).getD 0) :: acc) else clos cells r acc
theorem clos_mem {cells : List (Str × Addr)} : ∀ {ns : List (Str × NameKind)} {acc : List (Str × Addr)} {n : Str} {c : Addr}, (n, c) ∈ clos cells ns acc → (n, c) ∈ acc ∨ ((n, .free) ∈ ns ∧ (cells.lookup n).getD 0 = c)
  | [], acc, n, c, h => .inl h
  | (k, kd) :: r, acc, n, c, h => by
    unfold clos at h
    split at h
    · rename_i hk
      rcases clos_mem h with h | ⟨h, e⟩
      · rcases List.mem_cons.mp h with e | h
        · cases e
          have : kd = .free := by simpa using hk
          subst this
          exact .inr ⟨List.mem_cons_self, rfl⟩
        · exact .inl h
      · exact .inr ⟨List.mem_cons_of_mem _ h, e⟩
    · rcases clos_mem h with h | ⟨h, e⟩
      · exact .inl h
      · exact .inr ⟨List.mem_cons_of_mem _ h, e⟩
theorem clos_has {cells : List (Str × Addr)} : ∀ {ns : List (Str × NameKind)} {acc : List (Str × Addr)} {n : Str}, ((n, .free) ∈ ns ∨ ∃ c, (n, c) ∈ acc) → ∃ c, (n, c) ∈ clos cells ns acc
  | [], acc, n, h => by
    rcases h with h | h
    · first | exact noSome h | cases h
    · exact h
  | (k, kd) :: r, acc, n, h => by
    unfold clos
    split
    · refine clos_has ?_
      rcases h with h | ⟨c, h⟩
      · rcases List.mem_cons.mp h with e | h
        · cases e; exact .inr ⟨_, List.mem_cons_self⟩
        · exact .inl h
      · exact .inr ⟨c, List.mem_cons_of_mem _ h⟩
    · rename_i hk
      refine clos_has ?_
      rcases h with h | h
      · rcases List.mem_cons.mp h with e | h
        · cases e; exact absurd rfl hk
        · exact .inl h
      · exact .inr h
theorem lookup_of_mem {α : Type} : ∀ {l : List (Str × α)} {n : Str} {c : α}, (n, c) ∈ l → ∃ c', l.lookup n = some c'
  | [], _, _, h => by cases h
  | (k, v) :: r, n, c, h => by
    rw [List.lookup_cons]
    cases hb : n == k with
    | true => exact ⟨v, rfl⟩
    | false =>
      rcases List.mem_cons.mp h with e | h
      · cases e; simp at hb
      · exact lookup_of_mem h

theorem closureFor_ok {scope : Scope} {env : Env} (h : ∀ y ∈ scope.names, y.2 = .free → ∃ c, env.cells.lookup y.1 = some c) : closureFor scope env = pure (clos env.cells scope.names []) := by
  have key : ∀ (ns : List (Str × NameKind)) (acc : List (Str × Addr)) (f : Str × NameKind → List (Str × Addr) → Sem (ForInStep (List (Str × Addr)))), (∀ y ∈ ns, y.2 = .free → ∃ c, env.cells.lookup y.1 = some c) →
      (∀ n k acc, f (n, k) acc = if k == .free then (do let a ← cellOf env n; pure (.yield ((n, a) :: acc))) else pure (.yield acc)) → (forIn ns acc f : Sem (List (Str × Addr))) = pure (clos env.cells ns acc) := by
    intro ns
    induction ns with
    | nil => intro acc f _ _; rw [List.forIn_nil]; rfl
    | cons y r ih =>
      intro acc f hy hf
      obtain ⟨n, k⟩ := y
      rw [List.forIn_cons, hf]
      unfold clos
      split
      · rename_i hk
        obtain ⟨c, hc⟩ := hy (n, k) List.mem_cons_self (by simpa using hk)
        have : cellOf env n = pure c := by unfold cellOf; rw [hc]
        rw [this, hc]
        exact ih _ f (fun z hz => hy z (List.mem_cons_of_mem _ hz)) hf
      · exact ih _ f (fun z hz => hy z (List.mem_cons_of_mem _ hz)) hf
  have e := key scope.names [] (fun x cs => match x with | (name, kind) => if kind == .free then (do let a ← cellOf env name; pure (.yield ((name, a) :: cs))) else pure (.yield cs)) h (fun _ _ _ => rfl)
  exact congrArg (fun m : Sem (List (Str × Addr)) => m >>= fun cs => pure cs) e

structure CompOk (cx cxc : Cx) (scope : Scope) (x : Str) : Prop where
  sc : cxc.scope = relab scope cx.scope
  n : cxc.n = cx.n + 1
  kind : scope.kind = .function
  nocell : ∀ y ∈ scope.names, y.2 ≠ .cell
  names : ∀ y ∈ scope.names, y.2 = .local → scope.names.lookup y.1 = some .local
  hx : scope.names.lookup x = some .local
  free : ∀ y ∈ scope.names, y.2 = .free → cx.scope.names.lookup y.1 = some .cell
  slot : ∀ p ∈ cxc.slot, p = (x, cx.n) ∨ (cx.slot.lookup p.1 = some p.2 ∧ (p.1, .free) ∈ scope.names ∧ cxc.scope.names.lookup p.1 = some .cell)
  slotx : cxc.slot.lookup x = some cx.n
  ok : CxOk cxc
  okx : CxOk cx
  cells : ∀ y ∈ cxc.scope.names, y.2 = .cell → (y.1, .free) ∈ scope.names

section
variable {h₀ h : Heap} {cx cxc : Cx} {env : Env} {ρ : REnv} {μ : List Addr} {scope : Scope} {x : Str}
theorem FrOk.relabel (F : FrOk h₀ cx env ρ μ h) : relabel scope env = relab scope cx.scope := by
  unfold PySem.relabel relab
  have : ∀ n, env.kindOf n = cx.scope.names.lookup n := F.kindOf
  simp only [this, F.sc]
theorem FrOk.frees (F : FrOk h₀ cx env ρ μ h) (K : CompOk cx cxc scope x) : ∀ y ∈ scope.names, y.2 = .free → ∃ c, env.cells.lookup y.1 = some c := fun y hy hk => F.hasc _ (K.free y hy hk)
theorem clos_sub (F : FrOk h₀ cx env ρ μ h) (K : CompOk cx cxc scope x) {n : Str} {c : Addr} (hm : (n, c) ∈ clos env.cells scope.names []) : env.cells.lookup n = some c ∧ (n, .free) ∈ scope.names := by
  rcases clos_mem hm with h1 | ⟨h1, e⟩
  · first | exact noSome h1 | cases h1
  · obtain ⟨c', hc⟩ := F.frees K _ h1 rfl
    rw [hc] at e
    simp only [Option.getD_some] at e
    subst e; exact ⟨hc, h1⟩

/-- the frame of a comprehension -/
theorem comp_frame (F : FrOk h₀ cx env ρ μ h) (K : CompOk cx cxc scope x) {Cc : Addr} {m : Str → Option Value} (hn : h.Ns Cc m) (hC : Cc ∉ μ) (hC0 : h₀.get? Cc = none) (hCc : ∀ n c, (n, c) ∈ env.cells → c ≠ Cc) :
    FrOk h₀ cxc (compEnvC scope (clos env.cells scope.names []) Cc env) (ρ ++ [none]) μ h := by
  have lk : ∀ n, (n, .free) ∈ scope.names → ∃ c, (clos env.cells scope.names []).lookup n = some c ∧ env.cells.lookup n = some c := fun n hm => by
    obtain ⟨c, hc⟩ := clos_has (cells := env.cells) (acc := []) (.inl hm)
    obtain ⟨c', hc'⟩ := lookup_of_mem hc
    exact ⟨c', hc', (clos_sub F K (mem_of_lookup hc')).1⟩
  refine ⟨by rw [K.sc]; exact F.relabel, by rw [K.sc]; exact K.kind, F.gl, F.bl, by rw [List.length_append, F.len, K.n]; rfl, ⟨m, hn, fun n i v hs hr => ?_⟩, ⟨hC, hC0⟩, fun n c hm => ?_, fun n n' c h1 h2 => ?_, fun n hn => ?_⟩
  · rcases K.slot _ (mem_of_lookup hs) with e | ⟨h1, h2, h3⟩
    · cases e
      rw [← F.len] at hr
      simp at hr
    · have hlt : i < ρ.length := by rw [F.len]; exact K.okx.lt _ (mem_of_lookup h1)
      rw [List.getElem?_append_left hlt] at hr
      obtain ⟨m0, _, hm0⟩ := F.nsm
      have hk := K.free _ h2 rfl
      cases hm0 n i v h1 hr with
      | loc a1 _ _ => rw [hk] at a1; cases a1
      | cel _ a2 a3 a4 =>
        obtain ⟨c, b1, b2⟩ := lk n h2
        rw [b2] at a2; cases a2
        exact .cel h3 b1 a3 a4
  · obtain ⟨h1, h2⟩ := clos_sub F K hm
    obtain ⟨c1, c2, c3, c4⟩ := F.cel n c (mem_of_lookup h1)
    exact ⟨c1, c2, hCc n c (mem_of_lookup h1), c4⟩
  · exact F.apart n n' c (mem_of_lookup (clos_sub F K h1).1) (mem_of_lookup (clos_sub F K h2).1)
  · obtain ⟨c, hc, _⟩ := lk n (K.cells _ (mem_of_lookup hn) rfl)
    exact ⟨c, hc⟩
end

theorem SOk.adopt {h₀ h : Heap} {μ : List Addr} {σ : Store} {a : Addr} {items : List Value} {xs : List V} {ep : Nat} (S : SOk h₀ μ σ h) (hn : a ∉ μ) (hf : h₀.get? a = none)
    (hg : h.get? a = some { cls := .type "list", dict := none, data := .seq items.toArray ep, slots := #[] }) (r : Reps h₀ μ h items xs) (hl : items.length ≤ LIM) :
    SOk h₀ (μ ++ [a]) (σ ++ [xs]) h ∧ Rep h₀ (μ ++ [a]) h (.ref a) (.lst σ.length) := by
  refine ⟨⟨by simp [S.len], ?_, fun b hb => ?_, fun {n ys} e => ?_, S.base⟩, .lst ?_⟩
  · rw [List.nodup_append]
    exact ⟨S.nd, by simp, fun b hb c hc => by simp at hc; subst hc; exact fun e => hn (e ▸ hb)⟩
  · rcases List.mem_append.mp hb with hb | hb
    · exact S.fresh b hb
    · simp at hb; subst hb; exact hf
  · rcases Nat.lt_trichotomy n σ.length with h | h | h
    · rw [List.getElem?_append_left h] at e
      obtain ⟨b, its, ep, h1, h2, h3, h4⟩ := S.cell e
      exact ⟨b, its, ep, by rw [List.getElem?_append_left (by rw [S.len]; exact h)]; exact h1, h2, h3, h4.mono fun b o h _ => h⟩
    · subst h
      simp at e; subst e
      exact ⟨a, items, ep, by rw [← S.len]; simp, hg, hl, r.mono fun b o h _ => h⟩
    · rw [List.getElem?_eq_none (by simp; (first | lia | omega))] at e; cases e
  · rw [← S.len]; simp

theorem iter_self {prog : Program} {w : World} {A : Around} {h₀ : Heap} {I : Addr} {Z : Src} {j : Nat} {μ : List Addr} {s : Shared} (x : IterAt h₀ I Z j μ s.heap) {Q : Value → Shared → Prop} {E : Value → Shared → Prop} (h : Q (.ref I) s) : wpAny (model prog w) A (pyIter (.ref I)) Q E s := by
  cases x with
  | live _ h1 => exact wpAny_pyIter_listiter h1 h
  | tup h1 _ _ => exact wpAny_pyIter_tupleiter h1 h
  | ascii h1 => exact wpAny_pyIter_striter_ascii h1 h
  | wide h1 => exact wpAny_pyIter_striter_wide h1 h
  | rng h1 => exact wpAny_pyIter_rangeiter h1 h
end Mine
end

section
open PySem PySem.W PyProof.Rows PySem.Calls PySem.SeqAt
set_option Elab.async false
set_option linter.unusedVariables false
namespace Mine

theorem evLoop_len {Z : Src} {f : V → Store → Option (Option V × Store)} : ∀ {k j : Nat} {acc : List V} {σ : Store} {vs : List V} {σ' : Store}, evLoop Z f k j acc σ = some (vs, σ') → acc.length ≤ vs.length
  | 0, _, _, _, _, _, h => by cases h
  | k + 1, j, acc, σ, vs, σ', h => by
    simp only [evLoop] at h
    split at h
    · split at h
      · have := evLoop_len h; rw [List.length_append] at this; (first | lia | omega)
      · exact evLoop_len h
      · first | exact noSome h | cases h
    · cases h; exact Nat.le_refl _
    · first | exact noSome h | cases h

noncomputable abbrev TurnOk (B : Base) (C : Calls) (A : Around) (cxc : Cx) (cenv : Env) (ρ : REnv) (ifs : List Expr) (elt : Expr) (f : V → Store → Option (Option V × Store)) : Prop :=
  ∀ {μ : List Addr} {τ : Store} {s : Shared} {y : V} {r : Option V} {τ' : Store}, Sit B C A cxc cenv (ρ ++ [some y]) μ τ s → f y τ = some (r, τ') → ∀ {E : Value → Shared → Prop} {Qt : Value → Shared → Prop} {Qf : Shared → Prop},
    (∀ z z' s' μ', r = some z → Sit B C A cxc cenv (ρ ++ [some y]) μ' τ' s' → Stp μ μ' s s' → Rep B.h₀ μ' s'.heap z' z → Qt z' s') → (r = none → ∀ s' μ', Sit B C A cxc cenv (ρ ++ [some y]) μ' τ' s' → Stp μ μ' s s' → Qf s') →
    wpAny (model B.prog B.w) A (forIn ifs true fun c r => if r = true then do let ok ← isTrue c cenv (eval c cenv); pure (ForInStep.yield ok) else pure (ForInStep.yield r))
      (fun ok s₃ => if ok = true then wpAny (model B.prog B.w) A (eval elt cenv) Qt E s₃ else Qf s₃) E s

theorem Stp.thenBut {μ μ' : List Addr} {s₀ s : Shared} {W : Addr → Prop} (p : Stp μ μ' s₀ s) {h' : Heap} {t : Nat} (hk : ∀ b o, s.heap.get? b = some o → ¬ W b → h'.get? b = some o) (hW : ∀ b, W b → s₀.heap.get? b = none) (ha : ∀ b, W b → b ∉ μ') : Stp μ μ' s₀ { s with heap := h', toks := t } :=
  (p.toX.trans (StpX.but hk) ha).toStp hW

section
variable {B : Base} {C : Calls} {A : Around} {cx cxc : Cx} {env : Env} {ρ : REnv} {μ₁ : List Addr} {σ₁ σ₂ : Store} {s₁ : Shared} {scope : Scope} {x : Str}

inductive CompI (B : Base) (cxc : Cx) (cenv : Env) (ρ : REnv) (Z : Src) (f : V → Store → Option (Option V × Store)) (I D : Addr) (vs : List V) (σ₂ : Store) (μ₁ : List Addr) (s₁ : Shared) (k : Nat) (s' : Shared) : Prop where
  | mk (j : Nat) (μ' : List Addr) (σ' : Store) (acc : List V) (its : List Value) (ep : Nat) (wv : Option V) : evLoop Z f k j acc σ' = some (vs, σ₂) → IterAt B.h₀ I Z j μ' s'.heap → (∀ xs, Z = .fix xs → j ≤ xs.length) → SOk B.h₀ μ' σ' s'.heap → Stp μ₁ μ' s₁ s' →
        s'.heap.get? D = some { cls := .type "list", dict := none, data := .seq (List.toArray its) ep, slots := #[] } → Reps B.h₀ μ' s'.heap its acc → D ∉ μ' → FrOk B.h₀ cxc cenv (ρ ++ [wv]) μ' s'.heap → CompI B cxc cenv ρ Z f I D vs σ₂ μ₁ s₁ k s'
theorem comp_core (K : CompOk cx cxc scope x) (X₁ : Sit B C A cx env ρ μ₁ σ₁ s₁) {x' : Value} {xv : V} {Z : Src} {f : V → Store → Option (Option V × Store)} {vs : List V} {ifs : List Expr} {elt iter : Expr} {px pos : Pos} {E : Value → Shared → Prop}
    (rx : Rep B.h₀ μ₁ s₁.heap x' xv) (hz : srcOf xv = some Z) (hev : evLoop Z f Z.fuel 0 [] σ₁ = some (vs, σ₂)) (hvs : vs.length ≤ LIM)
    (hT : ∀ Cc, TurnOk B C A cxc (compEnvC scope (clos env.cells scope.names []) Cc env) ρ ifs elt f) {RR : Value → Addr → Result → Shared → Prop}
    (hRR : ∀ D Cc s' μ', s₁.heap.get? D = none → s₁.heap.get? Cc = none → D ≠ Cc → (∃ m, s'.heap.Ns Cc m) → SOk B.h₀ μ' σ₂ s'.heap → Stp μ₁ μ' s₁ s' → D ∉ μ' → Cc ∉ μ' →
      (∃ its ep, s'.heap.get? D = some { cls := .type "list", dict := none, data := .seq (List.toArray its) ep, slots := #[] } ∧ its.length ≤ LIM ∧ Reps B.h₀ μ' s'.heap its vs) → RR (.ref D) Cc (.ok .next) s') :
    wpAny (model B.prog B.w) A (pyIter x') (fun it s₂ => wpAny (model B.prog B.w) A (newList []) (fun acc s₃ => wpAny (model B.prog B.w) A (newFunctionEnv scope env.globals (clos env.cells scope.names []) [] env.qual none .none (some env)) (fun cenv s₄ =>
      codeAny (model B.prog B.w) A (.compStart (.ListComp elt [⟨.Name x px, iter, ifs, 0⟩] scope pos) 0 it acc { cenv with scope := relabel scope env }) (RR acc cenv.locals) s₄) E s₃) E s₂) E s₁ := by
  refine iter_start X₁.S rx hz fun h₂ hk₂ hit₂ => ?_
  refine wpAny_newObj_type (wpAny_newFunctionEnv K.nocell (by intro y hy; simp at hy) (fun h₃ hns₃ hsb₃ => ?_) K.kind)
  dsimp only at hns₃ hsb₃ ⊢
  generalize hI : s₁.heap.objs.size = I at hit₂ ⊢
  have hfI : s₁.heap.get? I = none := hI ▸ free_size _
  generalize hH : h₂.push { cls := .type "list", dict := none, data := .seq ([] : List Value).toArray } = H2 at hns₃ hsb₃ ⊢
  have hD2 : h₂.get? h₂.objs.size = none := free_size _
  have k2 : ∀ b o, h₂.get? b = some o → H2.get? b = some o := fun b o e => hH ▸ Heap.get?_push_of_some _ e
  have hDH : H2.get? h₂.objs.size = some { cls := .type "list", dict := none, data := .seq ([] : List Value).toArray, slots := #[] } := hH ▸ Heap.get?_push_size _ rfl
  generalize hDe : h₂.objs.size = D at hD2 hDH ⊢
  have hC2 : H2.get? H2.objs.size = none := free_size _
  have k3 : ∀ b o, H2.get? b = some o → h₃.get? b = some o := fun b o e => by
    have hne : b ≠ H2.objs.size := Nat.ne_of_lt (Heap.lt_size e)
    rw [hsb₃.2 b hne]; exact Heap.get?_push_of_some _ e
  generalize hCe : H2.objs.size = Cc at hns₃ hC2 ⊢
  have old : ∀ b o, s₁.heap.get? b = some o → h₃.get? b = some o := fun b o e => k3 b o (k2 b o (hk₂ b o e))
  have none₂ : ∀ {b}, h₂.get? b = none → s₁.heap.get? b = none := fun {b} e => by
    cases e' : s₁.heap.get? b with
    | none => rfl
    | some o => rw [hk₂ b o e'] at e; cases e
  have noneH : ∀ {b}, H2.get? b = none → h₂.get? b = none := fun {b} e => by
    cases e' : h₂.get? b with
    | none => rfl
    | some o => rw [k2 b o e'] at e; cases e
  have hfD : s₁.heap.get? D = none := none₂ hD2
  have hfC : s₁.heap.get? Cc = none := none₂ (noneH hC2)
  obtain ⟨oI, hoI, _, _⟩ := hit₂.obj
  have hID : I ≠ D := fun e => by subst e; rw [hoI] at hD2; cases hD2
  have hIC : I ≠ Cc := fun e => by subst e; rw [noneH hC2] at hoI; cases hoI
  have hDC : D ≠ Cc := fun e => by subst e; rw [hDH] at hC2; cases hC2
  have hgI := X₁.S.free hfI
  have hgD := X₁.S.free hfD
  have hgC := X₁.S.free hfC
  have notμ : ∀ {b}, s₁.heap.get? b = none → b ∉ μ₁ := fun {b} e hm => by
    obtain ⟨o, h, _⟩ := X₁.S.isList hm
    rw [e] at h; cases h
  have S₂ : SOk B.h₀ μ₁ σ₁ h₂ := X₁.S.grown hk₂
  have S₃ : SOk B.h₀ μ₁ σ₁ h₃ := X₁.S.grown old
  have hit₃ : IterAt B.h₀ I Z 0 μ₁ h₃ := IterAt.stepX (W := fun _ => False) (s := { s₁ with heap := h₂ }) (s' := { s₁ with heap := h₃ }) hit₂ S₂ (Stp.grown (s := { s₁ with heap := h₂ }) (t := s₁.toks) fun b o e => k3 b o (k2 b o e)).toX (fun _ _ h => h.elim) (fun h => h)
  have F₃ : FrOk B.h₀ cx env ρ μ₁ h₃ := X₁.F.step X₁.S (Stp.grown (t := s₁.toks) old)
  have hCcell : ∀ n c, (n, c) ∈ env.cells → c ≠ Cc := fun n c hm e => by
    obtain ⟨_, _, _, v, o, ho, _⟩ := X₁.F.cel n c hm
    rw [e, hfC] at ho; cases ho
  have Fc := comp_frame F₃ K hns₃ (notμ hfC) hgC hCcell
  have ownC : ∀ {b}, s₁.heap.get? b = none → b ≠ Cc → ¬ Own (compEnvC scope (clos env.cells scope.names []) Cc env) b := fun {b} hb hne ho => by
    rcases ho with e | ⟨n, hm⟩
    · exact hne e
    · obtain ⟨_, _, _, v, o, ho, _⟩ := X₁.F.cel n b (mem_of_lookup (clos_sub X₁.F K hm).1)
      rw [hb] at ho; cases ho
  have hD3 : h₃.get? D = some { cls := .type "list", dict := none, data := .seq (List.toArray ([] : List Value)) 0, slots := #[] } := k3 _ _ hDH
  have loop : ∀ s₃ : Shared, s₃ = { s₁ with heap := h₃, toks := s₁.toks + ([] : List (Str × Value)).length } →
      codeAny (model B.prog B.w) A (.compLoop (.ListComp elt [⟨.Name x px, iter, ifs, 0⟩] scope pos) 0 (.ref I) (.ref D) (compEnvC scope (clos env.cells scope.names []) Cc env)) (RR (.ref D) Cc) s₃ := by
    rintro s₃ rfl
    generalize hce : compEnvC scope (clos env.cells scope.names []) Cc env = cenv at Fc ownC ⊢
    have hcl : cenv.locals = Cc := by rw [← hce]; rfl
    refine codeAny_compLoop_tests (CompI B cxc cenv ρ Z f I D vs σ₂ μ₁ s₁) ?_ Z.fuel
      ⟨0, μ₁, σ₁, [], [], 0, none, hev, hit₃, fun _ _ => Nat.zero_le _, S₃, Stp.grown old, hD3, .nil, notμ hfD, Fc⟩
    rintro k s' ⟨j, μ', σ', acc, its, ep, wv, he, hit, hjl, S', p', hD, ra, hDμ, F'⟩
    have hhd := X₁.R.hd
    -- what changes is loose
    obtain ⟨o, ho, hof, hol⟩ := hit.obj
    have WI : Loose B.h₀ (fun b => b = I) μ' s'.heap := ⟨fun b e => e ▸ hgI, fun b e => e ▸ hit.apart S', fun b o' e h => by subst e; rw [ho] at h; cases h; exact hof⟩
    cases k with
    | zero => cases he
    | succ k =>
      simp only [evLoop] at he
      cases hget : Z.get j σ' with
      | none => rw [hget] at he; cases he
      | some r =>
        rw [hget] at he
        refine iter_next S' hit hjl hhd hgI hget fun h4 tk4 hk4 => ?_
        have S4 := S'.but hk4 WI
        have p4 : Stp μ₁ μ' s₁ { s' with heap := h4, toks := tk4 } := p'.thenBut hk4 (fun b e => e ▸ hfI) (fun b e => e ▸ hit.apart S')
        have hD4 := hk4 _ _ hD (Ne.symm hID)
        have ra4 := ra.but hk4 WI
        have F4 := F'.but hk4 WI fun b e => by subst e; exact ownC hfI hIC
        cases r with
        | none =>
          simp only [Option.some.injEq, Prod.mk.injEq] at he
          obtain ⟨rfl, rfl⟩ := he
          refine hRR D Cc _ μ' hfD hfC hDC ?_ S4 p4 hDμ ?_ ⟨its, ep, hD4, by rw [ra.length]; exact hvs, ra4⟩
          · obtain ⟨m, hm, _⟩ := F4.nsm; rw [hcl] at hm; exact ⟨m, hm⟩
          · have := F4.own.1; rwa [hcl] at this
        | some y =>
          intro v rv hit4
          have hxl : cxc.scope.names.lookup x = some .local := by
            rw [K.sc]
            exact lookup_relabel_local (env := { env with scope := cx.scope }) K.hx
          refine wpAny_assign_Name (store_local F4 K.ok K.slotx hxl rv fun h5 F5 hsb5 => ?_)
          rw [hcl] at hsb5
          have hk5 : ∀ b o, h4.get? b = some o → ¬ b = Cc → h5.get? b = some o := fun b o e hne => (hsb5.2 b hne).trans e
          have WC : Loose B.h₀ (fun b => b = Cc) μ' h4 := by
            have := F4.loose
            exact ⟨fun b e => e ▸ hgC, fun b e => this.apart b (.inl (e.trans hcl.symm)), fun b o e h => this.firm b o (.inl (e.trans hcl.symm)) h⟩
          have S5 := S4.but hk5 WC
          have p5 : Stp μ₁ μ' s₁ { s' with heap := h5, toks := tk4 + 1 } := p4.thenBut (s := { s' with heap := h4, toks := tk4 }) hk5 (fun b e => e ▸ hfC) (fun b e => WC.apart b e)
          have hD5 := hk5 _ _ hD4 hDC
          have ra5 := ra4.but hk5 WC
          have hit5 : IterAt B.h₀ I Z (j + 1) μ' h5 := IterAt.stepX (W := fun b => b = Cc) (s := { s' with heap := h4, toks := tk4 }) (s' := { s' with heap := h5, toks := tk4 }) hit4 S4 (StpX.but (s := { s' with heap := h4, toks := tk4 }) hk5) (fun b o e h => WC.firm b o e h) hIC
          have eρ : (ρ ++ [wv]).set cx.n (some y) = ρ ++ [some y] := by
            rw [← X₁.F.len, List.set_append_right _ _ (Nat.le_refl _)]; simp
          rw [eρ] at F5
          have X5 : Sit B C A cxc cenv (ρ ++ [some y]) μ' σ' { s' with heap := h5, toks := tk4 + 1 } := ⟨S5, F5, p5.gens.trans X₁.gens, X₁.R, X₁.calls⟩
          have hj1 : ∀ xs, Z = .fix xs → j + 1 ≤ xs.length := fun xs e => by
            subst e
            simp only [Src.get, Option.some.injEq] at hget
            exact (List.getElem?_eq_some_iff.mp hget).1
          cases hf : f y σ' with
          | none => simp only [hf] at he; cases he
          | some q =>
            obtain ⟨r, τ'⟩ := q
            have fin : ∀ {s6 : Shared} {μ6 : List Addr}, Sit B C A cxc cenv (ρ ++ [some y]) μ6 τ' s6 → Stp μ' μ6 { s' with heap := h5, toks := tk4 + 1 } s6 →
                IterAt B.h₀ I Z (j + 1) μ6 s6.heap ∧ Stp μ₁ μ6 s₁ s6 ∧ s6.heap.get? D = some { cls := .type "list", dict := none, data := .seq (List.toArray its) ep, slots := #[] } ∧ Reps B.h₀ μ6 s6.heap its acc ∧ D ∉ μ6 := fun X6 p6 =>
              ⟨hit5.stepX (W := fun _ => False) S5 p6.toX (fun _ _ h => h.elim) (fun h => h), p5.trans p6, p6.keep _ _ hD5 hDμ, ra5.step S5 p6, p6.mem hD5 hDμ⟩
            subst hce
            refine hT Cc X5 hf (fun z z' s6 μ6 hz6 X6 p6 r6 => ?_) (fun hn s6 μ6 X6 p6 => ?_)
            · skip
              subst hz6
              simp only [hf] at he
              obtain ⟨f1, f2, f3, f4, f5⟩ := fin X6 p6
              have hlen : its.length < LIM + 1 := by have := evLoop_len he; rw [List.length_append, ← ra.length] at this; simp at this; (first | lia | omega)
              refine wpAny_list_append_plain ⟨ep, f3⟩ (fun h7 hp7 hsb7 => ?_) (by rw [List.size_toArray, sizeLine_LIM]; (first | lia | omega))
              obtain ⟨ep7, hD7⟩ := hp7
              have hk7 : ∀ b o, s6.heap.get? b = some o → ¬ b = D → h7.get? b = some o := fun b o e hne => (hsb7.2 b hne).trans e
              have WD : Loose B.h₀ (fun b => b = D) μ6 s6.heap := ⟨fun b e => e ▸ hgD, fun b e => e ▸ f5, fun b o e h hfm => by subst e; rw [f3] at h; cases h; exact hfm.not_list rfl⟩
              refine ⟨k, Nat.lt_succ_self _, j + 1, μ6, τ', acc ++ [z], its ++ [z'], ep7, some y, he, ?_, hj1, X6.S.but hk7 WD, ?_, by simpa using hD7, (f4.but hk7 WD).append (.cons (r6.but hk7 WD) .nil), f5, X6.F.but hk7 WD fun b e => by subst e; exact ownC hfD hDC⟩
              · exact IterAt.stepX (W := fun b => b = D) (s := s6) (s' := { s6 with heap := h7 }) f1 X6.S (StpX.but (s := s6) (t := s6.toks) hk7) (fun b o e h => WD.firm b o e h) hID
              · exact f2.thenBut (t := s6.toks) hk7 (fun b e => e ▸ hfD) (fun b e => e ▸ f5)
            · skip
              subst hn
              simp only [hf] at he
              obtain ⟨f1, f2, f3, f4, f5⟩ := fin X6 p6
              exact ⟨k, Nat.lt_succ_self _, j + 1, μ6, τ', acc, its, ep, some y, he, f1, hj1, X6.S, f2, f3, f4, f5, X6.F⟩
  exact codeAny_compStart_list (loop _ rfl) (iter_self hit₃ (loop _ rfl))
end
end Mine
end

section
open PySem PySem.W PyProof.Rows PySem.Calls PySem.SeqAt
set_option Elab.async false
set_option linter.unusedVariables false
namespace Mine

theorem Stp.adopt {μ μ' : List Addr} {s s' : Shared} (p : Stp μ μ' s s') {a : Addr} (h : s.heap.get? a = none) : Stp μ (μ' ++ [a]) s s' := by
  obtain ⟨ν, hν, hf⟩ := p.pre
  refine ⟨⟨ν ++ [a], by rw [hν, List.append_assoc], fun b hb => ?_⟩, p.keep, p.live, p.gens, p.os⟩
  rcases List.mem_append.mp hb with hb | hb
  · exact hf b hb
  · rw [List.mem_singleton.mp hb]; exact h

section
variable {B : Base} {cx cxc : Cx} {scope : Scope} {x : Str}

theorem turn_plain {elt : Expr} {elt' : Ex} (he : SndE B cxc elt elt') {C : Calls} {A : Around} {cenv : Env} {ρ : REnv} : TurnOk B C A cxc cenv ρ [] elt (cF B.T C ρ elt') := by
  intro μ τ s y r τ' X hf E Qt Qf h1 h2
  rw [List.forIn_nil]
  refine wpAny_pure ?_
  rw [if_pos rfl]
  unfold cF at hf
  split at hf
  · rename_i z τ₁ hz
    cases hf
    exact he X hz fun z' s' μ' X' p' r' => h1 _ _ _ _ rfl X' p' r'
  · first | exact noSome hf | cases hf
theorem turn_if {c elt : Expr} {c' elt' : Ex} (hc : SndT B cxc c c') (he : SndE B cxc elt elt') {C : Calls} {A : Around} {cenv : Env} {ρ : REnv} : TurnOk B C A cxc cenv ρ [c] elt (cIf B.T C ρ c' elt') := by
  intro μ τ s y r τ' X hf E Qt Qf h1 h2
  rw [List.forIn_cons, if_pos rfl]
  refine wpAny_bind (wpAny_bind ?_)
  unfold cIf at hf
  split at hf
  · rename_i τ₁ hb
    split at hf
    · rename_i z τ₂ hz
      cases hf
      refine hc X hb fun s' μ' X' p' => wpAny_pure (wpAny_pure ?_)
      rw [if_pos rfl]; exact he X' hz fun z' s'' μ'' X'' p'' r' => h1 _ _ _ _ rfl X'' (p'.trans p'') r'
    · first | exact noSome hf | cases hf
  · rename_i τ₁ hb
    cases hf
    refine hc X hb fun s' μ' X' p' => wpAny_pure (wpAny_pure ?_)
    rw [if_neg (by decide)]; exact h2 rfl _ _ X' p'
  · first | exact noSome hf | cases hf

/-- the comprehension's list, as a value -/
theorem comp_end {C : Calls} {A : Around} {env : Env} {ρ : REnv} {μ₁ μ' : List Addr} {σ₁ σ₂ : Store} {s₁ s' : Shared} {D Cc : Addr} {vs : List V} (X₁ : Sit B C A cx env ρ μ₁ σ₁ s₁) (hD : s₁.heap.get? D = none) (hC : s₁.heap.get? Cc = none) (hDC : D ≠ Cc)
    (hn : ∃ m, s'.heap.Ns Cc m) (S' : SOk B.h₀ μ' σ₂ s'.heap) (p' : Stp μ₁ μ' s₁ s') (hDμ : D ∉ μ') (hCμ : Cc ∉ μ')
    (hl : ∃ its ep, s'.heap.get? D = some { cls := .type "list", dict := none, data := .seq (List.toArray its) ep, slots := #[] } ∧ its.length ≤ LIM ∧ Reps B.h₀ μ' s'.heap its vs) {h' : Heap} {t : Nat} (hsb : Heap.SameBut Cc s'.heap h') :
    Sit B C A cx env ρ (μ' ++ [D]) (σ₂ ++ [vs]) { s' with heap := h', toks := t } ∧ Stp μ₁ (μ' ++ [D]) s₁ { s' with heap := h', toks := t } ∧ Rep B.h₀ (μ' ++ [D]) h' (.ref D) (.lst σ₂.length) := by
  obtain ⟨its, ep, hg, hlen, rr⟩ := hl
  obtain ⟨m, oC, es, ep', hoC, hdC, _⟩ := hn
  have hk : ∀ b o, s'.heap.get? b = some o → ¬ b = Cc → h'.get? b = some o := fun b o e hne => (hsb.2 b hne).trans e
  have WC : Loose B.h₀ (fun b => b = Cc) μ' s'.heap := ⟨fun b e => e ▸ X₁.S.free hC, fun b e => e ▸ hCμ, fun b o e h hf => by
    subst e; rw [hoC] at h; cases h
    rcases hf with ⟨_, xs, n, h3⟩ | ⟨_, xs, h3⟩ <;> rw [hdC] at h3 <;> cases h3⟩
  have S2 := S'.but hk WC
  obtain ⟨S3, r3⟩ := S2.adopt hDμ (X₁.S.free hD) (hk _ _ hg hDC) (rr.but hk WC) hlen
  have p2 : Stp μ₁ (μ' ++ [D]) s₁ { s' with heap := h', toks := t } := (p'.thenBut hk (fun b e => e ▸ hC) (fun b e => e ▸ hCμ)).adopt hD
  exact ⟨X₁.go S3 p2, p2, r3⟩

theorem comp_any (K : CompOk cx cxc scope x) {src elt iter : Expr} {src' : Ex} {ifs : List Expr} {px pos : Pos} {c : Ex} (hsrc : SndE B cx iter src') (fld : ∀ env x, foldedSetIterable iter env x = pure x) (F : Calls → REnv → V → Store → Option (Option V × Store))
    (hT : ∀ {C : Calls} {A : Around} {cenv : Env} {ρ : REnv}, TurnOk B C A cxc cenv ρ ifs elt (F C ρ))
    (hev : ∀ {C : Calls} {ρ : REnv} {σ σ' : Store} {v : V}, ev B.T C ρ σ c = some (v, σ') → ∃ xv σ₁ Z vs σ₂, ev B.T C ρ σ src' = some (xv, σ₁) ∧ srcOf xv = some Z ∧ evLoop Z (F C ρ) Z.fuel 0 [] σ₁ = some (vs, σ₂) ∧ vs.length ≤ LIM ∧ v = .lst σ₂.length ∧ σ' = σ₂ ++ [vs]) :
    Snd B cx (.ListComp elt [⟨.Name x px, iter, ifs, 0⟩] scope pos) c :=
  snd_of (fun X => fun hv => fun hQ => by
    obtain ⟨xv, σ₁, Z, vs, σ₂, h1, h2, h3, h4, rfl, rfl⟩ := hev hv
    rw [eval_ListComp]
    refine wpAny_comprehension_free (use := none) rfl (fld _) (closureFor_ok (X.F.frees K)) K.kind K.names (hsrc X h1 fun x' s₁ μ₁ X₁ p₁ r₁ => ?_)
    refine comp_core (RR := fun acc C => compPost _ _ _ none _ acc C) K X₁ r₁ h2 h3 h4 (fun _ => hT) fun D Cc s' μ' a1 a2 a3 a4 a5 a6 a7 a8 a9 => ?_
    obtain ⟨m, hm⟩ := a4
    refine ⟨m, hm, fun h' hsb => ?_⟩
    obtain ⟨X3, p3, r3⟩ := comp_end (t := s'.toks) X₁ a1 a2 a3 ⟨m, hm⟩ a5 a6 a7 a8 a9 hsb
    exact hQ _ _ _ X3 (p₁.trans p3) r3) fun _ => rfl

theorem ev_comp {T : Tabs} {C : Calls} {ρ : REnv} {σ σ' : Store} {v : V} {src elt : Ex} (h : ev T C ρ σ (.comp src elt) = some (v, σ')) :
    ∃ xv σ₁ Z vs σ₂, ev T C ρ σ src = some (xv, σ₁) ∧ srcOf xv = some Z ∧ evLoop Z (cF T C ρ elt) Z.fuel 0 [] σ₁ = some (vs, σ₂) ∧ vs.length ≤ LIM ∧ v = .lst σ₂.length ∧ σ' = σ₂ ++ [vs] := by
  simp only [ev] at h
  split at h
  · rename_i xv σ₁ h1
    split at h
    · rename_i Z h2
      split at h
      · rename_i vs σ₂ h3
        split at h
        · rename_i h4
          cases h
          exact ⟨xv, σ₁, Z, vs, σ₂, h1, h2, h3, h4, rfl, rfl⟩
        · first | exact noSome h | cases h
      · first | exact noSome h | cases h
    · first | exact noSome h | cases h
  · first | exact noSome h | cases h
theorem ev_compIf {T : Tabs} {C : Calls} {ρ : REnv} {σ σ' : Store} {v : V} {src cond elt : Ex} (h : ev T C ρ σ (.compIf src cond elt) = some (v, σ')) :
    ∃ xv σ₁ Z vs σ₂, ev T C ρ σ src = some (xv, σ₁) ∧ srcOf xv = some Z ∧ evLoop Z (cIf T C ρ cond elt) Z.fuel 0 [] σ₁ = some (vs, σ₂) ∧ vs.length ≤ LIM ∧ v = .lst σ₂.length ∧ σ' = σ₂ ++ [vs] := by
  simp only [ev] at h
  split at h
  · rename_i xv σ₁ h1
    split at h
    · rename_i Z h2
      split at h
      · rename_i vs σ₂ h3
        split at h
        · rename_i h4
          cases h
          exact ⟨xv, σ₁, Z, vs, σ₂, h1, h2, h3, h4, rfl, rfl⟩
        · first | exact noSome h | cases h
      · first | exact noSome h | cases h
    · first | exact noSome h | cases h
  · first | exact noSome h | cases h
theorem snd_comp (K : CompOk cx cxc scope x) {elt iter : Expr} {src' elt' : Ex} {px pos : Pos} (hsrc : Snd B cx iter src') (fld : ∀ env x, foldedSetIterable iter env x = pure x) (he : Snd B cxc elt elt') : Snd B cx (.ListComp elt [⟨.Name x px, iter, [], 0⟩] scope pos) (.comp src' elt') :=
  comp_any (src := iter) K hsrc.1 fld (fun C ρ => cF B.T C ρ elt') (turn_plain he.1) ev_comp
theorem snd_compIf (K : CompOk cx cxc scope x) {elt iter c : Expr} {src' elt' c' : Ex} {px pos : Pos} (hsrc : Snd B cx iter src') (fld : ∀ env x, foldedSetIterable iter env x = pure x) (hc : Snd B cxc c c') (he : Snd B cxc elt elt') : Snd B cx (.ListComp elt [⟨.Name x px, iter, [c], 0⟩] scope pos) (.compIf src' c' elt') :=
  comp_any (src := iter) K hsrc.1 fld (fun C ρ => cIf B.T C ρ c' elt') (turn_if hc.2 he.1) ev_compIf
end

/-! statements -/
inductive FlRep (h₀ : Heap) (μ : List Addr) (h : Heap) : Flow → Fl → Prop where
  | next : FlRep h₀ μ h .next .next
  | brk : FlRep h₀ μ h .brk .brk
  | ret {v' : Value} {v : V} : Rep h₀ μ h v' v → FlRep h₀ μ h (.ret v') (.ret v)

noncomputable def OutS (B : Base) (C : Calls) (A : Around) (cx : Cx) (env : Env) (ρ' : REnv) (μ : List Addr) (s : Shared) (σ' : Store) (fl : Fl) (Q : Flow → Shared → Prop) : Prop := ∀ f s' μ', Sit B C A cx env ρ' μ' σ' s' → StpX (Own env) μ μ' s s' → FlRep B.h₀ μ' s'.heap f fl → Q f s'
noncomputable abbrev SndS (B : Base) (cx : Cx) (st : Stmt) (c : St) : Prop :=
  ∀ {C : Calls} {A : Around} {env : Env} {ρ : REnv} {μ : List Addr} {σ : Store} {s : Shared}, Sit B C A cx env ρ μ σ s → ∀ {fl : Fl} {ρ' : REnv} {σ' : Store}, ex B.T C ρ σ c = some (fl, ρ', σ') →
  ∀ {Q : Flow → Shared → Prop} {E : Value → Shared → Prop}, OutS B C A cx env ρ' μ s σ' fl Q →
  wpAny (model B.prog B.w) A (exec st env) Q E s
noncomputable abbrev SndSs (B : Base) (cx : Cx) (st : List Stmt) (c : Sts) : Prop :=
  ∀ {C : Calls} {A : Around} {env : Env} {ρ : REnv} {μ : List Addr} {σ : Store} {s : Shared}, Sit B C A cx env ρ μ σ s → ∀ {fl : Fl} {ρ' : REnv} {σ' : Store}, exs B.T C ρ σ c = some (fl, ρ', σ') →
  ∀ {Q : Flow → Shared → Prop} {E : Value → Shared → Prop}, OutS B C A cx env ρ' μ s σ' fl Q →
  wpAny (model B.prog B.w) A (execs st env) Q E s

section
variable {B : Base} {cx : Cx}

theorem Sit.tr {C : Calls} {A : Around} {env : Env} {ρ'' : REnv} {μ μ' μ'' : List Addr} {σ'' : Store} {s s' s'' : Shared} (X'' : Sit B C A cx env ρ'' μ'' σ'' s'') (a : StpX (Own env) μ μ' s s') (b : StpX (Own env) μ' μ'' s' s'') : StpX (Own env) μ μ'' s s'' :=
  a.trans b X''.F.loose.apart

theorem sndSs_nil : SndSs B cx [] .nil := fun X => fun h => fun hQ => by
  simp only [exs] at h
  cases h
  exact wpAny_execs_nil (hQ _ _ _ X .refl .next)
theorem sndSs_cons {st : Stmt} {c : St} {sts : List Stmt} {cs : Sts} (h1 : SndS B cx st c) (h2 : SndSs B cx sts cs) : SndSs B cx (st :: sts) (.cons c cs) := fun X => fun h => fun hQ => by
  simp only [exs] at h
  refine wpAny_execs_cons ?_
  split at h
  · rename_i ρ₁ σ₁ he
    refine h1 X he fun f s' μ' X' p' r => ?_
    cases r
    exact h2 X' h fun f s'' μ'' X'' p'' r => hQ _ _ _ X'' (X''.tr p' p'') r
  · rename_i ρ₁ σ₁ he
    cases h
    refine h1 X he fun f s' μ' X' p' r => ?_
    cases r
    exact hQ _ _ _ X' p' .brk
  · rename_i v ρ₁ σ₁ he
    cases h
    refine h1 X he fun f s' μ' X' p' r => ?_
    cases r with
    | ret r => exact hQ _ _ _ X' p' (.ret r)
  · first | exact noSome h | cases h

theorem sndS_fail (st : Stmt) : SndS B cx st .fail := fun X => fun h => by simp only [ex] at h; cases h
theorem sndS_brk (p : Pos) : SndS B cx (.Break p) .brk := fun X => fun h => fun hQ => by
  simp only [ex] at h
  cases h
  exact wpAny_Break (hQ _ _ _ X .refl .brk)
theorem sndS_ret {e : Expr} {e' : Ex} (he : Snd B cx e e') (p : Pos) : SndS B cx (.Return (some e) p) (.ret e') := fun X => fun h => fun hQ => by
  simp only [ex] at h
  split at h
  · rename_i v σ₁ h1
    cases h
    exact wpAny_Return_some (he.1 X h1 fun v' s' μ' X' p' r => hQ _ _ _ X' p'.toX (.ret r))
  · first | exact noSome h | cases h
theorem sndS_if {t : Expr} {t' : Ex} {a b : List Stmt} {a' b' : Sts} (ht : Snd B cx t t') (ha : SndSs B cx a a') (hb : SndSs B cx b b') (p : Pos) : SndS B cx (.If t a b p) (.ite t' a' b') := fun X => fun h => fun hQ => by
  simp only [ex] at h
  refine wpAny_If ?_
  split at h
  · rename_i σ₁ h1
    refine ht.2 X h1 fun s' μ' X' p' => ?_
    rw [if_pos rfl]
    exact ha X' h fun f s'' μ'' X'' p'' r => hQ _ _ _ X'' (X''.tr p'.toX p'') r
  · rename_i σ₁ h1
    refine ht.2 X h1 fun s' μ' X' p' => ?_
    rw [if_neg (by decide)]
    exact hb X' h fun f s'' μ'' X'' p'' r => hQ _ _ _ X'' (X''.tr p'.toX p'') r
  · first | exact noSome h | cases h

theorem sndS_expr {e : Expr} {e' : Ex} (he : Snd B cx e e') (p : Pos) (hs : ∀ env : Env, env.scope = cx.scope → swapsWith e none p.line env = pure false) : SndS B cx (.Expr e p) (.expr e') := fun X => fun h => fun hQ => by
  simp only [ex] at h
  split at h
  · rename_i v σ₁ h1
    cases h
    rw [exec_Expr _ e p (by unfold interactive; rw [X.F.sc, X.F.fk]; rfl) (hs _ X.F.sc)]
    refine wpAny_bind (wpAny_standAt (wpAny_bind (he.1 X h1 fun v' s' μ' X' p' r => ?_)))
    exact wpAny_dropValue (hQ _ _ _ X' p'.toX .next)
  · cases h
theorem sndS_set (hok : CxOk cx) {n : Str} {i : Nat} (hn : cx.slot.lookup n = some i) {e : Expr} {e' : Ex} (he : Snd B cx e e') (q p : Pos) (hs : ∀ env : Env, env.scope = cx.scope → swapsWith e (some (.Name n q)) p.line env = pure false) : SndS B cx (.Assign [.Name n q] e p) (.set i e') := fun X => fun h => fun hQ => by
  simp only [ex] at h
  split at h
  · rename_i v σ₁ h1
    cases h
    refine wpAny_Assign_Name (he.1 X h1 fun v' s' μ' X' p' r => store_ok X' hok hn r fun s'' X'' p'' => hQ _ _ _ X'' (X''.tr p'.toX p'') .next) (hs _ X.F.sc)
  · first | exact noSome h | cases h
theorem sndS_aug (hok : CxOk cx) {n : Str} {i : Nat} (hn : cx.slot.lookup n = some i) {e : Expr} {e' : Ex} {o : Bop} {op : Operator} (he : Snd B cx e e')
    (ho : ∀ {A : Around} {μ : List Addr} {σ : Store} {s : Shared} {x' y' : Value} {x y v : V} {σ' : Store}, Rm A 0 → SOk B.h₀ μ σ s.heap → Rep B.h₀ μ s.heap x' x → Rep B.h₀ μ s.heap y' y → evAug o x y σ = some (v, σ') →
      ∀ {Q : Value → Shared → Prop} {E : Value → Shared → Prop}, Out B μ s σ' v Q → wpAny (model B.prog B.w) A (inplaceOp op x' y') Q E s) (q p : Pos) : SndS B cx (.AugAssign (.Name n q) op e p) (.aug i o e') := fun X => fun h => fun hQ => by
  simp only [ex] at h
  split at h
  · rename_i old ho'
    split at h
    · rename_i v σ₁ h1
      split at h
      · rename_i r σ₂ h2
        cases h
        refine wpAny_AugAssign_Name (load_name hn X ho' fun old' ro => he.1 X h1 fun v' s' μ' X' p' rv => ho X'.R X'.S (ro.step X.S p') rv h2 fun w' s'' μ'' S'' p'' rw' => store_ok (X'.go S'' p'') hok hn rw' fun s₃ X₃ p₃ => hQ _ _ _ X₃ (X₃.tr (p'.trans p'').toX p₃) .next)
      · first | exact noSome h | cases h
    · first | exact noSome h | cases h
  · first | exact noSome h | cases h
theorem aug_add : ∀ {A : Around} {μ : List Addr} {σ : Store} {s : Shared} {x' y' : Value} {x y v : V} {σ' : Store}, Rm A 0 → SOk B.h₀ μ σ s.heap → Rep B.h₀ μ s.heap x' x → Rep B.h₀ μ s.heap y' y → evAug .add x y σ = some (v, σ') →
      ∀ {Q : Value → Shared → Prop} {E : Value → Shared → Prop}, Out B μ s σ' v Q → wpAny (model B.prog B.w) A (inplaceOp .Add x' y') Q E s := by
  intro A μ σ s x' y' x y v σ' R S rx ry h Q E hQ
  replace h := orE_inv h
  rcases h with h2 | h2
  · exact opB_ints rx ry h2 fun a b t u h3 => by
      obtain ⟨rfl, rfl⟩ := some_pair h3
      exact PySem.P.iadd_int (hQ _ _ _ S .tok (.int _ _))
  · obtain ⟨a, b, rfl, rfl, h3⟩ := bStr_inv h2
    obtain ⟨hl, rfl, rfl⟩ := if_some h3
    obtain ⟨t, rfl, _⟩ := rx.inv_str
    obtain ⟨u, rfl, _⟩ := ry.inv_str
    refine iadd_str (fun t' tk => hQ _ _ _ S .tok ?_) (by rw [strLen, strLen, sizeLine_LIM]; exact hl)
    rw [strAppend]; exact .str _ _ (by rw [List.length_append]; exact hl)
end
end Mine
end

section
open PySem PySem.W PyProof.Rows PySem.Calls PySem.SeqAt
set_option Elab.async false
set_option linter.unusedVariables false
namespace Mine

theorem StpX.thenBut {μ μ' : List Addr} {s₀ s : Shared} {W V : Addr → Prop} (p : StpX W μ μ' s₀ s) {h' : Heap} {t : Nat} (hk : ∀ b o, s.heap.get? b = some o → ¬ V b → h'.get? b = some o) (hV : ∀ b, V b → s₀.heap.get? b = none) : StpX W μ μ' s₀ { s with heap := h', toks := t } :=
  ⟨p.pre, fun b o h hn hw => hk b o (p.keep b o h hn hw) (fun hv => by rw [hV b hv] at h; cases h),
   fun b o h hw => by
    obtain ⟨o', h'⟩ := p.live b o h hw
    exact ⟨o', hk b o' h' fun hv => by rw [hV b hv] at h; cases h⟩, p.gens, p.os⟩

section
variable {B : Base} {cx cxc : Cx} {scope : Scope} {x : Str}

/-- a comprehension bound to a name of its own line -/
theorem set_comp (K : CompOk cx cxc scope x) {elt iter : Expr} {src' : Ex} {ifs : List Expr} {px py pos spos : Pos} {c : Ex} {y : Str} {i : Nat} (hn : cx.slot.lookup y = some i) (hsrc : SndE B cx iter src') (fld : ∀ env x, foldedSetIterable iter env x = pure x) (F : Calls → REnv → V → Store → Option (Option V × Store))
    (hT : ∀ {C : Calls} {A : Around} {cenv : Env} {ρ : REnv}, TurnOk B C A cxc cenv ρ ifs elt (F C ρ))
    (hev : ∀ {C : Calls} {ρ : REnv} {σ σ' : Store} {v : V}, ev B.T C ρ σ c = some (v, σ') → ∃ xv σ₁ Z vs σ₂, ev B.T C ρ σ src' = some (xv, σ₁) ∧ srcOf xv = some Z ∧ evLoop Z (F C ρ) Z.fuel 0 [] σ₁ = some (vs, σ₂) ∧ vs.length ≤ LIM ∧ v = .lst σ₂.length ∧ σ' = σ₂ ++ [vs])
    (hsw : ∀ env : Env, env.scope = cx.scope → swapsWith (.ListComp elt [⟨.Name x px, iter, ifs, 0⟩] scope pos) (some (.Name y py)) spos.line env = pure true) :
    SndS B cx (.Assign [.Name y py] (.ListComp elt [⟨.Name x px, iter, ifs, 0⟩] scope pos) spos) (.set i c) := fun {C A env ρ μ σ s} X {fl ρ' σ'} h {Q E} hQ => by
  simp only [ex] at h
  split at h
  · rename_i v σ₁' h0
    cases h
    obtain ⟨xv, σ₁, Z, vs, σ₂, h1, h2, h3, h4, rfl, rfl⟩ := hev h0
    clear h0
    rw [exec_Assign_Name_used _ _ _ _ (hsw _ X.F.sc)]
    refine wpAny_bind (wpAny_standAt (wpAny_bind ?_))
    show wpAny _ A (do let _ ← comprehension (.ListComp elt [⟨.Name x px, iter, ifs, 0⟩] scope pos) scope env _ (newList []) false (eval iter env) (some (assign (.Name y py) env))) _ _ s
    refine wpAny_bind (wpAny_mono (wpAny_comprehension_free (use := some (assign (.Name y py) env)) (Q := fun _ s' => Q .next s') rfl (fld _) (closureFor_ok (X.F.frees K)) K.kind K.names (hsrc X h1 fun x' s₁ μ₁ X₁ p₁ r₁ => ?_)) (fun _ s' hq => wpAny_pure (wpAny_pure hq)) fun _ _ e => e)
    refine comp_core (RR := fun acc C => compPost _ _ _ (some (assign (.Name y py) env)) _ acc C) K X₁ r₁ h2 h3 h4 (fun _ => hT) fun D Cc s' μ' a1 a2 a3 a4 a5 a6 a7 a8 a9 => ?_
    obtain ⟨X3, p3, r3⟩ := comp_end (t := s'.toks) X₁ a1 a2 a3 a4 a5 a6 a7 a8 a9 (Heap.SameBut.refl _ _)
    have nO : ¬ Own env Cc := fun ho => by
      rcases ho with e | ⟨n, hm⟩
      · obtain ⟨m, ⟨o, _, _, ho, _⟩, _⟩ := X₁.F.nsm
        rw [← e, a2] at ho; cases ho
      · obtain ⟨_, _, _, v, o, ho, _⟩ := X₁.F.cel n Cc hm
        rw [a2] at ho; cases ho
    have nμ : Cc ∉ μ' ++ [D] := fun hm => by
      rcases List.mem_append.mp hm with hm | hm
      · exact a8 hm
      · exact a3 (List.mem_singleton.mp hm).symm
    show wpAny _ A (assign (.Name y py) env (.ref D)) _ E s'
    refine wpAny_assign_Name (store_ok (s := s') X3 K.okx hn r3 fun s4 X4 p4 => ?_)
    obtain ⟨m, oC, es, ep, hoC, hdC, hrest⟩ := a4
    have hoC4 := p4.keep _ _ hoC nμ nO
    refine ⟨m, ⟨oC, es, ep, hoC4, hdC, hrest⟩, fun h' hsb => ?_⟩
    have hk : ∀ b o, s4.heap.get? b = some o → ¬ b = Cc → h'.get? b = some o := fun b o e hne => (hsb.2 b hne).trans e
    have WC : Loose B.h₀ (fun b => b = Cc) (μ' ++ [D]) s4.heap := ⟨fun b e => e ▸ X₁.S.free a2, fun b e => e ▸ nμ, fun b o e h hf => by
      subst e; rw [hoC4] at h; cases h
      rcases hf with ⟨_, xs, n, h3⟩ | ⟨_, xs, h3⟩ <;> rw [hdC] at h3 <;> cases h3⟩
    have X5 : Sit B C A cx env (ρ.set i (some (.lst σ₂.length))) (μ' ++ [D]) (σ₂ ++ [vs]) { s4 with heap := h', toks := s4.toks } := ⟨X4.S.but hk WC, X4.F.but hk WC fun b e => e ▸ nO, X4.gens, X4.R, X4.calls⟩
    have p5 : StpX (Own env) μ₁ (μ' ++ [D]) s₁ { s4 with heap := h', toks := s4.toks } := (X4.tr (p3.toX (s' := s')) p4).thenBut hk (fun b e => e ▸ a2)
    exact hQ _ _ _ X5 (X5.tr p₁.toX p5) .next
  · first | exact noSome h | cases h
theorem sndS_comp (K : CompOk cx cxc scope x) {elt iter : Expr} {src' elt' : Ex} {px py pos spos : Pos} {y : Str} {i : Nat} (hn : cx.slot.lookup y = some i) (hsrc : Snd B cx iter src') (fld : ∀ env x, foldedSetIterable iter env x = pure x) (he : Snd B cxc elt elt')
    (hsw : ∀ env : Env, env.scope = cx.scope → swapsWith (.ListComp elt [⟨.Name x px, iter, [], 0⟩] scope pos) (some (.Name y py)) spos.line env = pure true) :
    SndS B cx (.Assign [.Name y py] (.ListComp elt [⟨.Name x px, iter, [], 0⟩] scope pos) spos) (.set i (.comp src' elt')) :=
  set_comp K hn hsrc.1 fld (fun C ρ => cF B.T C ρ elt') (turn_plain he.1) ev_comp hsw
theorem sndS_compIf (K : CompOk cx cxc scope x) {elt iter c : Expr} {src' elt' c' : Ex} {px py pos spos : Pos} {y : Str} {i : Nat} (hn : cx.slot.lookup y = some i) (hsrc : Snd B cx iter src') (fld : ∀ env x, foldedSetIterable iter env x = pure x) (hc : Snd B cxc c c') (he : Snd B cxc elt elt')
    (hsw : ∀ env : Env, env.scope = cx.scope → swapsWith (.ListComp elt [⟨.Name x px, iter, [c], 0⟩] scope pos) (some (.Name y py)) spos.line env = pure true) :
    SndS B cx (.Assign [.Name y py] (.ListComp elt [⟨.Name x px, iter, [c], 0⟩] scope pos) spos) (.set i (.compIf src' c' elt')) :=
  set_comp K hn hsrc.1 fld (fun C ρ => cIf B.T C ρ c' elt') (turn_if hc.2 he.1) ev_compIf hsw
end

section
variable {B : Base} {cx : Cx}

theorem fresh_own {h₀ h : Heap} {env : Env} {ρ : REnv} {μ : List Addr} (F : FrOk h₀ cx env ρ μ h) {I : Addr} (hI : h.get? I = none) : ¬ Own env I := fun ho => by
  rcases ho with e | ⟨n, hm⟩
  · obtain ⟨m, ⟨o, _, _, ho, _⟩, _⟩ := F.nsm
    rw [← e, hI] at ho; cases ho
  · obtain ⟨_, _, _, v, o, ho, _⟩ := F.cel n I hm
    rw [hI] at ho; cases ho

inductive WhileI (B : Base) (C : Calls) (A : Around) (cx : Cx) (env : Env) (t' : Ex) (b' : Sts) (fl : Fl) (ρ' : REnv) (σ' : Store) (μ : List Addr) (s : Shared) (k : Nat) (s' : Shared) : Prop where
  | mk (ρ₁ : REnv) (μ₁ : List Addr) (σ₁ : Store) : exWhile (fun ρ σ => match ev B.T C ρ σ t' with | some (.bool x, σ') => some (x, σ') | _ => none) (fun ρ σ => exs B.T C ρ σ b') k ρ₁ σ₁ = some (fl, ρ', σ') → Sit B C A cx env ρ₁ μ₁ σ₁ s' → StpX (Own env) μ μ₁ s s' → WhileI B C A cx env t' b' fl ρ' σ' μ s k s'
theorem sndS_while {t : Expr} {t' : Ex} {b : List Stmt} {b' : Sts} (ht : Snd B cx t t') (hb : SndSs B cx b b') (p : Pos) : SndS B cx (.While t b [] p) (.while t' b') := fun {C A env ρ μ σ s} X {fl ρ' σ'} h {Q E} hQ => by
  simp only [ex] at h
  refine wpAny_While (codeAny_whileLoop (WhileI B C A cx env t' b' fl ρ' σ' μ s) ?_ TURNS ⟨ρ, μ, σ, h, X, .refl⟩)
  rintro k s' ⟨ρ₁, μ₁, σ₁, he, X', p'⟩
  cases k with
  | zero => cases he
  | succ k =>
    simp only [exWhile] at he
    split at he
    · rename_i σ₂ hc
      split at hc
      · rename_i bb σ₃ hc'
        cases hc
        refine ht.2 X' hc' fun s'' μ'' X'' p'' => ?_
        rw [if_pos rfl]
        split at he
        · rename_i ρ₂ σ₄ hb'
          refine hb X'' hb' fun f s₃ μ₃ X₃ p₃ r => ?_
          cases r
          exact ⟨k, Nat.lt_succ_self _, ρ₂, μ₃, σ₄, he, X₃, X₃.tr p' (X₃.tr p''.toX p₃)⟩
        · rename_i ρ₂ σ₄ hb'
          cases he
          refine hb X'' hb' fun f s₃ μ₃ X₃ p₃ r => ?_
          cases r
          exact hQ _ _ _ X₃ (X₃.tr p' (X₃.tr p''.toX p₃)) .next
        · rename_i v ρ₂ σ₄ hb'
          cases he
          refine hb X'' hb' fun f s₃ μ₃ X₃ p₃ r => ?_
          cases r with
          | ret r => exact hQ _ _ _ X₃ (X₃.tr p' (X₃.tr p''.toX p₃)) (.ret r)
        · first | exact noSome he | cases he
      · first | exact noSome hc | cases hc
    · rename_i σ₂ hc
      split at hc
      · rename_i bb σ₃ hc'
        cases hc
        cases he
        refine ht.2 X' hc' fun s'' μ'' X'' p'' => ?_
        rw [if_neg (by decide)]
        exact wpAny_execs_nil (hQ _ _ _ X'' (X''.tr p' p''.toX) .next)
      · first | exact noSome hc | cases hc
    · first | exact noSome he | cases he

inductive ForI (B : Base) (C : Calls) (A : Around) (cx : Cx) (env : Env) (Z : Src) (I : Addr) (i : Nat) (b' : Sts) (fl : Fl) (ρ' : REnv) (σ' : Store) (μ : List Addr) (s : Shared) (k : Nat) (s' : Shared) : Prop where
  | mk (j : Nat) (ρ₁ : REnv) (μ₂ : List Addr) (σ₂ : Store) : exLoop Z (fun v ρ σ => exs B.T C (ρ.set i (some v)) σ b') k j ρ₁ σ₂ = some (fl, ρ', σ') → IterAt B.h₀ I Z j μ₂ s'.heap → (∀ xs, Z = .fix xs → j ≤ xs.length) → Sit B C A cx env ρ₁ μ₂ σ₂ s' → StpX (Own env) μ μ₂ s s' → ForI B C A cx env Z I i b' fl ρ' σ' μ s k s'
theorem sndS_for (hok : CxOk cx) {n : Str} {i : Nat} (hn : cx.slot.lookup n = some i) {e : Expr} {e' : Ex} {b : List Stmt} {b' : Sts} (he : Snd B cx e e') (fld : ∀ env x, foldedSetIterable e env x = pure x) (hb : SndSs B cx b b') (q p : Pos) : SndS B cx (.For (.Name n q) e b [] p) (.forIn i e' b') := fun {C A env ρ μ σ s} X {fl ρ' σ'} h {Q E} hQ => by
  simp only [ex] at h
  split at h
  · rename_i xv σ₁ h1
    split at h
    · rename_i Z hz
      refine wpAny_For (he.1 X h1 fun x' s₁ μ₁ X₁ p₁ r₁ => iter_start X₁.S r₁ hz fun h₂ hk₂ hit₂ => ?_) (fld _)
      generalize hI : s₁.heap.objs.size = I at hit₂ ⊢
      have hfI : s₁.heap.get? I = none := hI ▸ free_size _
      have nO := fresh_own X₁.F hfI
      have hgI := X₁.S.free hfI
      refine codeAny_forLoop (ForI B C A cx env Z I i b' fl ρ' σ' μ₁ s₁) ?_ Z.fuel
        ⟨0, ρ, μ₁, σ₁, h, hit₂, fun _ _ => Nat.zero_le _, X₁.grown (t := s₁.toks) hk₂, (Stp.grown (t := s₁.toks) hk₂).toX⟩
      rintro k s' ⟨j, ρ₁, μ₂, σ₂, hl, hit, hjl, X', p'⟩
      obtain ⟨o, ho, hof, hol⟩ := hit.obj
      have WI : Loose B.h₀ (fun b => b = I) μ₂ s'.heap := ⟨fun b e => e ▸ hgI, fun b e => e ▸ hit.apart X'.S, fun b o' e h => by subst e; rw [ho] at h; cases h; exact hof⟩
      cases k with
      | zero => cases hl
      | succ k =>
        simp only [exLoop] at hl
        cases hget : Z.get j σ₂ with
        | none => rw [hget] at hl; cases hl
        | some r =>
          rw [hget] at hl
          refine iter_next X'.S hit hjl X.R.hd hgI hget fun h4 tk4 hk4 => ?_
          have X4 : Sit B C A cx env ρ₁ μ₂ σ₂ { s' with heap := h4, toks := tk4 } := ⟨X'.S.but hk4 WI, X'.F.but hk4 WI fun b e => e ▸ nO, X'.gens, X'.R, X'.calls⟩
          have p4 : StpX (Own env) μ₁ μ₂ s₁ { s' with heap := h4, toks := tk4 } := p'.thenBut hk4 fun b e => e ▸ hfI
          cases r with
          | none =>
            cases hl
            exact wpAny_execs_nil (hQ _ _ _ X4 (X4.tr p₁.toX p4) .next)
          | some y =>
            intro v rv hit4
            have hj1 : ∀ xs, Z = .fix xs → j + 1 ≤ xs.length := fun xs e => by
              subst e
              simp only [Src.get, Option.some.injEq] at hget
              exact (List.getElem?_eq_some_iff.mp hget).1
            refine wpAny_assign_Name (store_ok X4 hok hn rv fun s5 X5 p5 => ?_)
            have hit5 : IterAt B.h₀ I Z (j + 1) μ₂ s5.heap := IterAt.stepX (s := { s' with heap := h4, toks := tk4 }) hit4 X4.S p5 (fun b o hw h hf => X4.F.loose.firm b o hw h hf) nO
            simp only at hl
            split at hl
            · rename_i ρ₂ σ₄ hb'
              refine hb X5 hb' fun f s₃ μ₃ X₃ p₃ r => ?_
              cases r
              exact ⟨k, Nat.lt_succ_self _, j + 1, ρ₂, μ₃, σ₄, hl, hit5.stepX X5.S p₃ (fun b o hw h hf => X5.F.loose.firm b o hw h hf) nO, hj1, X₃, X₃.tr p4 (X₃.tr p5 p₃)⟩
            · rename_i ρ₂ σ₄ hb'
              cases hl
              refine hb X5 hb' fun f s₃ μ₃ X₃ p₃ r => ?_
              cases r
              exact hQ _ _ _ X₃ (X₃.tr p₁.toX (X₃.tr p4 (X₃.tr p5 p₃))) .next
            · rename_i v ρ₂ σ₄ hb'
              cases hl
              refine hb X5 hb' fun f s₃ μ₃ X₃ p₃ r => ?_
              cases r with
              | ret r => exact hQ _ _ _ X₃ (X₃.tr p₁.toX (X₃.tr p4 (X₃.tr p5 p₃))) (.ret r)
            · first | exact noSome hl | cases hl
    · first | exact noSome h | cases h
  · first | exact noSome h | cases h
end
end Mine
end

section
open PySem PySem.W PyProof.Rows PySem.Calls PySem.SeqAt
set_option Elab.async false
set_option linter.unusedVariables false
namespace Mine

section
variable {prog : Program} {w : World} {A : Around} {E : Value → Shared → Prop} {s : Shared}
theorem setItem_at {l : Addr} {items : List Value} {ep : Nat} {k : Int} {t : Tok} {v : Value} {Q : Unit → Shared → Prop} (g : s.heap.get? l = some { cls := .type "list", dict := none, data := .seq items.toArray ep, slots := #[] }) (h0 : 0 ≤ k) (hk : k.toNat < items.length) (hlen : items.length ≤ LIM)
    (hQ : Q () { s with heap := s.heap.update l (Obj.mapSeq (·.setIfInBounds k.toNat v)) }) : wpAny (model prog w) A (setItem (.ref l) (.int k t) v) Q E s := by
  have hl : s.heap.IsList l items.toArray := ⟨_, g, rfl, _, rfl⟩
  have hL : LIM = 16777216 := rfl
  have hfit : k < 2 ^ 63 := by (first | lia | omega)
  unfold setItem
  try with_reducible refine wpAny_holding ?_
  first | refine wpAny_bind (wpAny_pure ?_) | skip
  refine wpAny_bind (wpAny_sequenceKey hl.typeIs (by decide) ?_)
  refine wpAny_bind (wpAny_callSpecial?_slot (name := Str.ofString "__setitem__") hl.typeIs PySem.slot_list_setitem (wpAny_call_entry PySem.slot_list_setitem hl.typeIs PySem.entry_list_setitem ?_ (PySem.args_list_setitem _ _ _)))
  refine wpAny_bind (m := Builtin.List.listSubscript? (.int k t)) (wpAny_listSubscript_int (fitsIndex_of h0 hfit) ?_)
  obtain ⟨j, rfl⟩ := Int.eq_ofNat_of_zero_le h0
  have hj : j < items.length := hk
  have hx : items.toArray[j]? = some items[j] := by simp [hj]
  refine wpAny_bind (m := seqItemAt l j >>= fun r => pure (r.map (j, ·))) (wpAny_bind (wpAny_seqItemAt g rfl (wpAny_pure ?_)))
  rw [hx]
  refine wpAny_bind (m := setSeqItemAt l j v) (wpAny_setSeqItemAt g rfl ?_)
  first
    | exact wpAny_bind (wpAny_pure (wpAny_pure ⟨.none, rfl, wpAny_pure hQ⟩))
    | exact wpAny_pure ⟨.none, rfl, wpAny_pure hQ⟩
end

section
variable {B : Base} {cx : Cx}

theorem put_ok {C : Calls} {A : Around} {env : Env} {ρ : REnv} {μ : List Addr} {σ : Store} {s : Shared} (X : Sit B C A cx env ρ μ σ s) {n : Nat} {a : Addr} {xs : List V} {k : Int} {t : Tok} {v : Value} {x : V} (ha : μ[n]? = some a) (hx : σ[n]? = some xs) (h0 : 0 ≤ k) (hk : k.toNat < xs.length) (r : Rep B.h₀ μ s.heap v x) {Q : Unit → Shared → Prop} {E : Value → Shared → Prop}
    (hQ : ∀ s', Sit B C A cx env ρ μ (σ.set n (xs.set k.toNat x)) s' → Stp μ μ s s' → Q () s') : wpAny (model B.prog B.w) A (setItem (.ref a) (.int k t) v) Q E s := by
  obtain ⟨a', its, ep, e1, g1, l1, r1⟩ := X.S.cell hx
  rw [ha] at e1; cases e1
  refine setItem_at g1 h0 (by rw [r1.length]; exact hk) l1 ?_
  obtain ⟨S', q⟩ := SOk.put (t := s.toks) (items' := its.set k.toNat v) (f := (·.setIfInBounds k.toNat v)) X.S ha g1 (by simp) (r1.set _ r) (by rw [List.length_set]; exact l1)
  exact hQ _ (X.go S' q) q

theorem sndS_setItem {n : Str} {i : Nat} (hn : cx.slot.lookup n = some i) (hd : (n == ("__debug__" : Str)) = false) {k e : Expr} {k' e' : Ex} (hk : Snd B cx k k') (he : Snd B cx e e') (q q2 p : Pos)
    (hs : ∀ env : Env, env.scope = cx.scope → swapsWith e (some (.Subscript (.Name n q) k q2)) p.line env = pure false) : SndS B cx (.Assign [.Subscript (.Name n q) k q2] e p) (.setItem i k' e') := fun X => fun h => fun hQ => by
  simp only [ex] at h
  split at h
  · rename_i v σ₁ h1
    split at h
    · rename_i m hm
      split at h
      · rename_i j σ₂ h2
        split at h
        · rename_i xs hx
          split at h
          · rename_i hj
            cases h
            refine wpAny_Assign_Subscript (he.1 X h1 fun v' s₁ μ₁ X₁ p₁ r₁ => (snd_var hn hd q).1 X₁ (v := .lst m) (σ' := σ₁) (by simp only [ev, hm]) fun o s₂ μ₂ X₂ p₂ r₂ => hk.1 X₂ h2 fun kv s₃ μ₃ X₃ p₃ r₃ => ?_) (hs _ X.F.sc)
            obtain ⟨a, rfl, ha⟩ := r₂.inv_lst
            obtain ⟨u, rfl⟩ := r₃.inv_int
            exact put_ok X₃ (p₃.at ha) hx hj.1 hj.2 ((r₁.step X₁.S p₂).step X₂.S p₃) fun s₄ X₄ p₄ => hQ _ _ _ X₄ (p₁.trans (p₂.trans (p₃.trans p₄))).toX .next
          · first | exact noSome h | cases h
        · first | exact noSome h | cases h
      · first | exact noSome h | cases h
    · first | exact noSome h | cases h
  · first | exact noSome h | cases h
theorem sndS_augItem {n : Str} {i : Nat} (hn : cx.slot.lookup n = some i) (hd : (n == ("__debug__" : Str)) = false) {k e : Expr} {k' e' : Ex} (hk : Snd B cx k k') (he : Snd B cx e e') (q q2 p : Pos) (hi : ∀ ov iv new, augStore k ov iv new = (do holding [new, ov, iv] (setItem ov iv new); release [new, ov, iv] []; pure .next)) : SndS B cx (.AugAssign (.Subscript (.Name n q) k q2) .Add e p) (.augItem i k' .add e') := fun X => fun h => fun hQ => by
  simp only [ex] at h
  split at h
  · rename_i m hm
    split at h
    · rename_i j σ₁ h1
      split at h
      · rename_i xs hx
        split at h
        · rename_i old hold
          split at h
          · rename_i v σ₂ h2
            split at h
            · rename_i r σ₃ h3
              split at h
              · rename_i ys hy
                split at h
                · rename_i hj
                  cases h
                  obtain ⟨j0, j1, j2⟩ := hj
                  refine wpAny_AugAssign_SubscriptAny ((snd_var hn hd q).1 X (v := .lst m) (by simp only [ev, hm]) fun o s₁ μ₁ X₁ p₁ r₁ => hk.1 X₁ h1 fun kv s₂ μ₂ X₂ p₂ r₂ => ?_) hi
                  obtain ⟨a, rfl, ha⟩ := r₁.inv_lst
                  obtain ⟨u, rfl⟩ := r₂.inv_int
                  have ha2 := p₂.at ha
                  obtain ⟨a', its, ep, e1, g1, l1, rr⟩ := X₂.S.cell hx
                  rw [ha2] at e1; cases e1
                  obtain ⟨oldv, ho, ro⟩ := rr.get hold
                  have hL : LIM = 16777216 := rfl
                  have hlen := rr.length
                  refine wpAny_getItem_list ⟨_, g1, rfl, _, rfl⟩ j0 (by (first | lia | omega)) (x := oldv) (by simpa using ho) ?_
                  refine he.1 X₂ h2 fun v' s₃ μ₃ X₃ p₃ r₃ => aug_add X₃.R X₃.S (ro.step X₂.S p₃) r₃ h3 fun w' s₄ μ₄ S₄ p₄ r₄ => ?_
                  exact put_ok (X₃.go S₄ p₄) (p₄.at (p₃.at ha2)) hy j0 j2 r₄ fun s₅ X₅ p₅ => hQ _ _ _ X₅ (p₁.trans (p₂.trans (p₃.trans (p₄.trans p₅)))).toX .next
                · first | exact noSome h | cases h
              · first | exact noSome h | cases h
            · first | exact noSome h | cases h
          · first | exact noSome h | cases h
        · first | exact noSome h | cases h
      · first | exact noSome h | cases h
    · first | exact noSome h | cases h
  · first | exact noSome h | cases h

end
end Mine
end

section
open PySem PySem.W PyProof.Rows PySem.Calls PySem.SeqAt
set_option Elab.async false
set_option linter.unusedVariables false
namespace Mine

structure FnOk (B : Base) (fd : FuncData) (a : Addr) (cx : Cx) (ps : List Str) (fn : Fn) (body : List Stmt) : Prop where
  obj : ∃ o, B.h₀.get? a = some o ∧ o.data = .func fd
  code : B.h₀.CodeRec fd.code fd.qualname
  hbody : fd.body = .stmts body
  clo : fd.closure = []
  gl : fd.globals = mainGlobals
  bi : fd.builtins = builtinsNs
  co : fd.scope.isCoroutine = false
  gen : fd.scope.isGenerator = false
  kind : fd.scope.kind = .function
  scope : fd.scope = cx.scope
  np : ps.length = fn.np
  bind : ∀ vals : List Value, vals.length = ps.length → bindArgs fd ⟨vals, []⟩ = pure (ps.zip vals)
  nd : ps.Nodup
  slot : ∀ (i : Nat) (h : i < ps.length), cx.slot.lookup ps[i] = some i
  n : cx.n = fn.nl
  le : fn.np ≤ fn.nl
  ok : CxOk cx
  names : (cx.scope.names.map (·.1)).Nodup
  snd : SndSs B cx body fn.body

theorem cellsFrom_mem : ∀ {names : List (Str × NameKind)} {k : Nat} {acc : List (Str × Addr)} {n : Str}, ((n, .cell) ∈ names ∨ ∃ c, (n, c) ∈ acc) → ∃ c, (n, c) ∈ cellsFrom k names acc
  | [], _, _, _, h => by
    rcases h with h | h
    · first | exact noSome h | cases h
    · exact h
  | (m, kd) :: r, k, acc, n, h => by
    unfold cellsFrom
    split
    · refine cellsFrom_mem ?_
      rcases h with h | ⟨c, h⟩
      · rcases List.mem_cons.mp h with e | h
        · cases e; exact .inr ⟨_, List.mem_cons_self⟩
        · exact .inl h
      · exact .inr ⟨c, List.mem_cons_of_mem _ h⟩
    · rename_i hk
      refine cellsFrom_mem ?_
      rcases h with h | h
      · rcases List.mem_cons.mp h with e | h
        · cases e; exact absurd rfl hk
        · exact .inl h
      · exact .inr h
theorem cellsFrom_names : ∀ {names : List (Str × NameKind)} {k : Nat} {acc : List (Str × Addr)}, (names.map (·.1)).Nodup → (acc.map (·.1)).Nodup → (∀ x ∈ acc, x.1 ∉ names.map (·.1)) → ((cellsFrom k names acc).map (·.1)).Nodup
  | [], _, _, _, h, _ => h
  | (m, kd) :: r, k, acc, h1, h2, h3 => by
    rw [List.map_cons, List.nodup_cons] at h1
    unfold cellsFrom
    split
    · refine cellsFrom_names h1.2 ?_ fun x hx => ?_
      · rw [List.map_cons, List.nodup_cons]
        refine ⟨fun hm => ?_, h2⟩
        obtain ⟨y, hy, e⟩ := List.mem_map.mp hm
        exact h3 y hy (by rw [List.map_cons]; exact e ▸ List.mem_cons_self)
      · rcases List.mem_cons.mp hx with e | hx
        · subst e; exact h1.1
        · exact fun hm => h3 x hx (by rw [List.map_cons]; exact List.mem_cons_of_mem _ hm)
    · exact cellsFrom_names h1.2 h2 fun x hx hm => h3 x hx (by rw [List.map_cons]; exact List.mem_cons_of_mem _ hm)
theorem lookup_nodup {α : Type} : ∀ {l : List (Str × α)} {n : Str} {c : α}, (l.map (·.1)).Nodup → (n, c) ∈ l → l.lookup n = some c
  | [], _, _, _, h => by cases h
  | (k, v) :: r, n, c, hn, h => by
    rw [List.map_cons, List.nodup_cons] at hn
    rw [List.lookup_cons]
    rcases List.mem_cons.mp h with e | h'
    · cases e; simp
    · have hne : (n == k) = false := by
        rw [beq_eq_false_iff_ne]
        intro e; subst e
        exact hn.1 (List.mem_map.mpr ⟨_, h', rfl⟩)
      rw [hne]
      exact lookup_nodup hn.2 h'

theorem bind_get (ko : Str → Option NameKind) : ∀ {ps : List Str} {vals : List Value} {m cm : Str → Option Value}, ps.Nodup → ∀ {i : Nat} {v : Value} (h : i < ps.length), vals[i]? = some v →
    (ko ps[i] = some .local → bindL ko (ps.zip vals) m ps[i] = some v) ∧ (ko ps[i] ≠ some .local → bindC ko (ps.zip vals) cm ps[i] = some v) := by
  have stay : ∀ {ps : List Str} {vals : List Value} {m cm : Str → Option Value} {n : Str}, n ∉ ps → bindL ko (ps.zip vals) m n = m n ∧ bindC ko (ps.zip vals) cm n = cm n := by
    intro ps
    induction ps with
    | nil => intro vals m cm n _; exact ⟨rfl, rfl⟩
    | cons p ps ih =>
      intro vals m cm n hn
      cases vals with
      | nil => exact ⟨rfl, rfl⟩
      | cons v vals =>
        have hne : ¬ n = p := fun e => hn (e ▸ List.mem_cons_self)
        have hn' : n ∉ ps := fun h => hn (List.mem_cons_of_mem _ h)
        rw [List.zip_cons_cons]
        unfold bindL bindC
        rw [(ih (cm := cm) hn').1, (ih (m := m) hn').2]
        constructor
        · split
          · exact if_neg hne
          · rfl
        · split
          · rfl
          · exact if_neg hne
  intro ps
  induction ps with
  | nil => intro vals m cm _ i v h; exact absurd h (Nat.not_lt_zero _)
  | cons p ps ih =>
    intro vals m cm hnd i v h hv
    rw [List.nodup_cons] at hnd
    cases vals with
    | nil => simp at hv
    | cons w vals =>
      rw [List.zip_cons_cons]
      unfold bindL bindC
      cases i with
      | zero =>
        simp only [List.getElem?_cons_zero, Option.some.injEq] at hv
        subst hv
        simp only [List.getElem_cons_zero]
        refine ⟨fun hk => ?_, fun hk => ?_⟩
        · rw [if_pos hk, (stay (cm := cm) hnd.1).1]; exact if_pos rfl
        · rw [if_neg hk, (stay (m := m) hnd.1).2]; exact if_pos rfl
      | succ i =>
        simp only [List.getElem_cons_succ]
        exact ih hnd.2 (Nat.lt_of_succ_lt_succ h) (by simpa using hv)

section
variable {B : Base}

theorem call_ok (hB : BOk B) {fd : FuncData} {a : Addr} {cx : Cx} {ps : List Str} {fn : Fn} {body : List Stmt} (K : FnOk B fd a cx ps fn body) {C : Calls} {d : Nat} (hC : CallsOk B C d) {A : Around} (R : Rm A (d + 1)) {μ : List Addr} {σ σ' : Store} {s : Shared} {vs : List V} {vs' : List Value} {fl : Fl} {ρ' : REnv}
    (S : SOk B.h₀ μ σ s.heap) (hg : s.gens = #[]) (r : Reps B.h₀ μ s.heap vs' vs) (hl : vs.length = fn.np) (he : exs B.T C (vs.map some ++ List.replicate (fn.nl - fn.np) none) σ fn.body = some (fl, ρ', σ')) {Q : Value → Shared → Prop} {E : Value → Shared → Prop}
    (hQ : ∀ v' s' μ', SOk B.h₀ μ' σ' s'.heap → Stp μ μ' s s' → (match fl with | .ret v => Rep B.h₀ μ' s'.heap v' v | _ => v' = .none) → Q v' s') : wpAny (model B.prog B.w) A (call (.ref a) vs') Q E s := by
  obtain ⟨o, ho, hd⟩ := K.obj
  have hlen : vs'.length = ps.length := by rw [r.length, hl, K.np]
  have hkof : ∀ n, (callEnvC fd s.heap.objs.size a).kindOf n = cx.scope.names.lookup n := fun n => by
    show fd.scope.names.lookup n = _
    rw [K.scope]
  have pk : ∀ p ∈ ps, cx.scope.names.lookup p = some .local ∨ cx.scope.names.lookup p = some .cell := fun p hp => by
    obtain ⟨i, hi, e⟩ := List.getElem_of_mem hp
    exact K.ok.kind (p, i) (mem_of_lookup (e ▸ K.slot i hi))
  have cHas : ∀ n, cx.scope.names.lookup n = some .cell → ∃ c, (cellsFrom (s.heap.objs.size + 1) fd.scope.names []).lookup n = some c := fun n hn => by
    rw [K.scope]
    obtain ⟨c, hc⟩ := cellsFrom_mem (k := s.heap.objs.size + 1) (acc := []) (.inl (mem_of_lookup hn))
    exact lookup_of_mem hc
  refine wpAny_call (codeAny_call_cells (binds := ps.zip vs') (by have := R.dep; (first | lia | omega)) (S.base _ _ ho) hd (hB.nolimit.keeps S.base) (K.code.keeps S.base) K.hbody (K.bind vs' hlen) K.clo (fun x hx => ?_) (fun s₁ x => ?_) K.co K.gen K.kind)
  · rw [K.scope]
    have hp : x.1 ∈ ps := (List.of_mem_zip (show (x.1, x.2) ∈ ps.zip vs' from hx)).1
    rcases pk _ hp with h | h
    · exact .inl h
    · refine .inr ⟨h, ?_⟩
      obtain ⟨c, hc⟩ := cHas _ h
      rw [K.scope] at hc
      rw [hc]; rfl
  · generalize hen : callEnvC fd s.heap.objs.size a = env at x hkof ⊢
    have eloc : env.locals = s.heap.objs.size := by rw [← hen]; rfl
    have ecel : env.cells = cellsFrom (s.heap.objs.size + 1) fd.scope.names [] := by rw [← hen]; rfl
    have hfL : s.heap.get? env.locals = none := eloc ▸ free_size _
    have hfC : ∀ n c, (n, c) ∈ env.cells → s.heap.get? c = none := fun n c hm => by
      cases e : s.heap.get? c with
      | none => rfl
      | some o' =>
        have h1 := Heap.lt_size e
        have h2 := x.above n c hm
        rw [eloc] at h2
        exact absurd (Nat.lt_trans h2 h1) (Nat.lt_irrefl _)
    have notμ : ∀ {b}, s.heap.get? b = none → b ∉ μ := fun {b} e hm => by
      obtain ⟨o, h, _⟩ := S.isList hm
      rw [e] at h; cases h
    have hk := x.toInCall.keep
    have S1 : SOk B.h₀ μ σ s₁.heap := S.grown hk
    have cnd : (env.cells.map (·.1)).Nodup := by
      rw [ecel, K.scope]
      exact cellsFrom_names K.names List.nodup_nil fun x hx => by cases hx
    obtain ⟨h₁, tk₁, es⟩ := x.toInCall.same
    have F1 : FrOk B.h₀ cx env (vs.map some ++ List.replicate (fn.nl - fn.np) none) μ s₁.heap := by
      refine ⟨by rw [← hen]; exact K.scope, K.scope ▸ K.kind, by rw [← hen]; exact K.gl, by rw [← hen]; exact K.bi, ?_, ⟨_, x.toInCall.ns, fun n i v hs hr => ?_⟩, ⟨notμ hfL, S.free hfL⟩, fun n c hm => ⟨notμ (hfC n c hm), S.free (hfC n c hm), ?_, _, x.cell n c (lookup_nodup cnd hm)⟩, fun n n' c h1 h2 => name_of_addr x.apart h1 h2, fun n hn => by rw [ecel]; exact cHas n hn⟩
      · rw [List.length_append, List.length_map, List.length_replicate, hl, K.n]; have := K.le; (first | lia | omega)
      · have hi : i < vs.length := by
          rcases Nat.lt_or_ge i vs.length with h | h
          · exact h
          · rw [List.getElem?_append_right (by rw [List.length_map]; exact h), List.getElem?_replicate] at hr
            split at hr <;> cases hr
        rw [List.getElem?_append_left (by rw [List.length_map]; exact hi), List.getElem?_map, List.getElem?_eq_getElem hi] at hr
        simp only [Option.map_some, Option.some.injEq] at hr
        have hip : i < ps.length := by rw [K.np, ← hl]; exact hi
        have en : n = ps[i] := (K.ok.inj _ (mem_of_lookup hs) _ (mem_of_lookup (K.slot i hip)) rfl)
        obtain ⟨v', hv', rv⟩ := (r.grown hk).get (List.getElem?_eq_getElem hi)
        rw [hr] at rv
        obtain ⟨b1, b2⟩ := bind_get env.kindOf (m := fun _ => none) (cm := fun _ => none) K.nd hip hv'
        rcases K.ok.kind _ (mem_of_lookup hs) with hkd | hkd
        · refine .loc hkd ?_ rv
          rw [en] at hkd ⊢
          exact b1 ((hkof _).trans hkd)
        · obtain ⟨c, hc⟩ := cHas n hkd
          rw [← ecel] at hc
          refine .cel hkd hc ?_ rv
          have := x.cell n c hc
          rw [en] at this hkd
          rw [b2 (by rw [hkof, hkd]; decide)] at this
          exact this
      · have h2 := x.above n c hm
        exact fun e => Nat.lt_irrefl _ (e ▸ h2)
    have X1 : Sit B C (A.deeper env) cx env (vs.map some ++ List.replicate (fn.nl - fn.np) none) μ σ s₁ := by
      have R' : Rm (A.deeper env) d := ⟨R.hd, by have := R.dep; show A.depth + 1 + d < _; (first | lia | omega), by have := R.un; rw [Around.deeper_units]; (first | lia | omega)⟩
      refine ⟨S1, F1, by rw [es]; exact hg, ⟨R'.hd, by have := R'.dep; (first | lia | omega), by have := R'.un; (first | lia | omega)⟩, fun f a vs σ v σ' hat hev μ s vs' hS hg hr Q E hq => hC f a vs σ v σ' hat hev _ μ s vs' R' hS hg hr Q E hq⟩
    refine K.snd X1 he fun f s' μ' X' p' rf => ?_
    have p0 : Stp μ μ s s₁ := by rw [es]; exact Stp.grown (by rw [es] at hk; exact hk)
    have p : Stp μ μ' s s' := (X'.tr p0.toX p').toStp fun b hb => by
      rcases hb with e | ⟨n, hm⟩
      · rw [e]; exact hfL
      · exact hfC n b hm
    cases rf with
    | next => exact hQ _ _ _ X'.S p rfl
    | brk => exact hQ _ _ _ X'.S p rfl
    | ret rr => exact hQ _ _ _ X'.S p rr

end

theorem SOk.nil {h₀ h : Heap} (hb : ∀ b o, h₀.get? b = some o → h.get? b = some o) : SOk h₀ [] [] h :=
  ⟨rfl, List.nodup_nil, fun a ha => (by cases ha), fun e => (by simp at e), hb⟩
theorem Stp.all {μ' : List Addr} {s s' : Shared} (p : Stp [] μ' s s') : ∀ b o, s.heap.get? b = some o → s'.heap.get? b = some o := fun b o h => p.keep b o h (by simp)

section
variable {B : Base}
theorem giveBack_ok {μ μ₁ : List Addr} {σ σ₁ σ' : Store} {s s' : Shared} {v v₁ : V} {v' : Value} (S : SOk B.h₀ μ σ s.heap) (p : Stp [] μ₁ s s') (S₁ : SOk B.h₀ μ₁ σ₁ s'.heap) (r : Rep B.h₀ μ₁ s'.heap v' v₁) (h : giveBack v₁ σ₁ σ = some (v, σ')) :
    ∃ μ', SOk B.h₀ μ' σ' s'.heap ∧ Stp μ μ' s s' ∧ Rep B.h₀ μ' s'.heap v' v := by
  have S2 : SOk B.h₀ μ σ s'.heap := S.grown p.all
  have p2 : Stp μ μ s s' := ⟨⟨[], by simp, by simp⟩, fun b o h _ => p.all b o h, fun b o h => ⟨o, p.all b o h⟩, p.gens, p.os⟩
  unfold giveBack at h
  split at h
  · rename_i n
    split at h
    · rename_i xs hx
      split at h
      · rename_i hn
        cases h
        obtain ⟨a, its, ep, rfl, ha, g1, l1, r1⟩ := r.at_list S₁ hx
        have hf : s.heap.get? a = none := by
          obtain ⟨ν, hν, hfr⟩ := p.pre
          exact hfr a (by rw [List.nil_append] at hν; rw [← hν]; exact List.mem_of_getElem? ha)
        have hna : a ∉ μ := fun hm => by
          obtain ⟨o, h, _⟩ := S.isList hm
          rw [hf] at h; cases h
        obtain ⟨S3, r3⟩ := S2.adopt hna (S.free hf) g1 (r1.noLst' hn) l1
        exact ⟨_, S3, p2.adopt hf, r3⟩
      · first | exact noSome h | cases h
    · first | exact noSome h | cases h
  · split at h
    · rename_i hn
      cases h
      exact ⟨μ, S2, p2, r.noLst' hn⟩
    · first | exact noSome h | cases h
end

section
variable {B : Base}
/-- all the functions -/
theorem calls_ok (hB : BOk B) {fns : List Fn} (h : ∀ (f : Nat) (fn : Fn) (a : Addr), fns[f]? = some fn → B.at' f = some a → ∃ fd cx ps body, FnOk B fd a cx ps fn body) : ∀ d, CallsOk B (callD B.T fns d) d
  | 0 => fun f a vs σ v σ' _ he => by cases he
  | d + 1 => fun f a vs σ v σ' hat he A μ s vs' R S hg r Q E hQ => by
    simp only [callD] at he
    split at he
    · rename_i fn hf
      obtain ⟨fd, cx, ps, body, K⟩ := h f fn a hf hat
      split at he
      · rename_i hl
        split at he
        · rename_i hn
          split at he
          · rename_i v₁ ρ₁ σ₁ hx
            refine call_ok hB K (calls_ok hB h d) R (SOk.nil S.base) hg (r.noLst' hn) hl hx fun v' s' μ' S' p r' => ?_
            obtain ⟨μ2, S2, p2, r2⟩ := giveBack_ok S p S' r' he
            exact hQ _ _ _ S2 p2 r2
          · rename_i ρ₁ σ₁ hx
            cases he
            refine call_ok hB K (calls_ok hB h d) R (SOk.nil S.base) hg (r.noLst' hn) hl hx fun v' s' μ' S' p r' => ?_
            exact hQ _ _ _ (S.grown p.all) ⟨⟨[], by simp, by simp⟩, fun b o h _ => p.all b o h, fun b o h => ⟨o, p.all b o h⟩, p.gens, p.os⟩ (r' ▸ .none)
          · first | exact noSome he | cases he
        · split at he
          · rename_i v₁ ρ₁ σ₁ hx
            cases he
            exact call_ok hB K (calls_ok hB h d) R S hg r hl hx fun v' s' μ' S' p r' => hQ _ _ _ S' p r'
          · rename_i ρ₁ σ₁ hx
            cases he
            exact call_ok hB K (calls_ok hB h d) R S hg r hl hx fun v' s' μ' S' p r' => hQ _ _ _ S' p (r' ▸ .none)
          · first | exact noSome he | cases he
      · first | exact noSome he | cases he
    · first | exact noSome he | cases he
end
end Mine
end

section
open PySem PySem.W PyProof.Rows PySem.Calls PySem.SeqAt
set_option Elab.async false
set_option linter.unusedVariables false
namespace Mine

theorem intsAre_of {h₀ : Heap} {μ : List Addr} {h : Heap} {m : Int} : ∀ {its : List Value} {xs : List V}, Reps h₀ μ h its xs → xs.all (isIntB m) = true → IntsAre its (xs.map intOf)
  | its, [], r, _ => by
    obtain rfl := r.inv_nil
    exact .nil
  | its, x :: xs, r, hall => by
    obtain ⟨v, vs, rfl, rv, rr⟩ := r.inv_cons
    obtain ⟨hx, hall2⟩ := all_cons hall
    obtain ⟨a, rfl⟩ := isIntB_inv hx
    obtain ⟨t, rfl⟩ := rv.inv_int
    exact .cons _ _ (intsAre_of rr hall2)

section
variable {B : Base}
theorem opU_sum : OpU B .sum (fun v => call (.builtin "sum") [v]) := by
  intro A μ σ s x' x v σ' R S rx h Q E hQ
  obtain ⟨n, xs, rfl, e1, h2⟩ := uLst_inv h
  obtain ⟨hc, rfl, rfl⟩ := if_some h2
  obtain ⟨a, its, ep, rfl, ha, g1, l1, r1⟩ := rx.at_list S e1
  have hi := intsAre_of r1 hc.1
  obtain ⟨ys, hx⟩ := hi.allInts.items
  refine sum_intListG R.hd (hx ▸ (⟨_, g1, rfl, _, rfl⟩ : s.heap.IsList a its.toArray)) fun h' tk t' hk => ?_
  have e1 : xs.map intOf = ys.toList.map (·.1) := by
    rw [← nums_intItems, ← hx]
    exact (show numsOf its.toArray.toList = xs.map intOf from hi.numsOf).symm
  have e2 : preSum (numAt ys) ys.size = (xs.map intOf).sum := by
    rw [preSum_eq, List.take_of_length_le (by simp), e1]
  rw [e2]
  exact hQ _ _ _ (S.grown hk) (Stp.grown hk) (.int _ _)

/-! the sorted texts -/
theorem lt_of_ltCps : ∀ a b : List Nat, Spec.ltCps a b = lexLt a b
  | [], [] => rfl
  | [], _ :: _ => rfl
  | _ :: _, [] => rfl
  | a :: x, b :: y => by
    simp only [Spec.ltCps, lexLt, lt_of_ltCps x y]
    by_cases h : a < b
    · simp [h]
    · by_cases e : a = b
      · simp [e]
      · simp [h, e]
theorem lexLt_asymm : ∀ a b : List Nat, lexLt a b = true → lexLt b a = false
  | [], [], h => by cases h
  | [], _ :: _, _ => rfl
  | _ :: _, [], h => by cases h
  | a :: x, b :: y, h => by
    simp only [lexLt] at h ⊢
    split at h
    · rename_i h1
      rw [if_neg (by (first | lia | omega)), if_neg (by (first | lia | omega))]
    · split at h
      · rename_i h1 h2
        subst h2
        rw [if_neg h1, if_pos rfl]
        exact lexLt_asymm x y h
      · first | exact noSome h | cases h
theorem lexLt_total : ∀ a b : List Nat, lexLt a b = false → lexLt b a = false → a = b
  | [], [], _, _ => rfl
  | [], _ :: _, h, _ => by cases h
  | _ :: _, [], _, h => by cases h
  | a :: x, b :: y, h, h' => by
    simp only [lexLt] at h h'
    by_cases h1 : a < b
    · rw [if_pos h1] at h; cases h
    · by_cases h2 : b < a
      · rw [if_pos h2] at h'; cases h'
      · have e : a = b := by (first | lia | omega)
        subst e
        rw [if_neg h1, if_pos rfl] at h
        rw [if_neg h1, if_pos rfl] at h'
        rw [lexLt_total x y h h']
theorem lexLe_trans : ∀ a b c : List Nat, lexLt b a = false → lexLt c b = false → lexLt c a = false
  | [], _, [], _, _ => rfl
  | [], [], _ :: _, _, h => by simp [lexLt] at h ⊢
  | [], _ :: _, _ :: _, _, _ => rfl
  | _ :: _, [], _, h, _ => by simp [lexLt] at h
  | _ :: _, _ :: _, [], _, h => by simp [lexLt] at h
  | a :: x, b :: y, c :: z, h, h' => by
    simp only [lexLt] at h h' ⊢
    by_cases h1 : b < a
    · rw [if_pos h1] at h; cases h
    rw [if_neg h1] at h
    by_cases h2 : c < b
    · rw [if_pos h2] at h'; cases h'
    rw [if_neg h2] at h'
    rw [if_neg (by (first | lia | omega))]
    split
    · rename_i e
      have e1 : b = a := by (first | lia | omega)
      have e2 : c = b := by (first | lia | omega)
      rw [if_pos e1] at h
      rw [if_pos e2] at h'
      exact lexLe_trans x y z h h'
    · rfl
theorem insLex_perm (x : List Nat) : ∀ l, (insLex x l).Perm (x :: l)
  | [] => .refl _
  | y :: ys => by
    unfold insLex
    split
    · exact .refl _
    · exact ((insLex_perm x ys).cons y).trans (List.Perm.swap x y ys)
theorem sortLex_perm : ∀ l, (sortLex l).Perm l
  | [] => .refl _
  | x :: xs => (insLex_perm x (sortLex xs)).trans ((sortLex_perm xs).cons x)
noncomputable abbrev LexLe (a b : List Nat) : Prop := lexLt b a = false
theorem insLex_pw (x : List Nat) : ∀ l : List (List Nat), l.Pairwise LexLe → (insLex x l).Pairwise LexLe
  | [], _ => by simp [insLex]
  | y :: ys, h => by
    rw [List.pairwise_cons] at h
    unfold insLex
    split
    · rename_i hx
      have hxy : LexLe x y := lexLt_asymm _ _ hx
      rw [List.pairwise_cons, List.pairwise_cons]
      refine ⟨fun z hz => ?_, h⟩
      rcases List.mem_cons.mp hz with rfl | hz
      · exact hxy
      · exact lexLe_trans _ _ _ hxy (h.1 z hz)
    · rename_i hx
      have hyx : LexLe y x := by simpa using hx
      rw [List.pairwise_cons]
      refine ⟨fun z hz => ?_, insLex_pw x ys h.2⟩
      rcases List.mem_cons.mp ((insLex_perm x ys).mem_iff.mp hz) with rfl | hz
      · exact hyx
      · exact h.1 z hz
theorem sortLex_pw : ∀ l : List (List Nat), (sortLex l).Pairwise LexLe
  | [] => by simp [sortLex]
  | x :: xs => insLex_pw x _ (sortLex_pw xs)
theorem risingS_pw : ∀ (p : Str) (l : List Str), risingS p l = true → (p :: l).Pairwise fun a b => LexLe a.cps.toList b.cps.toList
  | p, [], _ => by simp
  | p, x :: r, h => by
    simp only [risingS, Bool.and_eq_true, Bool.not_eq_true'] at h
    have ih := risingS_pw x r h.2
    rw [List.pairwise_cons]
    have hpx : LexLe p.cps.toList x.cps.toList := by show lexLt _ _ = false; rw [← lt_of_ltCps]; exact h.1
    refine ⟨fun z hz => ?_, ih⟩
    rcases List.mem_cons.mp hz with rfl | hz
    · exact hpx
    · exact lexLe_trans _ _ _ hpx ((List.pairwise_cons.mp ih).1 z hz)
theorem perm_pw_eq : ∀ {l l' : List (List Nat)}, l.Perm l' → l.Pairwise LexLe → l'.Pairwise LexLe → l = l'
  | [], l', hp, _, _ => (List.nil_perm.mp hp).symm
  | a :: l, [], hp, _, _ => by have := hp.length_eq; simp at this
  | a :: l, b :: l', hp, h1, h2 => by
    rw [List.pairwise_cons] at h1 h2
    have e : a = b := by
      have ha : a ∈ b :: l' := hp.mem_iff.mp List.mem_cons_self
      have hb : b ∈ a :: l := hp.mem_iff.mpr List.mem_cons_self
      rcases List.mem_cons.mp ha with e | ha
      · exact e
      · rcases List.mem_cons.mp hb with e | hb
        · exact e.symm
        · exact lexLt_total _ _ (h2.1 a ha) (h1.1 b hb)
    subst e
    rw [perm_pw_eq (List.Perm.cons_inv hp) h1.2 h2.2]
theorem reps_strs {h₀ : Heap} {μ : List Addr} {h : Heap} : ∀ {vs : List Value} {ss : List Str}, StrsAre vs ss → (∀ x ∈ ss, x.cps.toList.length ≤ LIM) → Reps h₀ μ h vs (ss.map fun x => .str x.cps.toList) := by
  intro vs ss hs
  induction hs with
  | nil => intro _; exact .nil
  | @cons y t vs ys _ ih =>
    intro hl
    obtain ⟨⟨l⟩⟩ := y
    exact .cons (.str l t (hl _ List.mem_cons_self)) (ih fun x hx => hl x (List.mem_cons_of_mem _ hx))
theorem strs_len {h₀ : Heap} {μ : List Addr} {h : Heap} : ∀ {its : List Value} {xs : List V}, Reps h₀ μ h its xs → xs.all isStr = true → ∀ l ∈ xs.map strOf, l.length ≤ LIM
  | its, [], r, _ => fun l hl => (nomatch hl)
  | its, x :: xs, r, hall => by
    obtain ⟨v, vs, rfl, rv, rr⟩ := r.inv_cons
    obtain ⟨hx, hall2⟩ := all_cons hall
    obtain ⟨a, rfl⟩ := isStr_inv hx
    obtain ⟨t, rfl, hl⟩ := rv.inv_str
    intro l hl'
    rw [List.map_cons] at hl'
    rcases List.mem_cons.mp hl' with e | hl'
    · rw [e]; exact hl
    · exact strs_len rr hall2 l hl'
theorem strsAre_len : ∀ {vs : List Value} {ss : List Str}, StrsAre vs ss → vs.length = ss.length
  | _, _, .nil => rfl
  | _, _, .cons _ _ h => by rw [List.length_cons, List.length_cons, strsAre_len h]

theorem opU_sorted : OpU B .sorted (fun v => call (.builtin "sorted") [v]) := by
  intro A μ σ s x' x v σ' R S rx h Q E hQ
  obtain ⟨n, xs, rfl, e1, h2⟩ := uLst_inv h
  obtain ⟨hc, rfl, rfl⟩ := if_some h2
  obtain ⟨a, its, ep, rfl, ha, g1, l1, r1⟩ := rx.at_list S e1
  have hS := strsAre_of r1 hc.1
  refine sorted_strs ⟨_, g1, rfl, _, rfl⟩ hS (by rw [r1.length]; exact Nat.lt_of_le_of_lt hc.2 (by decide)) fun out ss' k1 k2 k3 => ?_
  obtain ⟨e, he⟩ := sortedAll_at s.heap its out
  have hperm : (ss'.map fun x => x.cps.toList).Perm (xs.map strOf) := by
    have := k2.map fun x : Str => x.cps.toList
    rw [List.map_map] at this
    have e : ((fun x : Str => x.cps.toList) ∘ fun l : List Nat => (⟨l.toArray⟩ : Str)) = id := by funext l; rfl
    rw [e, List.map_id] at this
    exact this
  have hpw : (ss'.map fun x => x.cps.toList).Pairwise LexLe := by
    rw [List.pairwise_map]
    cases ss' with
    | nil => exact List.Pairwise.nil
    | cons p l => exact risingS_pw p l k3
  have hss : (ss'.map fun x => x.cps.toList) = sortLex (xs.map strOf) := perm_pw_eq (hperm.trans (sortLex_perm _).symm) hpw (sortLex_pw _)
  have hlen := strs_len r1 hc.1
  have hout : out.toList.length ≤ LIM := by
    rw [strsAre_len k1, ← List.length_map (f := fun x : Str => x.cps.toList), hperm.length_eq, List.length_map]
    exact Nat.le_trans hc.2 (by decide)
  obtain ⟨S', p, r⟩ := SOk.newAt (t := s.toks) (items := out.toList) (xs := (sortLex (xs.map strOf)).map .str) S (fun b o hb => sortedAll_old (vs := its) (out := out) hb) (a := s.heap.objs.size + 1) (by
      cases e : s.heap.get? (s.heap.objs.size + 1) with
      | none => rfl
      | some o => exact absurd (Nat.lt_of_succ_lt (Heap.lt_size e)) (Nat.lt_irrefl _)) he
    (by
      have := reps_strs (h₀ := B.h₀) (μ := μ) (h := sortedAll s.heap its out) k1 (fun x hx => hlen _ (hperm.mem_iff.mp (List.mem_map.mpr ⟨x, hx, rfl⟩)))
      rw [← hss, List.map_map]
      exact this) hout
  exact hQ _ _ _ S' p r
end
end Mine
end

section
open PySem PySem.W PyProof.Rows PySem.Calls PySem.SeqAt
set_option Elab.async false
set_option linter.unusedVariables false
namespace Mine
/-! what is built of parts that may be lacking -/
noncomputable def gd {α : Type} (b : Bool) (o : Option α) : Option α := match b with
  | true => o
  | false => none
theorem gd_inv {α : Type} {b : Bool} {o : Option α} {r : α} (h : gd b o = some r) : b = true ∧ o = some r := by
  cases b with
  | true => exact ⟨rfl, h⟩
  | false => first | exact noSome h | exact nomatch h
noncomputable def both {α β γ : Type} (a : Option α) (b : Option β) (f : α → β → γ) : Option γ := a.bind fun x => b.map (f x)
theorem map_inv {α β : Type} {a : Option α} {f : α → β} {r : β} (h : a.map f = some r) : ∃ x, a = some x ∧ r = f x := by
  cases a with
  | none => first | exact noSome h | exact nomatch h
  | some x => exact ⟨x, rfl, (Option.some.inj h).symm⟩
theorem bind_inv {α β : Type} {a : Option α} {f : α → Option β} {r : β} (h : a.bind f = some r) : ∃ x, a = some x ∧ f x = some r := by
  cases a with
  | none => first | exact noSome h | exact nomatch h
  | some x => exact ⟨x, rfl, h⟩
inductive BothI {α β γ : Type} (a : Option α) (b : Option β) (f : α → β → γ) (r : γ) : Prop where
  | mk (x : α) (y : β) : a = some x → b = some y → r = f x y → BothI a b f r
inductive ThreeI {α β γ δ : Type} (a : Option α) (b : Option β) (c : Option γ) (f : α → β → γ → δ) (r : δ) : Prop where
  | mk (x : α) (y : β) (z : γ) : a = some x → b = some y → c = some z → r = f x y z → ThreeI a b c f r
theorem both_inv {α β γ : Type} {a : Option α} {b : Option β} {f : α → β → γ} {r : γ} (h : both a b f = some r) : BothI a b f r :=
  let ⟨x, h1, h2⟩ := bind_inv h
  let ⟨y, h3, h4⟩ := map_inv h2
  ⟨x, y, h1, h3, h4⟩
noncomputable def three {α β γ δ : Type} (a : Option α) (b : Option β) (c : Option γ) (f : α → β → γ → δ) : Option δ := a.bind fun x => both b c (f x)
theorem three_inv {α β γ δ : Type} {a : Option α} {b : Option β} {c : Option γ} {f : α → β → γ → δ} {r : δ} (h : three a b c f = some r) : ThreeI a b c f r :=
  let ⟨x, h1, h2⟩ := bind_inv h
  let ⟨y, z, h3, h4, h5⟩ := both_inv h2
  ⟨x, y, z, h1, h3, h4, h5⟩
theorem and_inv {a b : Bool} (h : (a && b) = true) : a = true ∧ b = true := by
  cases a with
  | true => exact ⟨rfl, h⟩
  | false => first | exact noSome h | exact nomatch h
theorem isEmpty_inv {α : Type} {l : List α} (h : l.isEmpty = true) : l = [] := by
  cases l with
  | nil => rfl
  | cons _ _ => first | exact noSome h | exact nomatch h
/-! looks at an expression -/
noncomputable def vName : Expr → Option (Str × Pos)
  | .Name n p => some (n, p)
  | _ => none
theorem vName_inv {e : Expr} {r : Str × Pos} (h : vName e = some r) : e = .Name r.1 r.2 := by
  cases e <;> first | (obtain rfl := Option.some.inj h; rfl) | exact noSome h | exact nomatch h
noncomputable def vText : Expr → Option Const
  | .Constant k _ _ => some k
  | _ => none
theorem vText_inv {e : Expr} {k : Const} (h : vText e = some k) : ∃ m p, e = .Constant k m p := by
  cases e <;> first | (obtain rfl := Option.some.inj h; exact ⟨_, _, rfl⟩) | first | exact noSome h | exact nomatch h
noncomputable def strC : Const → Option Str
  | .str s => some s
  | _ => none
noncomputable def intC : Const → Option Int
  | .int i => some i
  | _ => none
theorem intC_inv {k : Const} {i : Int} (h : intC k = some i) : k = .int i := by
  cases k <;> first | (obtain rfl := Option.some.inj h; rfl) | exact noSome h | exact nomatch h
theorem strC_inv {k : Const} {s : Str} (h : strC k = some s) : k = .str s := by
  cases k <;> first | (obtain rfl := Option.some.inj h; rfl) | exact noSome h | exact nomatch h
noncomputable def vAttr : Expr → Option (Expr × Str × Pos)
  | .Attribute o n p => some (o, n, p)
  | _ => none
theorem vAttr_inv {e : Expr} {r : Expr × Str × Pos} (h : vAttr e = some r) : e = .Attribute r.1 r.2.1 r.2.2 := by
  cases e <;> first | (obtain rfl := Option.some.inj h; rfl) | exact noSome h | exact nomatch h
noncomputable def vCall : Expr → Option (Expr × List Expr × List Keyword × Pos)
  | .Call g a k p => some (g, a, k, p)
  | _ => none
theorem vCall_inv {e : Expr} {r : Expr × List Expr × List Keyword × Pos} (h : vCall e = some r) : e = .Call r.1 r.2.1 r.2.2.1 r.2.2.2 := by
  cases e <;> first | (obtain rfl := Option.some.inj h; rfl) | exact noSome h | exact nomatch h
noncomputable def vSlice : Expr → Option (Option Expr × Option Expr × Option Expr × Pos)
  | .Slice a b c p => some (a, b, c, p)
  | _ => none
theorem vSlice_inv {e : Expr} {r : Option Expr × Option Expr × Option Expr × Pos} (h : vSlice e = some r) : e = .Slice r.1 r.2.1 r.2.2.1 r.2.2.2 := by
  cases e <;> first | (obtain rfl := Option.some.inj h; rfl) | exact noSome h | exact nomatch h
noncomputable def vDict : Expr → Option (List (Option Expr) × List Expr × Pos)
  | .Dict a b p => some (a, b, p)
  | _ => none
theorem vDict_inv {e : Expr} {r : List (Option Expr) × List Expr × Pos} (h : vDict e = some r) : e = .Dict r.1 r.2.1 r.2.2 := by
  cases e <;> first | (obtain rfl := Option.some.inj h; rfl) | exact noSome h | exact nomatch h
theorem strText {e : Expr} {s : Str} (h : (vText e).bind strC = some s) : ∃ m p, e = .Constant (.str s) m p := by
  obtain ⟨k, h1, h2⟩ := bind_inv h
  obtain rfl := strC_inv h2
  exact vText_inv h1
theorem intText {e : Expr} {i : Int} (h : (vText e).bind intC = some i) : ∃ m p, e = .Constant (.int i) m p := by
  obtain ⟨k, h1, h2⟩ := bind_inv h
  obtain rfl := intC_inv h2
  exact vText_inv h1
end Mine
end

section
open PySem PySem.W PyProof.Rows PySem.Calls PySem.SeqAt
set_option Elab.async false
set_option linter.unusedVariables false
namespace Mine
theorem dbl_is : ∀ l : List Nat, StrLaws.dbl 34 l = dblQ l := by
  intro l
  induction l with
  | nil => rfl
  | cons c r ih =>
    simp only [dblQ]
    rw [← ih]
    by_cases h : c = 34
    · simp [StrLaws.dbl, h]
    · simp [StrLaws.dbl, h]
theorem dblQ_len : ∀ l : List Nat, (dblQ l).length ≤ 2 * l.length
  | [] => Nat.le_refl _
  | c :: r => by
    have := dblQ_len r
    simp only [dblQ]
    split <;> simp only [List.length_cons] <;> (first | lia | omega)
section
variable {B : Base} {cx : Cx}
theorem snd_quote {n : Str} {i : Nat} (hs : cx.slot.lookup n = some i) (hd : (n == ("__debug__" : Str)) = false) (l : List Nat) (hl : l.length ≤ LIM) {k k1 k2 : Nat} {p p1 p2 q ap cp bp : Pos} (hline : (ap.endLine == cp.line) = true) :
    Snd B cx (.BinOp (.Constant (.str ⟨l.toArray⟩) k p) .Add (.Call (.Attribute (.Name n q) "replace" ap) [.Constant (.str ⟨#[34]⟩) k1 p1, .Constant (.str ⟨#[34, 34]⟩) k2 p2] [] cp) bp) (.bin .add (.str l) (.un .dbl (.var i))) :=
  snd_of (fun {C A env ρ μ σ s} X {v σ'} hev {Q E} hQ => by
    obtain ⟨x, σ₁, y, σ₂, h1, h2, h3⟩ := ev_bin hev
    simp only [ev] at h1; cases h1
    obtain ⟨z, σ₃, h4, h5⟩ := ev_un h2
    simp only [ev] at h4
    split at h4
    · rename_i z' hx
      cases h4
      refine wpAny_BinOp (Constant_str (Call_method2 rfl rfl hline ?_))
      have X1 := X.grown (h' := s.heap) (t := s.toks + 1) fun _ _ h => h
      refine wpAny_Name (load_name hs X1 hx fun v' r => ?_) hd
      obtain ⟨w, rfl, h6⟩ := uStr_inv h5
      obtain ⟨hc, rfl, rfl⟩ := if_some h6
      obtain ⟨t, rfl, hw⟩ := r.inv_str
      · · refine ⟨"str", "str.replace", F.plainAttrs_str, F.slot_str_replace, F.type_str_replace, typeIs_str _ _ _, fun a e => (by cases e), Calls.callWith_builtin rfl (Calls.evalArgs_plain (Calls.spliced_cons (Constant_str (Calls.spliced_cons (Constant_str (Calls.spliced_nil ?_))))))⟩
          refine SC.replace (x := ⟨w.toArray⟩) (u := s.toks + 1) (v := s.toks + 1 + 1) (Nat.succ_ne_zero _) (Nat.succ_ne_zero _) (by show s.toks + 1 ≠ s.toks + 1 + 1; (first | lia | omega)) (by decide) ?_ fun t' tk => ?_
          · rw [strLen]
            have hL : LIM = 16777216 := rfl
            show w.length + (w.length + 1) * 2 ≤ _
            (first | lia | omega)
          · rw [replace_dbl _ _ _ 34 rfl rfl, dbl_is]
            have hlen : (dblQ w).length ≤ LIM := by have := dblQ_len w; (first | lia | omega)
            have X2 := X.grown (h' := s.heap) (t := tk) fun _ _ h => h
            exact opB_add X2.R X2.S (.str l s.toks hl) (.str _ t' hlen) h3 fun v' s'' μ'' S'' p'' r'' => hQ _ _ _ (X2.go S'' p'') (Stp.tok.trans p'') r''
    · cases h4) fun _ => rfl
end

/-- one pair of the display -/
noncomputable def cPair (k : Option Expr) (v : Expr) : Option (Int × List Nat) := k.bind fun k => both ((vText k).bind intC) ((vText v).bind strC) fun i s => (i, s.cps.toList)
noncomputable def cDict : List (Option Expr) → List Expr → Option (List (Int × List Nat))
  | [], vs => gd vs.isEmpty (some [])
  | k :: ks, vs => match vs with
    | [] => none
    | v :: vs => (cPair k v).bind fun p => gd (decide (p.2.length ≤ LIM)) ((cDict ks vs).map (p :: ·))
theorem cPair_inv {k : Option Expr} {v : Expr} {p : Int × List Nat} (h : cPair k v = some p) : ∃ m q m' q', k = some (.Constant (.int p.1) m q) ∧ v = .Constant (.str ⟨p.2.toArray⟩) m' q' := by
  obtain ⟨e, rfl, h2⟩ := bind_inv h
  obtain ⟨i, s, h3, h4, rfl⟩ := both_inv h2
  obtain ⟨m, q, rfl⟩ := intText h3
  obtain ⟨m', q', rfl⟩ := strText h4
  exact ⟨m, q, m', q', rfl, rfl⟩
theorem cDict_inv {k : Option Expr} {ks : List (Option Expr)} {vs : List Expr} {L : List (Int × List Nat)} (h : cDict (k :: ks) vs = some L) : ∃ v vs' p L', vs = v :: vs' ∧ cPair k v = some p ∧ p.2.length ≤ LIM ∧ cDict ks vs' = some L' ∧ L = p :: L' := by
  cases vs with
  | nil => first | exact noSome h | exact nomatch h
  | cons v vs =>
    obtain ⟨p, h1, h2⟩ := bind_inv (show ((cPair k v).bind fun p => gd (decide (p.2.length ≤ LIM)) ((cDict ks vs).map (p :: ·))) = some L from h)
    obtain ⟨h3, h4⟩ := gd_inv h2
    obtain ⟨L', h5, rfl⟩ := map_inv h4
    exact ⟨v, vs, p, L', rfl, h1, of_decide_eq_true h3, h5, rfl⟩
/-- the display's pairs, as they come -/
noncomputable def PairsAre : List (Value × Value) → List (Int × List Nat) → Prop
  | [], [] => True
  | (a, b) :: vs, (i, l) :: L => (∃ t u, a = .int i t ∧ b = .str ⟨l.toArray⟩ u) ∧ l.length ≤ LIM ∧ PairsAre vs L
  | _, _ => False
section
variable {prog : Program} {w : World} {A : Around} {E : Value → Shared → Prop} {env : Env}
theorem pairs_ok {pos : Pos} : ∀ (ks : List (Option Expr)) {vs : List Expr} {L : List (Int × List Nat)}, cDict ks vs = some L → ∀ {s : Shared} {Q : List (Value × Value) → Shared → Prop},
    (∀ r tk, PairsAre r L → Q r { s with toks := tk }) → wpAny (model prog w) A (evalPairs (pairTrees ks vs env pos)) Q E s
  | [], vs, L, h, s, Q, hQ => by
    obtain ⟨h1, h2⟩ := gd_inv h
    obtain rfl := isEmpty_inv h1
    obtain rfl := Option.some.inj h2
    exact pairTrees_nil_walk (hQ _ s.toks trivial)
  | k :: ks, vs, L, h, s, Q, hQ => by
    obtain ⟨v, vs', p, L', rfl, h1, h2, h3, rfl⟩ := cDict_inv h
    obtain ⟨m, q, m', q', rfl, rfl⟩ := cPair_inv h1
    exact pairTrees_cons_walk (wpAny_Constant_int (Constant_str (pairs_ok ks h3 fun r tk hr => hQ _ tk ⟨⟨_, _, rfl, rfl⟩, h2, hr⟩)))
end
theorem cDict_len : ∀ (ks : List (Option Expr)) {vs : List Expr} {L : List (Int × List Nat)}, cDict ks vs = some L → ks.all (·.isSome) = true ∧ ks.length = vs.length ∧ ks.length = L.length
  | [], vs, L, h => by
    obtain ⟨h1, h2⟩ := gd_inv h
    obtain rfl := isEmpty_inv h1
    obtain rfl := Option.some.inj h2
    exact ⟨rfl, rfl, rfl⟩
  | k :: ks, vs, L, h => by
    obtain ⟨v, vs', p, L', rfl, h1, h2, h3, rfl⟩ := cDict_inv h
    obtain ⟨m, q, m', q', rfl, rfl⟩ := cPair_inv h1
    obtain ⟨a, b, c⟩ := cDict_len ks h3
    exact ⟨by rw [List.all_cons, a]; rfl, by rw [List.length_cons, List.length_cons, b], by rw [List.length_cons, List.length_cons, c]⟩
noncomputable def kvsOf (r : List (Value × Value)) (L : List (Int × List Nat)) : List (Int × Value) := (L.map (·.1)).zip (r.map (·.2))
theorem pairs_carry {prog : Program} {w : World} : ∀ {r : List (Value × Value)} {L : List (Int × List Nat)}, PairsAre r L → Carries (intKind prog w) r (kvsOf r L)
  | [], [], _ => trivial
  | (a, b) :: r, (i, l) :: L, ⟨⟨t, u, h1, h2⟩, _, h⟩ => ⟨by subst h1; simp [intKind, Value.isInt], rfl, pairs_carry h⟩
  | [], _ :: _, h => h.elim
  | _ :: _, [], h => h.elim
theorem pairs_keys : ∀ {r : List (Value × Value)} {L : List (Int × List Nat)}, PairsAre r L → (kvsOf r L).map (·.1) = L.map (·.1)
  | [], [], _ => rfl
  | (a, b) :: r, (i, l) :: L, ⟨_, _, h⟩ => by
    have := pairs_keys h
    simp only [kvsOf, List.map_cons, List.zip_cons_cons] at this ⊢
    rw [this]
  | [], _ :: _, h => h.elim
  | _ :: _, [], h => h.elim
theorem pairs_at : ∀ {r : List (Value × Value)} {L : List (Int × List Nat)}, PairsAre r L → ∀ {k : Int} {x : List Nat}, L.lookup k = some x → x.length ≤ LIM ∧ ∃ t, valueAt (kvsOf r L) k = some (.str ⟨x.toArray⟩ t)
  | [], [], _, k, x, h => by cases h
  | (a, b) :: r, (i, l) :: L, ⟨⟨t, u, h1, h2⟩, hl, hr⟩, k, x, h => by
    rw [List.lookup_cons] at h
    have e : kvsOf ((a, b) :: r) ((i, l) :: L) = (i, b) :: kvsOf r L := rfl
    rw [e]
    unfold valueAt
    rw [List.find?_cons]
    split at h
    · rename_i hk
      have hk' : k = i := by simpa using hk
      cases h
      subst hk'
      refine ⟨hl, u, ?_⟩
      simp [h2]
    · rename_i hk
      have hk' : ¬ i = k := fun e => by subst e; simp at hk
      rw [decide_eq_false hk']
      exact pairs_at hr h
  | [], _ :: _, h, _, _, _ => h.elim
  | _ :: _, [], h, _, _, _ => h.elim
theorem merged_app : ∀ (more acc : List (Int × Value)), ((acc ++ more).map (·.1)).Nodup → merged acc more = acc ++ more
  | [], acc, _ => by simp [merged]
  | (k, v) :: more, acc, h => by
    have hk : ¬ (acc.any fun kv => decide (kv.1 = k)) = true := fun e => by
      obtain ⟨kv, hm, e⟩ := List.any_eq_true.mp e
      rw [List.map_append, List.nodup_append] at h
      exact h.2.2 kv.1 (List.mem_map.mpr ⟨kv, hm, rfl⟩) k (by simp) (by simpa using e)
    have e : merged acc ((k, v) :: more) = merged (acc ++ [(k, v)]) more := by
      unfold merged
      rw [List.foldl_cons]
      congr 1
      unfold stored
      rw [if_neg hk]
    rw [e, merged_app more _ (by rw [List.append_assoc]; exact h), List.append_assoc]
    rfl
section
variable {B : Base} {cx : Cx}
theorem snd_dict {ks : List (Option Expr)} {vs : List Expr} {L : List (Int × List Nat)} (hL : cDict ks vs = some L) (hn : (L.map (·.1)).Nodup) (h15 : L.length ≤ 15) (h0 : L ≠ []) {a : Expr} {a' : Ex} (ha : Snd B cx a a')
    (hi : ∀ o i, subscripted a false o i = operate [o, i] (getItem o i)) (dp p : Pos) : Snd B cx (.Subscript (.Dict ks vs dp) a p) (.un (.dict L) a') :=
  snd_of (fun {C A env ρ μ σ s} X {v σ'} hev {Q E} hQ => by
    obtain ⟨x, σ₁, h1, h3⟩ := ev_un hev
    obtain ⟨l1, l2, l3⟩ := cDict_len _ hL
    refine subscript_any (wpAny_Dict_walk (knd := intKind B.prog B.w) l1 l2 (fun e => h0 (by rw [e] at l3; exact List.length_eq_zero_iff.mp l3.symm)) (by (first | lia | omega)) (pairs_ok _ hL fun r tk hr => ?_)) hi
    refine ⟨kvsOf r L, pairs_carry hr, ?_, fun h' hD hsb => ?_⟩
    · exact ⟨_, #[], 0, Heap.get?_push_size _ rfl, ⟨rfl, rfl, rfl⟩, rfl, fun x hx => absurd hx (by simp), .nil, List.nodup_nil⟩
    · rw [merged_app _ _ (by rw [List.nil_append, pairs_keys hr]; exact hn), List.nil_append] at hD
      have hk : ∀ b o, s.heap.get? b = some o → h'.get? b = some o := fun b o hb => by
        have hne : b ≠ s.heap.objs.size := fun e => Nat.lt_irrefl _ (e ▸ Heap.lt_size hb)
        rw [hsb.2 b hne]
        exact Heap.get?_push_of_some _ hb
      have X1 := X.grown (t := tk + r.length) hk
      have hna : s.heap.objs.size ∉ μ := fun hm => by
        obtain ⟨o, h, _⟩ := X.S.isList hm
        exact absurd (Heap.lt_size h) (Nat.lt_irrefl _)
      refine ha.1 X1 h1 fun x' s'' μ'' X'' p'' r'' => ?_
      obtain ⟨o, es, ep, ho, m2⟩ := hD.mapOf
      have hM : s''.heap.MapOf (intKind B.prog B.w) s.heap.objs.size (valueAt (kvsOf r L)) := ⟨o, es, ep, p''.keep _ _ ho hna, m2⟩
      obtain ⟨c, rfl, h4⟩ := uInt_inv h3
      obtain ⟨y, hy, rfl, rfl⟩ := map_pair h4
      obtain ⟨t, rfl⟩ := r''.inv_int
      · · obtain ⟨hlen, u, e⟩ := pairs_at hr hy
          exact ⟨⟨"dict", _, F.slot_dict_getitem.lookup, hM.typeIs⟩, wpAny_getItem_of (knd := intKind B.prog B.w) (k := c) (by simp [intKind, Value.isInt]) hM e (hQ _ _ _ (X''.grown fun _ _ h => h) ((Stp.grown hk).trans (p''.trans Stp.tok)) (.str _ _ hlen))⟩
) fun _ => rfl
end
end Mine
end

section
open PySem PySem.W PyProof.Rows PySem.Calls PySem.SeqAt
set_option Elab.async false
set_option linter.unusedVariables false
namespace Mine

inductive Gl where
  | int (i : Int) | fn (f : Nat)

/-- an expression of a plain kind -/
noncomputable def isGood : Expr → Bool
  | .Constant .. | .Name .. | .BinOp .. | .UnaryOp .. | .BoolOp .. | .IfExp .. | .Compare .. | .Call .. | .Subscript .. | .List .. | .Tuple .. | .ListComp .. => true
  | _ => false
structure Good (e : Expr) : Prop where
  plain : Plain e
  sub : ∀ o i, subscripted e false o i = operate [o, i] (getItem o i)
  fld : ∀ env x, foldedSetIterable e env x = pure x
  mark : ∀ op, behindInMarks op e = false
  aug : ∀ ov iv new, augStore e ov iv new = (do holding [new, ov, iv] (setItem ov iv new); release [new, ov, iv] []; pure .next)
theorem good_of {e : Expr} (h : isGood e = true) : Good e := by
  cases e <;> first | exact ⟨fun _ _ => rfl, fun _ _ => rfl, fun _ _ => rfl, fun _ => rfl, fun _ _ _ => rfl⟩ | cases h

noncomputable def isName : Expr → Bool
  | .Name .. => true
  | _ => false
theorem name_let {e : Expr} (h : isName e = true) : ∀ o r, letTemporaryGo e o r = pure () := by
  cases e <;> first | exact fun _ _ => rfl | cases h
noncomputable def noCall : Expr → Bool
  | .Name .. | .Constant .. => true
  | _ => false
theorem base_of {e : Expr} (h : noCall e = true) (n : Str) : ∀ env, attributeBase e n env (eval e env) = eval e env := by
  cases e <;> first | exact fun _ => rfl | cases h

noncomputable def bop : Operator → Option Bop
  | .Add => some .add | .Sub => some .sub | .FloorDiv => some .fdiv | .Mod => some .mod | .Pow => some .pow
  | _ => none
theorem bop_ok {B : Base} {op : Operator} {o : Bop} (h : bop op = some o) : OpB B o (binaryOp op) := by
  cases op <;> first | (obtain rfl := Option.some.inj h; first | exact opB_add | exact opB_sub | exact opB_mul | exact opB_mod | exact opB_pow | exact opB_fdiv) | first | exact noSome h | exact nomatch h
noncomputable def cop : CmpOp → Option Bop
  | .Eq => some .eq | .NotEq => some .ne | .Lt => some .lt | .LtE => some .le | .Gt => some .gt | .GtE => some .ge | .Is => some .is | .IsNot => some .isnot | .In => some .inn | .NotIn => some .notin
theorem cop_ok {B : Base} {op : CmpOp} {o : Bop} (h : cop op = some o) : OpB B o (compareOp op) := by
  cases op <;> obtain rfl := Option.some.inj h
  · exact opB_eq
  · exact opB_ne
  · exact opB_lt
  · exact opB_le
  · exact opB_gt
  · exact opB_ge
  · exact opB_is
  · exact opB_isnot
  · exact opB_in
  · exact opB_notin

noncomputable def isSubs : Expr → Bool
  | .Subscript .. => true
  | _ => false
theorem isSubs_ok {e : Expr} (h : isSubs e = true) : ∀ o i, subscripted e false o i = operate [o, i] (getItem o i) := by
  cases e <;> first | exact fun _ _ => rfl | first | exact noSome h | exact nomatch h

section
variable (G : List (Str × Gl)) (cx : Cx)

/-- a name of the world's -/
noncomputable def isGl (n : Str) : Bool := cx.scope.names.lookup n == some .globalImplicit && !(n == ("__debug__" : Str))
noncomputable def glInt : Gl → Option Int
  | .int i => some i
  | .fn _ => none
noncomputable def glFn : Gl → Option Nat
  | .int _ => none
  | .fn f => some f
noncomputable def cName (n : Str) : Option Ex := match cx.slot.lookup n with
  | some i => gd (!(n == ("__debug__" : Str))) (some (.var i))
  | none => gd (isGl cx n) (((G.lookup n).bind glInt).map .int)
noncomputable def cConst : Const → Option Ex
  | .none => some .none
  | .bool b => some (.bool b)
  | .int i => some (.int i)
  | .str s => gd (decide (s.cps.size ≤ LIM)) (some (.str s.cps.toList))
  | _ => none
noncomputable def cList (f : Expr → Option Ex) : List Expr → Option Exs
  | [] => some .nil
  | e :: es => gd (isGood e) (both (f e) (cList f es) .cons)
noncomputable def if1 {α : Type} (n m : Str) (a : α) : Option α := gd (decide (n = m)) (some a)
noncomputable def bu (n : Str) : Option Uop := orE (if1 n "len" .len) (orE (if1 n "ord" .ord) (orE (if1 n "chr" .chr) (orE (if1 n "range" .range) (
  orE (if1 n "sum" .sum) (orE (if1 n "sorted" .sorted) (if1 n "list" .list))
  ))))
noncomputable def m1 (n : Str) : Option Bop := orE (if1 n "append" .append) (orE (if1 n "join" .join) (orE (
  none
  ) (
  if1 n "index" .index
  )))
noncomputable def m0 (n : Str) : Option Uop := orE (if1 n "lower" .lower) (
  if1 n "pop" .pop
  )
noncomputable def isNeg1 : Ex → Bool
  | .un o a => match o with
    | .neg => match a with
      | .int i => decide (i = 1)
      | _ => false
    | _ => false
  | _ => false
theorem isNeg1_inv {c : Ex} (h : isNeg1 c = true) : c = .un .neg (.int 1) := by
  unfold isNeg1 at h
  split at h
  · split at h
    · split at h
      · rename_i i; rw [of_decide_eq_true (p := i = 1) h]
      · first | exact noSome h | cases h
    · first | exact noSome h | cases h
  · first | exact noSome h | cases h
noncomputable def cCall2 (f : Expr → Option Ex) (n : Str) (a b : Expr) : Option Ex := gd (isGood a && isGood b) (orE (gd (decide (n = ("min" : Str))) (both (f a) (f b) (.bin .min))) (
  gd (decide (n = ("isinstance" : Str))) ((vName b).bind fun t => gd (decide (t.1 = ("tuple" : Str)) && (isGl cx t.1 && (G.lookup t.1).isNone)) ((f a).map (.un .isTup)))
  ))
noncomputable def cBI (f : Expr → Option Ex) (n : Str) (args : List Expr) : Option Ex := match args with
  | [] => none
  | a :: r => match r with
    | [] => gd (isGood a) (both (bu n) (f a) .un)
    | b :: r => match r with
      | [] => cCall2 G cx f n a b
      | c :: r => gd (r.isEmpty && (decide (n = ("range" : Str)) && (isGood a && (isGood b && isGood c)))) ((f c).bind fun c' => gd (isNeg1 c') (both (f a) (f b) (.bin .down)))
noncomputable def cDef (f : Expr → Option Ex) (i : Nat) (args : List Expr) : Option Ex := match args with
  | [] => none
  | e :: es => gd (isGood e) ((cList f (e :: es)).map (.call i))
/-- a call of a name -/
noncomputable def cCall (f : Expr → Option Ex) (n : Str) (args : List Expr) : Option Ex := gd (isGl cx n) (match G.lookup n with
  | some g => (glFn g).bind fun i => cDef f i args
  | none => cBI G cx f n args)
noncomputable def cMeth (f : Expr → Option Ex) (o : Expr) (n : Str) (args : List Expr) : Option Ex := match args with
  | [] => gd (noCall o) (both (m0 n) (f o) .un)
  | a :: r => gd (r.isEmpty && isGood a) (orE (gd (decide (n = ("get" : Str))) ((vName o).bind fun t => gd (decide (t.1 = ("b3_exceptions" : Str)) && isGl cx t.1) ((f a).map (.un .getB3))))
      (gd (noCall o) (three (m1 n) (f o) (f a) .bin)))
noncomputable def isInOp : CmpOp → Bool
  | .In => true
  | _ => false
noncomputable def cCmp (f : Expr → Option Ex) (a : Expr) (op : CmpOp) (b : Expr) : Option Ex :=
  orE (gd (isInOp op) ((vName b).bind fun t => gd (isGl cx t.1) (both (orE (if1 t.1 "b1_set" Uop.inB1) (if1 t.1 "EXACT_TOKEN_TYPES" Uop.inTok)) (f a) .un)))
    (gd (isGood b) (three (cop op) (f a) (f b) .bin))
noncomputable def cSlice (f : Expr → Option Ex) (a : Expr) (lo hi : Option Expr) : Option Ex := match lo with
  | some l => match hi with
    | some h => three (f a) (f l) (f h) .slice
    | none => both (f a) (f l) (.bin .sliceF)
  | none => match hi with
    | some h => both (f a) (f h) (.bin .sliceT)
    | none => none
noncomputable def cSub (f : Expr → Option Ex) (a i : Expr) : Option Ex := match vSlice i with
  | some s => gd (isName a && s.2.2.1.isNone) (cSlice f a s.1 s.2.1)
  | none => orE ((vName a).bind fun t => gd (decide (t.1 = ("EXACT_TOKEN_TYPES" : Str)) && (isGl cx t.1 && isSubs i)) ((f i).map (.un .tok)))
    (orE (
  (vDict a).bind fun d => (cDict d.1 d.2.1).bind fun L => gd (decide ((L.map (·.1)).Nodup) && (decide (L.length ≤ 15) && (decide (L.length ≠ 0) && isGood i))) ((f i).map (.un (.dict L)))
    )
    (gd (isGood i) (both (f a) (f i) (.bin .item))))
noncomputable def isAdd : Operator → Bool
  | .Add => true
  | _ => false
/-- a text ahead of a name's text with its quotation marks doubled -/
noncomputable def cQuoteOf (s : Str) (t : Expr × List Expr × List Keyword × Pos) (r : Expr × Str × Pos) (x : Str × Pos) (u v : Expr) : Option Ex :=
  gd (decide (r.2.1 = ("replace" : Str)) && (decide ((vText u).bind strC = some ⟨#[34]⟩) && (decide ((vText v).bind strC = some ⟨#[34, 34]⟩) && (decide (s.cps.size ≤ LIM) && ((r.2.2.endLine == t.2.2.2.line) && (!(x.1 == ("__debug__" : Str)) && t.2.2.1.isEmpty))))))
    ((cx.slot.lookup x.1).map fun i => .bin .add (.str s.cps.toList) (.un .dbl (.var i)))
noncomputable def two? (l : List Expr) : Option (Expr × Expr) := match l with
  | [] => none
  | u :: r => match r with
    | [] => none
    | v :: r => gd r.isEmpty (some (u, v))
theorem two?_inv {l : List Expr} {r : Expr × Expr} (h : two? l = some r) : l = [r.1, r.2] := by
  cases l with
  | nil => first | exact noSome h | exact nomatch h
  | cons u l =>
    cases l with
    | nil => first | exact noSome h | exact nomatch h
    | cons v l =>
      obtain ⟨h1, h2⟩ := gd_inv h
      obtain rfl := isEmpty_inv h1
      obtain rfl := Option.some.inj h2
      rfl
noncomputable def cQuote (a : Expr) (op : Operator) (b : Expr) : Option Ex := gd (isAdd op) (((vText a).bind strC).bind fun s => (vCall b).bind fun t => (vAttr t.1).bind fun r => (vName r.1).bind fun x => (two? t.2.1).bind fun uv => cQuoteOf cx s t r x uv.1 uv.2)
noncomputable def cUn (f : Expr → Option Ex) (op : UnaryOp) (a : Expr) : Option Ex := match op with
  | .Not => (f a).map .not
  | .USub => (f a).map (.un .neg)
  | _ => none
noncomputable def cBool (f : Expr → Option Ex) (op : BoolOp) (es : List Expr) (p : Pos) : Option Ex := match es with
  | [] => none
  | a :: r => match r with
    | [] => f a
    | b :: r => match op with
      | .And => both (f a) (f (.BoolOp .And (b :: r) p)) .and
      | .Or => both (f a) (f (.BoolOp .Or (b :: r) p)) .or
noncomputable def cCmps (f : Expr → Option Ex) (a : Expr) (ops : List CmpOp) (bs : List Expr) : Option Ex := match ops with
  | [] => none
  | op :: r => match r with
    | [] => match bs with
      | [] => none
      | b :: r => gd r.isEmpty (cCmp cx f a op b)
    | _ :: _ => none
noncomputable def cCallE (f : Expr → Option Ex) (g : Expr) (args : List Expr) (kws : List Keyword) (p : Pos) : Option Ex := gd kws.isEmpty (orE ((vName g).bind fun t => cCall G cx f t.1 args) ((vAttr g).bind fun r => gd (r.2.2.endLine == p.line) (cMeth cx f r.1 r.2.1 args)))
noncomputable def cxOf (scope : Scope) (x : Str) : Cx :=
  { scope := relab scope cx.scope, slot := (x, cx.n) :: scope.names.filterMap (fun p => if p.2 = .free then (cx.slot.lookup p.1).map (p.1, ·) else none), n := cx.n + 1 }
end

noncomputable def CxOkP (cx : Cx) : Prop := (∀ p ∈ cx.slot, ∀ q ∈ cx.slot, p.2 = q.2 → p.1 = q.1) ∧ (∀ p ∈ cx.slot, cx.scope.names.lookup p.1 = some .local ∨ cx.scope.names.lookup p.1 = some .cell) ∧ ∀ p ∈ cx.slot, p.2 < cx.n
noncomputable def decCxOk (cx : Cx) : Decidable (CxOkP cx) := by unfold CxOkP; infer_instance
theorem CxOkP.ok {cx : Cx} (h : CxOkP cx) : CxOk cx := ⟨h.1, h.2.1, h.2.2⟩
noncomputable def CompOkP (cx cxc : Cx) (scope : Scope) (x : Str) : Prop :=
  scope.kind = .function ∧ (∀ y ∈ scope.names, y.2 ≠ .cell) ∧ (∀ y ∈ scope.names, y.2 = .local → scope.names.lookup y.1 = some .local) ∧ scope.names.lookup x = some .local ∧
  (∀ y ∈ scope.names, y.2 = .free → cx.scope.names.lookup y.1 = some .cell) ∧
  (∀ p ∈ cxc.slot, p = (x, cx.n) ∨ (cx.slot.lookup p.1 = some p.2 ∧ (p.1, .free) ∈ scope.names ∧ cxc.scope.names.lookup p.1 = some .cell)) ∧
  cxc.slot.lookup x = some cx.n ∧ CxOkP cxc ∧ CxOkP cx ∧ ∀ y ∈ cxc.scope.names, y.2 = .cell → (y.1, .free) ∈ scope.names
noncomputable def decCompOk (cx cxc : Cx) (scope : Scope) (x : Str) : Decidable (CompOkP cx cxc scope x) := by
  have := decCxOk cx
  have := decCxOk cxc
  unfold CompOkP; infer_instance
noncomputable def compB (cx : Cx) (scope : Scope) (x : Str) : Bool := @decide (CompOkP cx (cxOf cx scope x) scope x) (decCompOk _ _ _ _)
theorem CompOkP.ok {cx : Cx} {scope : Scope} {x : Str} (h : CompOkP cx (cxOf cx scope x) scope x) : CompOk cx (cxOf cx scope x) scope x :=
  ⟨rfl, rfl, h.1, h.2.1, h.2.2.1, h.2.2.2.1, h.2.2.2.2.1, h.2.2.2.2.2.1, h.2.2.2.2.2.2.1, h.2.2.2.2.2.2.2.1.ok, h.2.2.2.2.2.2.2.2.1.ok, h.2.2.2.2.2.2.2.2.2⟩


noncomputable def cLC (f : Cx → Expr → Option Ex) (cx : Cx) (elt : Expr) (gens : List Comprehension) (scope : Scope) : Option Ex := match gens with
  | [] => none
  | g :: r => gd (r.isEmpty && decide (g.is_async = 0)) ((vName g.target).bind fun x => gd (isGood g.iter && compB cx scope x.1) (match g.ifs with
    | [] => both (f cx g.iter) (f (cxOf cx scope x.1) elt) .comp
    | c :: r => gd r.isEmpty (three (f cx g.iter) (f (cxOf cx scope x.1) c) (f (cxOf cx scope x.1) elt) .compIf)))
noncomputable def cE (G : List (Str × Gl)) : Nat → Cx → Expr → Option Ex
  | 0, _, _ => none
  | n + 1, cx, e => match e with
    | .Constant k _ _ => cConst k
    | .Name x _ => cName G cx x
    | .BinOp a op b _ => orE (cQuote cx a op b) (three (bop op) (cE G n cx a) (cE G n cx b) .bin)
    | .UnaryOp op a _ => cUn (cE G n cx) op a
    | .BoolOp op es p => cBool (cE G n cx) op es p
    | .IfExp c a b _ => three (cE G n cx c) (cE G n cx a) (cE G n cx b) .ite
    | .Compare a ops bs _ => cCmps cx (cE G n cx) a ops bs
    | .Call g args kws p => cCallE G cx (cE G n cx) g args kws p
    | .Subscript a i _ => cSub cx (cE G n cx) a i
    | .List es _ => (cList (cE G n cx) es).map .list
    | .Tuple es _ _ => (cList (cE G n cx) es).map .tup
    | .ListComp elt gens scope _ => cLC (cE G n) cx elt gens scope
    | _ => none

/-- what the names mean -/
structure GlOk (B : Base) (G : List (Str × Gl)) : Prop where
  int : ∀ n i, G.lookup n = some (.int i) → ∃ t, B.mg n = some (.int i t)
  fn : ∀ n f, G.lookup n = some (.fn f) → ∃ a o fd, B.mg n = some (.ref a) ∧ B.at' f = some a ∧ B.h₀.get? a = some o ∧ o.data = .func fd
  free : ∀ n ∈ (["len", "ord", "chr", "range", "list", "min", "isinstance", "tuple", "sum", "sorted"] : List Str), G.lookup n = none → B.mg n = none

end Mine
end

section
open PySem PySem.W PyProof.Rows PySem.Calls PySem.SeqAt
set_option Elab.async false
set_option linter.unusedVariables false
namespace Mine
section
variable {B : Base} {G : List (Str × Gl)} {cx : Cx}
theorem isGl_ok {n : Str} (h : isGl cx n = true) : cx.scope.names.lookup n = some .globalImplicit ∧ (n == ("__debug__" : Str)) = false := by
  obtain ⟨h1, h2⟩ := and_inv h
  exact ⟨by simpa using h1, by simpa using h2⟩
theorem glInt_inv {g : Gl} {i : Int} (h : glInt g = some i) : g = .int i := by
  cases g with
  | int _ => rw [Option.some.inj h]
  | fn _ => first | exact noSome h | exact nomatch h
theorem glFn_inv {g : Gl} {i : Nat} (h : glFn g = some i) : g = .fn i := by
  cases g with
  | fn _ => rw [Option.some.inj h]
  | int _ => first | exact noSome h | exact nomatch h
theorem if1_inv {α : Type} {n m : Str} {a r : α} (h : if1 n m a = some r) : n = m ∧ r = a := by
  obtain ⟨h1, h2⟩ := gd_inv h
  exact ⟨of_decide_eq_true h1, (Option.some.inj h2).symm⟩
theorem cName_ok (hB : BOk B) (hG : GlOk B G) {n : Str} {c : Ex} (h : cName G cx n = some c) (p : Pos) : Snd B cx (.Name n p) c := by
  unfold cName at h
  split at h
  · rename_i i hs
    obtain ⟨hd, e⟩ := gd_inv h
    obtain rfl := Option.some.inj e
    exact snd_var hs (by simpa using hd) p
  · obtain ⟨hg, h2⟩ := gd_inv h
    obtain ⟨h1, h2'⟩ := isGl_ok hg
    obtain ⟨i, h3, rfl⟩ := map_inv h2
    obtain ⟨g, h4, h5⟩ := bind_inv h3
    obtain rfl := glInt_inv h5
    obtain ⟨t, ht⟩ := hG.int n i h4
    exact snd_glob hB h1 ht h2' p
theorem cConst_ok {k : Const} {c : Ex} (h : cConst k = some c) (m : Nat) (p : Pos) : Snd B cx (.Constant k m p) c := by
  unfold cConst at h
  split at h
  · obtain rfl := Option.some.inj h; exact snd_none m p
  · obtain rfl := Option.some.inj h; exact snd_bool _ m p
  · obtain rfl := Option.some.inj h; exact snd_int _ m p
  · obtain ⟨hl, h2⟩ := gd_inv h
    obtain rfl := Option.some.inj h2
    exact snd_str _ (of_decide_eq_true hl) m p
  · first | exact noSome h | exact nomatch h
theorem cList_ok {f : Expr → Option Ex} (hf : ∀ e c, f e = some c → Snd B cx e c) : ∀ {es : List Expr} {cs : Exs}, cList f es = some cs → SndL B cx es cs
  | [], cs, h => by obtain rfl := Option.some.inj h; exact sndL_nil
  | e :: es, cs, h => by
    obtain ⟨hg, h2⟩ := gd_inv h
    obtain ⟨c, cs', h3, h4, rfl⟩ := both_inv h2
    exact sndL_cons (hf _ _ h3) (cList_ok hf h4) fun env => (good_of hg).plain es env
theorem nostar1 {b : Expr} (h : Good b) : NoStars [b] := fun pos env => by
  rw [h.plain [] env]; rfl
theorem nostar2 {b c : Expr} (h : Good b) (h' : Good c) : NoStars [b, c] := fun pos env => by
  rw [h.plain [c] env, h'.plain [] env]; rfl
/-- a call of a builtin with one argument -/
theorem bu_ok (hB : BOk B) (hG : GlOk B G) {n : Str} {o : Uop} (h : bu n = some o) (g1 : cx.scope.names.lookup n = some .globalImplicit) (g2 : (n == ("__debug__" : Str)) = false) (hnone : G.lookup n = none) {a : Expr} {a' : Ex} (ha : Snd B cx a a') (ga : Plain a) (q p : Pos) : Snd B cx (.Call (.Name n q) [a] [] p) (.un o a') := by
  rcases orE_inv h with h | h
  · obtain ⟨rfl, rfl⟩ := if1_inv h
    exact snd_call1 hB g1 (hG.free _ (by decide) hnone) Boot.«len» (by decide) g2 opU_len ha ga q p
  rcases orE_inv h with h | h
  · obtain ⟨rfl, rfl⟩ := if1_inv h
    exact snd_call1 hB g1 (hG.free _ (by decide) hnone) Boot.«ord» (by decide) g2 opU_ord ha ga q p
  rcases orE_inv h with h | h
  · obtain ⟨rfl, rfl⟩ := if1_inv h
    exact snd_call1 hB g1 (hG.free _ (by decide) hnone) Boot.«chr» (by decide) g2 opU_chr ha ga q p
  rcases orE_inv h with h | h
  · obtain ⟨rfl, rfl⟩ := if1_inv h
    exact snd_type1 hB g1 (hG.free _ (by decide) hnone) Boot.«range» (by decide) g2 opU_range ha ga q p
  rcases orE_inv h with h | h
  · obtain ⟨rfl, rfl⟩ := if1_inv h
    exact snd_call1 hB g1 (hG.free _ (by decide) hnone) Boot.«sum» (by decide) g2 opU_sum ha ga q p
  rcases orE_inv h with h | h
  · obtain ⟨rfl, rfl⟩ := if1_inv h
    exact snd_call1 hB g1 (hG.free _ (by decide) hnone) Boot.«sorted» (by decide) g2 opU_sorted ha ga q p
  · obtain ⟨rfl, rfl⟩ := if1_inv h
    exact snd_type1 hB g1 (hG.free _ (by decide) hnone) Boot.«list» (by decide) g2 opU_list ha ga q p
theorem cCall2_ok (hB : BOk B) (hG : GlOk B G) {f : Expr → Option Ex} (hf : ∀ e c, f e = some c → Snd B cx e c) {n : Str} {a b : Expr} {c : Ex} (h : cCall2 G cx f n a b = some c) (g1 : cx.scope.names.lookup n = some .globalImplicit) (g2 : (n == ("__debug__" : Str)) = false) (hnone : G.lookup n = none) (q p : Pos) : Snd B cx (.Call (.Name n q) [a, b] [] p) c := by
  obtain ⟨hab, h2⟩ := gd_inv h
  obtain ⟨ha, hb⟩ := and_inv hab
  have ga := good_of ha
  have gb := good_of hb
  rcases orE_inv h2 with h3 | h3
  · obtain ⟨e, h4⟩ := gd_inv h3
    obtain rfl := of_decide_eq_true e
    obtain ⟨a', b', h5, h6, rfl⟩ := both_inv h4
    exact snd_call2 hB g1 (hG.free _ (by decide) hnone) Boot.«min» (by decide) g2 opB_min (hf _ _ h5) (hf _ _ h6) ga.plain gb.plain (nostar1 gb) q p
  · obtain ⟨e, h4⟩ := gd_inv h3
    obtain rfl := of_decide_eq_true e
    obtain ⟨t, h5, h6⟩ := bind_inv h4
    obtain rfl := vName_inv h5
    obtain ⟨k, h7⟩ := gd_inv h6
    obtain ⟨k1, k2⟩ := and_inv k
    obtain ⟨k2, k3⟩ := and_inv k2
    obtain ⟨a', h8, rfl⟩ := map_inv h7
    have e := of_decide_eq_true k1
    rw [e] at k2 k3 ⊢
    exact snd_isTup hB g1 (hG.free _ (by decide) hnone) (isGl_ok k2).1 (hG.free _ (by decide) (by simpa using k3)) (hf _ _ h8) ga.plain q p
theorem cBI_ok (hB : BOk B) (hG : GlOk B G) {f : Expr → Option Ex} (hf : ∀ e c, f e = some c → Snd B cx e c) {n : Str} {args : List Expr} {c : Ex} (h : cBI G cx f n args = some c) (g1 : cx.scope.names.lookup n = some .globalImplicit) (g2 : (n == ("__debug__" : Str)) = false) (hnone : G.lookup n = none) (q p : Pos) : Snd B cx (.Call (.Name n q) args [] p) c := by
  match args, h with
  | [], h => first | exact noSome h | exact nomatch h
  | [a], h =>
    obtain ⟨ha, h2⟩ := gd_inv (show gd (isGood a) (both (bu n) (f a) .un) = some c from h)
    obtain ⟨o, a', h3, h4, rfl⟩ := both_inv h2
    exact bu_ok hB hG h3 g1 g2 hnone (hf _ _ h4) (good_of ha).plain q p
  | [a, b], h => exact cCall2_ok hB hG hf h g1 g2 hnone q p
  | a :: b :: d :: r, h =>
    obtain ⟨k, h2⟩ := gd_inv (show gd (r.isEmpty && (decide (n = ("range" : Str)) && (isGood a && (isGood b && isGood d)))) ((f d).bind fun c' => gd (isNeg1 c') (both (f a) (f b) (.bin .down))) = some c from h)
    obtain ⟨k0, k1⟩ := and_inv k
    obtain ⟨k1, k2⟩ := and_inv k1
    obtain ⟨k2, k3⟩ := and_inv k2
    obtain ⟨k3, k4⟩ := and_inv k3
    obtain rfl := isEmpty_inv k0
    obtain rfl := of_decide_eq_true k1
    obtain ⟨d', h3, h4⟩ := bind_inv h2
    obtain ⟨k5, h5⟩ := gd_inv h4
    obtain rfl := isNeg1_inv k5
    obtain ⟨a', b', h6, h7, rfl⟩ := both_inv h5
    exact snd_down hB g1 (hG.free _ (by decide) hnone) (hf _ _ h6) (hf _ _ h7) (hf _ _ h3) (good_of k2).plain (good_of k3).plain (good_of k4).plain (nostar2 (good_of k3) (good_of k4)) q p
theorem cCall_ok (hB : BOk B) (hG : GlOk B G) {f : Expr → Option Ex} (hf : ∀ e c, f e = some c → Snd B cx e c) {n : Str} {args : List Expr} {c : Ex} (h : cCall G cx f n args = some c) (q p : Pos) : Snd B cx (.Call (.Name n q) args [] p) c := by
  obtain ⟨hg, h2⟩ := gd_inv h
  obtain ⟨g1, g2⟩ := isGl_ok hg
  split at h2
  · rename_i g hi
    obtain ⟨i, h3, h4⟩ := bind_inv h2
    obtain rfl := glFn_inv h3
    match args, h4 with
    | [], h4 => first | exact noSome h4 | exact nomatch h4
    | e :: es, h4 =>
      obtain ⟨hge, h5⟩ := gd_inv (show gd (isGood e) ((cList f (e :: es)).map (.call i)) = some c from h4)
      obtain ⟨cs, hcs, rfl⟩ := map_inv h5
      obtain ⟨a, o, fd, b1, b2, b3, b4⟩ := hG.fn n i hi
      exact snd_def hB g1 b1 b2 b3 b4 g2 (cList_ok hf hcs) (good_of hge).plain q p
  · rename_i hnone
    exact cBI_ok hB hG hf h2 g1 g2 hnone q p

theorem m0_ok {n : Str} {u : Uop} (h : m0 n = some u) {o : Expr} {o' : Ex} (ho : Snd B cx o o') (hn : noCall o = true) {ap p : Pos} (hl : (ap.endLine == p.line) = true) : Snd B cx (.Call (.Attribute o n ap) [] [] p) (.un u o') := by
  rcases orE_inv h with h | h
  · obtain ⟨rfl, rfl⟩ := if1_inv h
    exact snd_lower ho (base_of hn _) hl
  · obtain ⟨rfl, rfl⟩ := if1_inv h
    exact snd_pop ho (base_of hn _) hl
theorem m1_ok {n : Str} {u : Bop} (h : m1 n = some u) {o a : Expr} {o' a' : Ex} (ho : Snd B cx o o') (ha : Snd B cx a a') (hn : noCall o = true) (ga : Plain a) {ap p : Pos} (hl : (ap.endLine == p.line) = true) : Snd B cx (.Call (.Attribute o n ap) [a] [] p) (.bin u o' a') := by
  rcases orE_inv h with h | h
  · obtain ⟨rfl, rfl⟩ := if1_inv h
    exact snd_append ho ha (base_of hn _) ga hl
  rcases orE_inv h with h | h
  · obtain ⟨rfl, rfl⟩ := if1_inv h
    exact snd_join ho ha (base_of hn _) ga hl
  rcases orE_inv h with h | h
  · exact noSome h
  · obtain ⟨rfl, rfl⟩ := if1_inv h
    exact snd_index ho ha (base_of hn _) ga hl
theorem cMeth_ok (hB : BOk B) (hT : TabOk B) {f : Expr → Option Ex} (hf : ∀ e c, f e = some c → Snd B cx e c) {o : Expr} {n : Str} {args : List Expr} {c : Ex} (h : cMeth cx f o n args = some c) {ap p : Pos} (hl : (ap.endLine == p.line) = true) : Snd B cx (.Call (.Attribute o n ap) args [] p) c := by
  match args, h with
  | [], h =>
    obtain ⟨hn, h2⟩ := gd_inv (show gd (noCall o) (both (m0 n) (f o) .un) = some c from h)
    obtain ⟨u, o', h3, h4, rfl⟩ := both_inv h2
    exact m0_ok h3 (hf _ _ h4) hn hl
  | a :: r, h =>
    obtain ⟨k, h2⟩ := gd_inv h
    obtain ⟨k0, k1⟩ := and_inv k
    obtain rfl := isEmpty_inv k0
    have ga := good_of k1
    rcases orE_inv h2 with h3 | h3
    · obtain ⟨e, h4⟩ := gd_inv h3
      obtain rfl := of_decide_eq_true e
      obtain ⟨t, h5, h6⟩ := bind_inv h4
      obtain rfl := vName_inv h5
      obtain ⟨k, h7⟩ := gd_inv h6
      obtain ⟨k2, k3⟩ := and_inv k
      obtain ⟨a', h8, rfl⟩ := map_inv h7
      have e := of_decide_eq_true k2
      rw [e] at k3 ⊢
      exact snd_getB3 hB hT (isGl_ok k3).1 (hf _ _ h8) ga.plain hl
    · obtain ⟨hn, h4⟩ := gd_inv h3
      obtain ⟨u, o', a', h5, h6, h7, rfl⟩ := three_inv h4
      exact m1_ok h5 (hf _ _ h6) (hf _ _ h7) hn ga.plain hl

theorem isInOp_inv {op : CmpOp} (h : isInOp op = true) : op = .In := by
  unfold isInOp at h
  split at h
  · rfl
  · first | exact noSome h | cases h
theorem cCmp_ok (hB : BOk B) (hT : TabOk B) {f : Expr → Option Ex} (hf : ∀ e c, f e = some c → Snd B cx e c) {a b : Expr} {op : CmpOp} {c : Ex} (h : cCmp cx f a op b = some c) (p : Pos) : Snd B cx (.Compare a [op] [b] p) c := by
  rcases orE_inv h with h2 | h2
  · obtain ⟨k, h3⟩ := gd_inv h2
    obtain rfl := isInOp_inv k
    obtain ⟨t, h4, h5⟩ := bind_inv h3
    obtain rfl := vName_inv h4
    obtain ⟨hg, h6⟩ := gd_inv h5
    obtain ⟨u, a', h7, h8, rfl⟩ := both_inv h6
    rcases orE_inv h7 with h9 | h9
    · obtain ⟨e, rfl⟩ := if1_inv h9
      rw [e] at hg ⊢
      exact snd_inB1 hB hT (isGl_ok hg).1 (hf _ _ h8) _ p
    · obtain ⟨e, rfl⟩ := if1_inv h9
      rw [e] at hg ⊢
      exact snd_inTok hB hT (isGl_ok hg).1 (hf _ _ h8) _ p
  · obtain ⟨hb, h3⟩ := gd_inv h2
    obtain ⟨o, a', b', h4, h5, h6, rfl⟩ := three_inv h3
    exact snd_cmp (hf _ _ h5) (hf _ _ h6) (cop_ok h4) ((good_of hb).mark op) p

theorem cSlice_ok {f : Expr → Option Ex} (hf : ∀ e c, f e = some c → Snd B cx e c) {a : Expr} {lo hi : Option Expr} {c : Ex} (ha : isName a = true) (h : cSlice f a lo hi = some c) (q p : Pos) : Snd B cx (.Subscript a (.Slice lo hi none q) p) c := by
  unfold cSlice at h
  split at h
  · split at h
    · obtain ⟨a', l, hh, h1, h2, h3, rfl⟩ := three_inv h
      exact snd_slice (hf _ _ h1) (hf _ _ h2) (hf _ _ h3) (name_let ha) p _
    · obtain ⟨a', l, h1, h2, rfl⟩ := both_inv h
      exact snd_sliceF (hf _ _ h1) (hf _ _ h2) (name_let ha) p _
  · split at h
    · obtain ⟨a', l, h1, h2, rfl⟩ := both_inv h
      exact snd_sliceT (hf _ _ h1) (hf _ _ h2) (name_let ha) p _
    · first | exact noSome h | exact nomatch h
theorem cSub_ok (hB : BOk B) (hT : TabOk B) {f : Expr → Option Ex} (hf : ∀ e c, f e = some c → Snd B cx e c) {a i : Expr} {c : Ex} (h : cSub cx f a i = some c) (p : Pos) : Snd B cx (.Subscript a i p) c := by
  unfold cSub at h
  split at h
  · rename_i s hs
    obtain rfl := vSlice_inv hs
    obtain ⟨k, h2⟩ := gd_inv h
    obtain ⟨k1, k2⟩ := and_inv k
    obtain ⟨lo, hi, st, q⟩ := s
    cases st with
    | some _ => exact nomatch k2
    | none => exact cSlice_ok hf k1 h2 _ p
  · rcases orE_inv h with h2 | h2
    · obtain ⟨t, h3, h4⟩ := bind_inv h2
      obtain rfl := vName_inv h3
      obtain ⟨k, h5⟩ := gd_inv h4
      obtain ⟨k1, k2⟩ := and_inv k
      obtain ⟨k2, k3⟩ := and_inv k2
      obtain ⟨i', h6, rfl⟩ := map_inv h5
      have e := of_decide_eq_true k1
      rw [e] at k2 ⊢
      exact snd_tok hB hT (isGl_ok k2).1 (hf _ _ h6) (isSubs_ok k3) _ p
    rcases orE_inv h2 with h3 | h3
    · obtain ⟨d, h4, h5⟩ := bind_inv h3
      obtain rfl := vDict_inv h4
      obtain ⟨L, hL, h6⟩ := bind_inv h5
      obtain ⟨k, h7⟩ := gd_inv h6
      obtain ⟨k1, k2⟩ := and_inv k
      obtain ⟨k2, k3⟩ := and_inv k2
      obtain ⟨k3, k4⟩ := and_inv k3
      obtain ⟨i', h8, rfl⟩ := map_inv h7
      exact snd_dict hL (of_decide_eq_true k1) (of_decide_eq_true k2) (fun e => of_decide_eq_true k3 (by rw [e]; rfl)) (hf _ _ h8) (good_of k4).sub _ p
    · obtain ⟨hi, h4⟩ := gd_inv h3
      obtain ⟨a', i', h5, h6, rfl⟩ := both_inv h4
      exact snd_item (hf _ _ h5) (hf _ _ h6) (good_of hi).sub p
theorem isAdd_inv {op : Operator} (h : isAdd op = true) : op = .Add := by
  unfold isAdd at h
  split at h
  · rfl
  · first | exact noSome h | cases h
theorem cQuote_ok {a b : Expr} {op : Operator} {c : Ex} (h : cQuote cx a op b = some c) (p : Pos) : Snd B cx (.BinOp a op b p) c := by
  obtain ⟨k, h2⟩ := gd_inv h
  obtain rfl := isAdd_inv k
  obtain ⟨s, h3, h4⟩ := bind_inv h2
  obtain ⟨m, q, rfl⟩ := strText h3
  obtain ⟨⟨g, args, kws, cp⟩, h5, h6⟩ := bind_inv h4
  obtain rfl := vCall_inv h5
  obtain ⟨⟨o, nm, ap⟩, h7, h8⟩ := bind_inv h6
  obtain rfl := vAttr_inv h7
  obtain ⟨⟨x, xp⟩, h9, h10⟩ := bind_inv h8
  obtain rfl := vName_inv h9
  obtain ⟨⟨u, v⟩, h11, h12⟩ := bind_inv h10
  obtain rfl := two?_inv h11
  obtain ⟨k, h13⟩ := gd_inv h12
  obtain ⟨k1, k2⟩ := and_inv k
  obtain ⟨k2, k3⟩ := and_inv k2
  obtain ⟨k3, k4⟩ := and_inv k3
  obtain ⟨k4, k5⟩ := and_inv k4
  obtain ⟨k5, k6⟩ := and_inv k5
  obtain ⟨k6, k7⟩ := and_inv k6
  obtain ⟨i, hs, rfl⟩ := map_inv h13
  obtain ⟨m1, p1, e1⟩ := strText (of_decide_eq_true k2)
  obtain ⟨m2, p2, e2⟩ := strText (of_decide_eq_true k3)
  have e3 := of_decide_eq_true k1
  have e4 := isEmpty_inv k7
  dsimp only at e1 e2 e3 e4 hs ⊢
  rw [e1, e2, e3, e4]
  exact snd_quote hs (by simpa using k6) s.cps.toList (of_decide_eq_true k4) k5
theorem cUn_ok {f : Expr → Option Ex} (hf : ∀ e c, f e = some c → Snd B cx e c) {op : UnaryOp} {a : Expr} {c : Ex} (h : cUn f op a = some c) (p : Pos) : Snd B cx (.UnaryOp op a p) c := by
  unfold cUn at h
  split at h
  · obtain ⟨a', h1, rfl⟩ := map_inv h
    exact snd_not (hf _ _ h1) _
  · obtain ⟨a', h1, rfl⟩ := map_inv h
    exact snd_unop (hf _ _ h1) opU_neg _ (by decide)
  · first | exact noSome h | exact nomatch h
theorem cBool_ok {f : Expr → Option Ex} (hf : ∀ e c, f e = some c → Snd B cx e c) {op : BoolOp} {es : List Expr} {p : Pos} {c : Ex} (h : cBool f op es p = some c) : Snd B cx (.BoolOp op es p) c := by
  match es, op, h with
  | [], _, h => first | exact noSome h | exact nomatch h
  | [a], _, h => exact snd_boolOne (hf _ _ h) _
  | a :: b :: r, .And, h =>
    obtain ⟨a', b', h1, h2, rfl⟩ := both_inv (show both (f a) (f (.BoolOp .And (b :: r) p)) .and = some c from h)
    exact snd_and (hf _ _ h1) (hf _ _ h2)
  | a :: b :: r, .Or, h =>
    obtain ⟨a', b', h1, h2, rfl⟩ := both_inv (show both (f a) (f (.BoolOp .Or (b :: r) p)) .or = some c from h)
    exact snd_or (hf _ _ h1) (hf _ _ h2)
theorem cCmps_ok (hB : BOk B) (hT : TabOk B) {f : Expr → Option Ex} (hf : ∀ e c, f e = some c → Snd B cx e c) {a : Expr} {ops : List CmpOp} {bs : List Expr} {c : Ex} (h : cCmps cx f a ops bs = some c) (p : Pos) : Snd B cx (.Compare a ops bs p) c := by
  match ops, bs, h with
  | [], _, h => first | exact noSome h | exact nomatch h
  | _ :: _ :: _, _, h => first | exact noSome h | exact nomatch h
  | [_], [], h => first | exact noSome h | exact nomatch h
  | [op], b :: r, h =>
    obtain ⟨k, h2⟩ := gd_inv (show gd r.isEmpty (cCmp cx f a op b) = some c from h)
    obtain rfl := isEmpty_inv k
    exact cCmp_ok hB hT hf h2 p
theorem cCallE_ok (hB : BOk B) (hT : TabOk B) (hG : GlOk B G) {f : Expr → Option Ex} (hf : ∀ e c, f e = some c → Snd B cx e c) {g : Expr} {args : List Expr} {kws : List Keyword} {p : Pos} {c : Ex} (h : cCallE G cx f g args kws p = some c) : Snd B cx (.Call g args kws p) c := by
  obtain ⟨k, h2⟩ := gd_inv h
  obtain rfl := isEmpty_inv k
  rcases orE_inv h2 with h3 | h3
  · obtain ⟨t, h4, h5⟩ := bind_inv h3
    obtain rfl := vName_inv h4
    exact cCall_ok hB hG hf h5 _ _
  · obtain ⟨t, h4, h5⟩ := bind_inv h3
    obtain rfl := vAttr_inv h4
    obtain ⟨k, h6⟩ := gd_inv h5
    exact cMeth_ok hB hT hf h6 k
theorem compB_ok {scope : Scope} {x : Str} (h : compB cx scope x = true) : CompOk cx (cxOf cx scope x) scope x := (@of_decide_eq_true _ (decCompOk _ _ _ _) h).ok
theorem cLC_ok {f : Cx → Expr → Option Ex} (hf : ∀ cx e c, f cx e = some c → Snd B cx e c) {elt : Expr} {gens : List Comprehension} {scope : Scope} {c : Ex} (h : cLC f cx elt gens scope = some c) (p : Pos) : Snd B cx (.ListComp elt gens scope p) c := by
  match gens, h with
  | [], h => first | exact noSome h | exact nomatch h
  | ⟨target, iter, ifs, as⟩ :: r, h =>
    obtain ⟨k, h2⟩ := gd_inv h
    obtain ⟨k1, k2⟩ := and_inv k
    obtain rfl := isEmpty_inv k1
    have e := of_decide_eq_true k2
    dsimp only at e h2
    subst e
    obtain ⟨x, h3, h4⟩ := bind_inv h2
    obtain rfl := vName_inv h3
    obtain ⟨k, h5⟩ := gd_inv h4
    obtain ⟨k3, k4⟩ := and_inv k
    match ifs, h5 with
    | [], h5 =>
      obtain ⟨i', e', h6, h7, rfl⟩ := both_inv h5
      exact snd_comp (compB_ok k4) (hf _ _ _ h6) (good_of k3).fld (hf _ _ _ h7)
    | d :: r, h5 =>
      obtain ⟨k5, h6⟩ := gd_inv h5
      obtain rfl := isEmpty_inv k5
      obtain ⟨i', d', e', h7, h8, h9, rfl⟩ := three_inv h6
      exact snd_compIf (compB_ok k4) (hf _ _ _ h7) (good_of k3).fld (hf _ _ _ h8) (hf _ _ _ h9)
theorem cE_ok (hB : BOk B) (hT : TabOk B) (hG : GlOk B G) : ∀ (n : Nat) (cx : Cx) (e : Expr) (c : Ex), cE G n cx e = some c → Snd B cx e c
  | 0, _, _, _, h => by first | exact noSome h | exact nomatch h
  | n + 1, cx, e, c, h => by
    have ih := cE_ok hB hT hG n
    cases e
    case Constant k m p => exact cConst_ok h _ _
    case Name x p => exact cName_ok hB hG h _
    case BinOp a op b p =>
      rcases orE_inv (show orE (cQuote cx a op b) (three (bop op) (cE G n cx a) (cE G n cx b) .bin) = some c from h) with h2 | h2
      · exact cQuote_ok h2 _
      · obtain ⟨o, a', b', h3, h4, h5, rfl⟩ := three_inv h2
        exact snd_binop (ih _ _ _ h4) (ih _ _ _ h5) (bop_ok h3) _
    case UnaryOp op a p => exact cUn_ok (ih cx) h _
    case BoolOp op es p => exact cBool_ok (ih cx) h
    case IfExp t a b p =>
      obtain ⟨c', a', b', h1, h2, h3, rfl⟩ := three_inv (show three (cE G n cx t) (cE G n cx a) (cE G n cx b) .ite = some c from h)
      exact snd_ite (ih _ _ _ h1) (ih _ _ _ h2) (ih _ _ _ h3) _
    case Compare a ops bs p => exact cCmps_ok hB hT (ih cx) h _
    case Call g args kws p => exact cCallE_ok hB hT hG (ih cx) h
    case Subscript a i p => exact cSub_ok hB hT (ih cx) h _
    case List es p =>
      obtain ⟨cs, h1, rfl⟩ := map_inv (show (cList (cE G n cx) es).map .list = some c from h)
      exact snd_list (cList_ok (ih cx) h1) _
    case Tuple es k p =>
      obtain ⟨cs, h1, rfl⟩ := map_inv (show (cList (cE G n cx) es).map .tup = some c from h)
      exact snd_tup (cList_ok (ih cx) h1) _ _
    case ListComp elt gens scope p => exact cLC_ok ih h _
    all_goals first | exact noSome h | exact nomatch h
end

/-! statements -/
/-- does the list of a comprehension go to a name of its own line? -/
noncomputable def swB (cx : Cx) (t : Str) (tl : Nat) (scope : Scope) (vl : Nat) : Bool := cx.scope.names.lookup t == some .local && tl == vl && !(scope.names.any fun (n, k) => n == t && (k == .local || k == .cell))
theorem swB_ok {cx : Cx} (hf : cx.scope.kind = .function) {env : Env} (he : env.scope = cx.scope) {elt : Expr} {gens : List Comprehension} {scope : Scope} {pos q : Pos} {t : Str} {l : Nat} :
    swapsWith (.ListComp elt gens scope pos) (some (.Name t q)) l env = pure (swB cx t q.line scope pos.line) := by
  have h : env.kindOf t = cx.scope.names.lookup t := by show env.scope.names.lookup t = _; rw [he]
  have hb : (env.blockKind == ScopeKind.function) = true := by unfold Env.blockKind; rw [he, hf]; rfl
  unfold swapsWith swB
  simp only [h, hb, Bool.true_and]
  rfl
noncomputable def isComp : Expr → Bool
  | .ListComp .. | .SetComp .. | .DictComp .. => true
  | _ => false
theorem noComp_ok {e : Expr} (h : isComp e = false) (t : Option Expr) (l : Nat) (env : Env) : swapsWith e t l env = pure false := by
  cases e <;> first | rfl | cases h
theorem noComp_sole {e t : Expr} (h : isComp e = false) (l : Nat) (env : Env) : swapsWithSole [t] e l env = pure false := noComp_ok h _ _ _
noncomputable def vComp : Expr → Option (Expr × List Comprehension × Scope × Pos)
  | .ListComp a b c d => some (a, b, c, d)
  | _ => none
theorem vComp_inv {e : Expr} {r : Expr × List Comprehension × Scope × Pos} (h : vComp e = some r) : e = .ListComp r.1 r.2.1 r.2.2.1 r.2.2.2 := by
  cases e <;> first | (obtain rfl := Option.some.inj h; rfl) | exact noSome h | exact nomatch h
noncomputable def vSubs : Expr → Option (Expr × Expr × Pos)
  | .Subscript a b c => some (a, b, c)
  | _ => none
theorem vSubs_inv {e : Expr} {r : Expr × Expr × Pos} (h : vSubs e = some r) : e = .Subscript r.1 r.2.1 r.2.2 := by
  cases e <;> first | (obtain rfl := Option.some.inj h; rfl) | exact noSome h | exact nomatch h

noncomputable def cList' (f : Stmt → Option St) : List Stmt → Option Sts
  | [] => some .nil
  | s :: ss => both (f s) (cList' f ss) .cons
/-- a name bound -/
noncomputable def cSet (f : Cx → Expr → Option Ex) (cx : Cx) (x : Str × Pos) (e : Expr) (p : Pos) : Option St := (cx.slot.lookup x.1).bind fun i => match vComp e with
  | some k => match swB cx x.1 x.2.line k.2.2.1 k.2.2.2.line with
    | true => (cLC f cx k.1 k.2.1 k.2.2.1).map (.set i)
    | false => (f cx e).map (.set i)
  | none => gd (!isComp e) ((f cx e).map (.set i))
noncomputable def cAssign (f : Cx → Expr → Option Ex) (cx : Cx) (t : Expr) (e : Expr) (p : Pos) : Option St := orE ((vName t).bind fun x => cSet f cx x e p) (orE (
  none
  ) (
  (vSubs t).bind fun s => (vName s.1).bind fun x => gd (!isComp e && !(x.1 == ("__debug__" : Str))) (three (cx.slot.lookup x.1) (f cx s.2.1) (f cx e) .setItem)
  ))
noncomputable def cAug (f : Cx → Expr → Option Ex) (cx : Cx) (t : Expr) (e : Expr) : Option St := orE ((vName t).bind fun x => both (cx.slot.lookup x.1) (f cx e) (.aug · .add))
  ((vSubs t).bind fun s => (vName s.1).bind fun x => gd (isGood s.2.1 && !(x.1 == ("__debug__" : Str))) (three (cx.slot.lookup x.1) (f cx s.2.1) (f cx e) fun i k e => .augItem i k .add e))
noncomputable def one? {α : Type} (l : List α) : Option α := match l with
  | [] => none
  | a :: r => gd r.isEmpty (some a)
theorem one?_inv {α : Type} {l : List α} {a : α} (h : one? l = some a) : l = [a] := by
  cases l with
  | nil => first | exact noSome h | exact nomatch h
  | cons x l =>
    obtain ⟨h1, h2⟩ := gd_inv h
    obtain rfl := isEmpty_inv h1
    obtain rfl := Option.some.inj h2
    rfl
noncomputable def cS (f : Cx → Expr → Option Ex) (cx : Cx) : Nat → Stmt → Option St
  | 0, _ => none
  | n + 1, s => match s with
    | .Expr e _ => gd (!isComp e) ((f cx e).map .expr)
    | .Assign ts e p => (one? ts).bind fun t => cAssign f cx t e p
    | .AugAssign t op e _ => gd (isAdd op) (cAug f cx t e)
    | .If t a b _ => three (f cx t) (cList' (cS f cx n) a) (cList' (cS f cx n) b) .ite
    | .While t b o _ => gd o.isEmpty (both (f cx t) (cList' (cS f cx n) b) .while)
    | .For t e b o _ => gd (isGood e && o.isEmpty) ((vName t).bind fun x => three (cx.slot.lookup x.1) (f cx e) (cList' (cS f cx n) b) .forIn)
    | .Return (some e) _ => (f cx e).map .ret
    | .Break _ => some .brk
    | .Raise .. => some .fail
    | _ => none

section
variable {B : Base} {G : List (Str × Gl)} {cx : Cx}
theorem cList'_ok {f : Stmt → Option St} (hf : ∀ s c, f s = some c → SndS B cx s c) : ∀ {ss : List Stmt} {cs : Sts}, cList' f ss = some cs → SndSs B cx ss cs
  | [], cs, h => by obtain rfl := Option.some.inj h; exact sndSs_nil
  | s :: ss, cs, h => by
    obtain ⟨c, cs', h1, h2, rfl⟩ := both_inv h
    exact sndSs_cons (hf _ _ h1) (cList'_ok hf h2)
theorem not_inv {b : Bool} (h : (!b) = true) : b = false := by
  cases b with
  | true => first | exact noSome h | exact nomatch h
  | false => rfl
theorem cSet_ok {f : Cx → Expr → Option Ex} (hf : ∀ cx e c, f cx e = some c → Snd B cx e c) (hk : cx.scope.kind = .function) (hok : CxOk cx) {x : Str × Pos} {e : Expr} {p : Pos} {c : St} (h : cSet f cx x e p = some c) (hp : ∀ k, vComp e = some k → True) : SndS B cx (.Assign [.Name x.1 x.2] e p) c := by
  obtain ⟨i, hx, h2⟩ := bind_inv h
  split at h2
  · rename_i k hv
    obtain rfl := vComp_inv hv
    obtain ⟨elt, gens, scope, cp⟩ := k
    split at h2
    · rename_i hsw
      obtain ⟨c', h3, rfl⟩ := map_inv h2
      dsimp only at h3 hsw ⊢
      match gens, h3 with
      | [], h3 => first | exact noSome h3 | exact nomatch h3
      | ⟨target, iter, ifs, as⟩ :: r, h3 =>
        obtain ⟨k, h4⟩ := gd_inv h3
        obtain ⟨k1, k2⟩ := and_inv k
        obtain rfl := isEmpty_inv k1
        have e := of_decide_eq_true k2
        dsimp only at e h4
        subst e
        obtain ⟨y, h5, h6⟩ := bind_inv h4
        obtain rfl := vName_inv h5
        obtain ⟨k, h7⟩ := gd_inv h6
        obtain ⟨k3, k4⟩ := and_inv k
        match ifs, h7 with
        | [], h7 =>
          obtain ⟨i', e', h8, h9, rfl⟩ := both_inv h7
          exact @fun C A env ρ μ σ s X fl ρ' σ' h Q E hQ => sndS_comp (px := y.2) (py := x.2) (pos := cp) (spos := p) (compB_ok k4) hx (hf _ _ _ h8) (good_of k3).fld (hf _ _ _ h9) (fun env he => by rw [swB_ok hk he]; exact congrArg pure hsw) X h hQ
        | d :: r, h7 =>
          obtain ⟨k5, h8⟩ := gd_inv h7
          obtain rfl := isEmpty_inv k5
          obtain ⟨i', d', e', h9, h10, h11, rfl⟩ := three_inv h8
          exact @fun C A env ρ μ σ s X fl ρ' σ' h Q E hQ => sndS_compIf (px := y.2) (py := x.2) (pos := cp) (spos := p) (compB_ok k4) hx (hf _ _ _ h9) (good_of k3).fld (hf _ _ _ h10) (hf _ _ _ h11) (fun env he => by rw [swB_ok hk he]; exact congrArg pure hsw) X h hQ
    · rename_i hsw
      obtain ⟨e', h3, rfl⟩ := map_inv h2
      exact sndS_set hok hx (hf _ _ _ h3) _ _ fun env he => by rw [swB_ok hk he]; exact congrArg pure hsw
  · obtain ⟨hc, h3⟩ := gd_inv h2
    obtain ⟨e', h4, rfl⟩ := map_inv h3
    exact sndS_set hok hx (hf _ _ _ h4) _ _ fun env _ => noComp_ok (not_inv hc) _ _ _
theorem cAssign_ok {f : Cx → Expr → Option Ex} (hf : ∀ cx e c, f cx e = some c → Snd B cx e c) (hk : cx.scope.kind = .function) (hok : CxOk cx) {t : Expr} {e : Expr} {p : Pos} {c : St} (h : cAssign f cx t e p = some c) : SndS B cx (.Assign [t] e p) c := by
  rcases orE_inv h with h2 | h2
  · obtain ⟨x, h3, h4⟩ := bind_inv h2
    obtain rfl := vName_inv h3
    exact cSet_ok hf hk hok h4 fun _ _ => trivial
  rcases orE_inv h2 with h3 | h3
  · exact noSome h3
  · obtain ⟨s, h4, h5⟩ := bind_inv h3
    obtain rfl := vSubs_inv h4
    obtain ⟨x, h6, h7⟩ := bind_inv h5
    rw [vName_inv h6]
    obtain ⟨k, h8⟩ := gd_inv h7
    obtain ⟨k1, k2⟩ := and_inv k
    obtain ⟨i, k', e', h9, h10, h11, rfl⟩ := three_inv h8
    exact sndS_setItem h9 (not_inv k2) (hf _ _ _ h10) (hf _ _ _ h11) _ _ _ fun env _ => noComp_ok (not_inv k1) _ _ _
theorem cAug_ok {f : Cx → Expr → Option Ex} (hf : ∀ cx e c, f cx e = some c → Snd B cx e c) (hok : CxOk cx) {t : Expr} {e : Expr} {c : St} (h : cAug f cx t e = some c) (p : Pos) : SndS B cx (.AugAssign t .Add e p) c := by
  rcases orE_inv h with h2 | h2
  · obtain ⟨x, h3, h4⟩ := bind_inv h2
    obtain rfl := vName_inv h3
    obtain ⟨i, e', h5, h6, rfl⟩ := both_inv h4
    exact sndS_aug hok h5 (hf _ _ _ h6) aug_add _ _
  · obtain ⟨s, h4, h5⟩ := bind_inv h2
    obtain rfl := vSubs_inv h4
    obtain ⟨x, h6, h7⟩ := bind_inv h5
    rw [vName_inv h6]
    obtain ⟨k, h8⟩ := gd_inv h7
    obtain ⟨k1, k2⟩ := and_inv k
    obtain ⟨i, k', e', h9, h10, h11, rfl⟩ := three_inv h8
    exact sndS_augItem h9 (not_inv k2) (hf _ _ _ h10) (hf _ _ _ h11) _ _ _ (good_of k1).aug
theorem cS_ok {f : Cx → Expr → Option Ex} (hf : ∀ cx e c, f cx e = some c → Snd B cx e c) (hk : cx.scope.kind = .function) (hok : CxOk cx) : ∀ (n : Nat) (s : Stmt) (c : St), cS f cx n s = some c → SndS B cx s c
  | 0, _, _, h => by first | exact noSome h | exact nomatch h
  | n + 1, s, c, h => by
    have ih := cS_ok hf hk hok n
    cases s
    case Expr e p =>
      obtain ⟨hc, h2⟩ := gd_inv (show gd (!isComp e) ((f cx e).map .expr) = some c from h)
      obtain ⟨e', h3, rfl⟩ := map_inv h2
      exact sndS_expr (hf _ _ _ h3) p fun env _ => noComp_ok (not_inv hc) _ _ _
    case Assign ts e p =>
      obtain ⟨t, h2, h3⟩ := bind_inv (show ((one? ts).bind fun t => cAssign f cx t e p) = some c from h)
      obtain rfl := one?_inv h2
      exact cAssign_ok hf hk hok h3
    case AugAssign t op e p =>
      obtain ⟨k, h2⟩ := gd_inv (show gd (isAdd op) (cAug f cx t e) = some c from h)
      obtain rfl := isAdd_inv k
      exact cAug_ok hf hok h2 p
    case If t a b p =>
      obtain ⟨t', a', b', h1, h2, h3, rfl⟩ := three_inv (show three (f cx t) (cList' (cS f cx n) a) (cList' (cS f cx n) b) .ite = some c from h)
      exact sndS_if (hf _ _ _ h1) (cList'_ok ih h2) (cList'_ok ih h3) _
    case While t b o p =>
      obtain ⟨k, h2⟩ := gd_inv (show gd o.isEmpty (both (f cx t) (cList' (cS f cx n) b) .while) = some c from h)
      obtain rfl := isEmpty_inv k
      obtain ⟨t', b', h3, h4, rfl⟩ := both_inv h2
      exact sndS_while (hf _ _ _ h3) (cList'_ok ih h4) _
    case For t e b o p =>
      obtain ⟨k, h2⟩ := gd_inv (show gd (isGood e && o.isEmpty) ((vName t).bind fun x => three (cx.slot.lookup x.1) (f cx e) (cList' (cS f cx n) b) .forIn) = some c from h)
      obtain ⟨k1, k2⟩ := and_inv k
      obtain rfl := isEmpty_inv k2
      obtain ⟨x, h3, h4⟩ := bind_inv h2
      obtain rfl := vName_inv h3
      obtain ⟨i, e', b', h5, h6, h7, rfl⟩ := three_inv h4
      exact sndS_for hok h5 (hf _ _ _ h6) (good_of k1).fld (cList'_ok ih h7) _ _
    case Return v p =>
      cases v with
      | none => first | exact noSome h | exact nomatch h
      | some e =>
        obtain ⟨e', h1, rfl⟩ := map_inv (show (f cx e).map .ret = some c from h)
        exact sndS_ret (hf _ _ _ h1) _
    case Break p =>
      obtain rfl := Option.some.inj h
      exact sndS_brk _
    case Raise =>
      obtain rfl := Option.some.inj h
      exact sndS_fail _
    all_goals first | exact noSome h | exact nomatch h
end
end Mine
end

section
open PySem PySem.W PyProof.Rows PySem.Calls PySem.SeqAt
set_option Elab.async false
set_option linter.unusedVariables false
namespace Mine

noncomputable def ownNames (ps : List Str) (scope : Scope) : List Str := ps ++ (scope.names.filter fun p => (p.2 == .local || p.2 == .cell) && !ps.contains p.1).map (·.1)
noncomputable def cxF (ps : List Str) (scope : Scope) : Cx := { scope, slot := (ownNames ps scope).zipIdx, n := (ownNames ps scope).length }
noncomputable def psOf (fd : FuncData) : List Str := fd.params.args.map (·.arg)
noncomputable def cFn (G : List (Str × Gl)) (fd : FuncData) : Option Fn := match fd.body with
  | .stmts body => (cList' (cS (cE G 40) (cxF (psOf fd) fd.scope) 40) body).map fun b => ⟨(psOf fd).length, (cxF (psOf fd) fd.scope).n, b⟩
  | _ => none
noncomputable def FdP (fd : FuncData) : Prop := fd.scope.isCoroutine = false ∧ fd.scope.isGenerator = false ∧ fd.scope.kind = .function ∧ (psOf fd).Nodup ∧
  (∀ i (h : i < (psOf fd).length), (cxF (psOf fd) fd.scope).slot.lookup (psOf fd)[i] = some i) ∧ (psOf fd).length ≤ (cxF (psOf fd) fd.scope).n ∧ CxOkP (cxF (psOf fd) fd.scope) ∧ (fd.scope.names.map (·.1)).Nodup
noncomputable def decFdP (fd : FuncData) : Decidable (FdP fd) := by
  have := decCxOk (cxF (psOf fd) fd.scope)
  unfold FdP; infer_instance

theorem fnOk_of {B : Base} {G : List (Str × Gl)} (hB : BOk B) (hT : TabOk B) (hG : GlOk B G) {fd : FuncData} {a : Addr} {fn : Fn} (hobj : ∃ o, B.h₀.get? a = some o ∧ o.data = .func fd) (hcode : B.h₀.CodeRec fd.code fd.qualname)
    (hclo : fd.closure = []) (hgl : fd.globals = mainGlobals) (hbi : fd.builtins = builtinsNs) (hfn : cFn G fd = some fn) (hP : FdP fd) (hbind : ∀ vals : List Value, vals.length = (psOf fd).length → bindArgs fd ⟨vals, []⟩ = pure ((psOf fd).zip vals)) :
    ∃ fd cx ps body, FnOk B fd a cx ps fn body := by
  unfold cFn at hfn
  split at hfn
  · rename_i body hb
    rw [Option.map_eq_some_iff] at hfn
    obtain ⟨b, hb', rfl⟩ := hfn
    obtain ⟨p1, p2, p3, p4, p5, p6, p7, p8⟩ := hP
    exact ⟨fd, cxF (psOf fd) fd.scope, psOf fd, body, hobj, hcode, hb, hclo, hgl, hbi, p1, p2, p3, rfl, rfl, hbind, p4, p5, rfl, p6, p7.ok, p8, cList'_ok (cS_ok (cE_ok hB hT hG 40) p3 p7.ok 40) hb'⟩
  · first | exact noSome hfn | cases hfn
end Mine
end

section
open PySem PySem.W PyProof.Rows PySem.Calls PySem.SeqAt
set_option Elab.async false
set_option linter.unusedVariables false
namespace Mine
theorem bind_of1 {fd : FuncData} {p : Str} (hp : psOf fd = [p]) (h : ∀ v, bindArgs fd ⟨[v], []⟩ = pure [(p, v)]) (vals : List Value) (hl : vals.length = (psOf fd).length) : bindArgs fd ⟨vals, []⟩ = pure ((psOf fd).zip vals) := by
  rw [hp] at hl ⊢
  match vals, hl with
  | [v], _ => exact h v
theorem bind_of2 {fd : FuncData} {p q : Str} (hp : psOf fd = [p, q]) (h : ∀ v u, bindArgs fd ⟨[v, u], []⟩ = pure [(p, v), (q, u)]) (vals : List Value) (hl : vals.length = (psOf fd).length) : bindArgs fd ⟨vals, []⟩ = pure ((psOf fd).zip vals) := by
  rw [hp] at hl ⊢
  match vals, hl with
  | [v, u], _ => exact h v u
theorem bind_of3 {fd : FuncData} {p q r : Str} (hp : psOf fd = [p, q, r]) (h : ∀ v u x, bindArgs fd ⟨[v, u, x], []⟩ = pure [(p, v), (q, u), (r, x)]) (vals : List Value) (hl : vals.length = (psOf fd).length) : bindArgs fd ⟨vals, []⟩ = pure ((psOf fd).zip vals) := by
  rw [hp] at hl ⊢
  match vals, hl with
  | [v, u, x], _ => exact h v u x
noncomputable def b1L : List Int := [65024, 65025, 65026, 65027, 65028, 65029, 6150, 65030, 65031, 65032, 65033, 6155, 6156, 6157, 8203, 8204, 8205, 65034, 65035, 65036, 65037, 65038, 65039, 173, 847, 8288, 65279]
noncomputable def tokL : List (List Nat × Int) := [([33], 54), ([33, 61], 28), ([37], 24), ([37, 61], 40), ([38], 19), ([38, 61], 41), ([40], 7), ([41], 8), ([42], 16), ([42, 42], 35), ([42, 42, 61], 46), ([42, 61], 38), ([43], 14), ([43, 61], 36), ([44], 12), ([45], 15), ([45, 61], 37), ([45, 62], 51), ([46], 23), ([46, 46, 46], 52), ([47], 17), ([47, 47], 47), ([47, 47, 61], 48), ([47, 61], 39), ([58], 11), ([58, 61], 53), ([59], 13), ([60], 20), ([60, 60], 33), ([60, 60, 61], 44), ([60, 61], 29), ([61], 22), ([61, 61], 27), ([62], 21), ([62, 61], 30), ([62, 62], 34), ([62, 62, 61], 45), ([64], 49), ([64, 61], 50), ([91], 9), ([93], 10), ([94], 32), ([94, 61], 43), ([123], 25), ([124], 18), ([124, 61], 42), ([125], 26), ([126], 31)]
noncomputable def T0 (L : List (Int × Str)) : Tabs := ⟨b1L, L.map fun p => (p.1, p.2.cps.toList), tokL⟩

noncomputable def setEs (o : Obj) : List (Int × Value) := match o.data with
  | .set es _ _ => es.toList
  | _ => []
noncomputable def setFit (o : Obj) : Bool := match o.data with
  | .set es _ t => decide (es.size < scanBound) && t.fits es.size
  | _ => false
noncomputable def intKeys : List (Int × Value) → List (Int × Tok)
  | [] => []
  | (_, .int i t) :: r => (i, t) :: intKeys r
  | _ :: r => intKeys r
theorem set_ok {prog : Program} {w : World} {h : Heap} {a : Addr} {o : Obj} {L : List Int} (ho : h.get? a = some o) (he : o.ExactSet) (hs : setEs o = (intKeys (setEs o)).map fun p => (hashInt p.1, .int p.1 p.2)) (hL : (intKeys (setEs o)).map (·.1) = L) (hf : setFit o = true) :
    ∃ n, h.SetOf (intKind prog w) a (fun k => L.contains k) n := by
  obtain ⟨c, d, data, sl⟩ := o
  cases data <;> simp [setFit] at hf
  case set es ep t =>
    have e : setEs ⟨c, d, .set es ep t, sl⟩ = es.toList := rfl
    rw [e] at hs hL
    refine ⟨es.size, _, es, ep, t, ho, he, rfl, fun x hx => ?_, fun k => ?_, hf.1, hf.2, rfl⟩
    · rw [hs] at hx
      obtain ⟨p, hp, rfl⟩ := List.mem_map.mp hx
      exact ⟨⟨p.1, by simp [intKind, Value.isInt], rfl⟩, rfl⟩
    · constructor
      · intro hk
        have hm : k ∈ L := by simpa using hk
        rw [← hL] at hm
        obtain ⟨p, hp, rfl⟩ := List.mem_map.mp hm
        refine ⟨(hashInt p.1, .int p.1 p.2), ?_, by simp [intKind, Value.isInt]⟩
        rw [hs]
        exact List.mem_map.mpr ⟨p, hp, rfl⟩
      · rintro ⟨x, hx, hk⟩
        rw [hs] at hx
        obtain ⟨p, hp, rfl⟩ := List.mem_map.mp hx
        have : p.1 = k := by simpa [intKind, Value.isInt] using hk
        subst this
        rw [← hL]
        simpa using ⟨p.2, hp⟩

noncomputable def dictEs (o : Obj) : List DictEntry := match o.data with
  | .dict es _ => es.toList
  | _ => []
noncomputable def isDict (o : Obj) : Bool := match o.data with
  | .dict .. => true
  | _ => false
noncomputable def strKeys : List DictEntry → List (Str × Tok × Int × Tok)
  | [] => []
  | ⟨_, .str k t, .int i u⟩ :: r => (k, t, i, u) :: strKeys r
  | _ :: r => strKeys r
theorem tok_ok {prog : Program} {w : World} {h : Heap} {a : Addr} {o : Obj} {L : List (List Nat × Int)} (ho : h.get? a = some o) (he : o.ExactDict) (hd : isDict o = true) (hs : dictEs o = (strKeys (dictEs o)).map fun p => ⟨hashStr w p.1, .str p.1 p.2.1, .int p.2.2.1 p.2.2.2⟩)
    (hL : (strKeys (dictEs o)).map (fun p => (p.1.cps.toList, p.2.2.1)) = L) :
    ∃ f, h.MapOf (PySem.strKind prog w) a f ∧ ∀ k : List Nat, match L.lookup k with
      | none => f ⟨k.toArray⟩ = none
      | some i => ∃ t, f ⟨k.toArray⟩ = some (.int i t) := by
  obtain ⟨c, d, data, sl⟩ := o
  cases data <;> simp [isDict] at hd
  case dict es ep =>
    have e : dictEs ⟨c, d, .dict es ep, sl⟩ = es.toList := rfl
    rw [e] at hs hL
    refine ⟨fun k => findBy Value.isStrOf es k, ⟨_, es, ep, ho, he, rfl, fun x hx => ?_, fun _ => rfl⟩, fun k => ?_⟩
    · have hx' : x ∈ es.toList := Array.mem_toList_iff.mpr hx
      rw [hs] at hx'
      obtain ⟨p, hp, rfl⟩ := List.mem_map.mp hx'
      exact ⟨p.1, by simp [PySem.strKind, Value.isStrOf], rfl⟩
    · have hfind : findBy Value.isStrOf es ⟨k.toArray⟩ = (es.toList.find? fun e => Value.isStrOf ⟨k.toArray⟩ e.key).map (·.val) := by
        unfold findBy
        rw [← Array.find?_toList]
      dsimp only
      rw [hfind, hs, ← hL]
      generalize strKeys es.toList = K
      induction K with
      | nil => simp
      | cons p K ih =>
        obtain ⟨⟨⟨ps⟩⟩, t, i, u⟩ := p
        rw [List.map_cons, List.map_cons, List.lookup_cons, List.find?_cons]
        have hb : Value.isStrOf ⟨k.toArray⟩ (.str ⟨⟨ps⟩⟩ t) = (k == ps) := by
          have := strBeq ps k
          show ((⟨⟨ps⟩⟩ : Str) == ⟨k.toArray⟩) = _
          rw [show (⟨⟨ps⟩⟩ : Str) = ⟨ps.toArray⟩ from rfl, this]
          exact Bool.beq_comm ..
        simp only [hb]
        cases hk : k == ps with
        | true => simp
        | false => simpa using ih

theorem ers_find {es : List DictEntry} {L : List (Int × Str)} (h : ERs es L) (hl : L.all (fun p => decide (p.2.cps.size ≤ LIM)) = true) (k : Int) : match (L.map fun p => (p.1, p.2.cps.toList)).lookup k with
      | none => (es.find? fun e => Value.isInt k e.key).map (·.val) = none
      | some l => l.length ≤ LIM ∧ ∃ t, (es.find? fun e => Value.isInt k e.key).map (·.val) = some (.str ⟨l.toArray⟩ t) := by
  induction h with
  | nil => simp
  | @cons e x es xs he _ ih =>
    obtain ⟨t, u, rfl⟩ := he
    obtain ⟨i, ⟨⟨s⟩⟩⟩ := x
    rw [List.all_cons, Bool.and_eq_true] at hl
    rw [List.map_cons, List.lookup_cons, List.find?_cons]
    have hb : Value.isInt k (.int i t) = (k == i) := by
      show (i == k) = _
      exact Bool.beq_comm ..
    simp only [hb]
    cases hk : k == i with
    | true => exact ⟨by simpa using hl.1, u, rfl⟩
    | false => exact ih hl.2
theorem b3_ok {prog : Program} {w : World} {h : Heap} {a : Addr} {o : Obj} {L : List (Int × Str)} (ho : h.get? a = some o) (hD : DObj o L) (hl : L.all (fun p => decide (p.2.cps.size ≤ LIM)) = true) :
    ∃ f, h.MapOf (intKind prog w) a f ∧ ∀ k : Int, match (L.map fun p => (p.1, p.2.cps.toList)).lookup k with
      | none => f k = none
      | some l => l.length ≤ LIM ∧ ∃ t, f k = some (.str ⟨l.toArray⟩ t) := by
  obtain ⟨es, ep, rfl, hE⟩ := hD
  refine ⟨fun k => findBy Value.isInt es k, ⟨_, es, ep, ho, ⟨rfl, rfl, rfl⟩, rfl, fun x hx => ?_, fun _ => rfl⟩, fun k => ?_⟩
  · obtain ⟨p, _, t, u, rfl⟩ := hE.mem (Array.mem_toList_iff.mpr hx)
    exact ⟨p.1, by simp [intKind, Value.isInt], rfl⟩
  · have hfind : findBy Value.isInt es k = (es.toList.find? fun e => Value.isInt k e.key).map (·.val) := by
      unfold findBy
      rw [← Array.find?_toList]
    dsimp only
    rw [hfind]
    exact ers_find hE hl k

noncomputable def bnames : List Str := ["len", "ord", "chr", "range", "list", "min", "isinstance", "tuple", "sum", "sorted"]
/-- do the world's names say what the table says? -/
noncomputable def glB (G : List (Str × Gl)) (es : Array DictEntry) (addrs : List Addr) : Bool := G.all fun p => match p.2, nsFind es p.1 with
  | .int i, some (.int j _) => i == j
  | .fn f, some (.ref a) => addrs[f]? == some a
  | _, _ => false
theorem gl_of {B : Base} {G : List (Str × Gl)} {es : Array DictEntry} {addrs : List Addr} (hm : ∀ n, B.mg n = nsFind es n) (hat : B.at' = fun f => addrs[f]?) (hG : glB G es addrs = true) (hb : bnames.all (fun n => (nsFind es n).isNone) = true)
    (ho : ∀ (f : Nat) (a : Addr), addrs[f]? = some a → ∃ o fd, B.h₀.get? a = some o ∧ o.data = .func fd) : GlOk B G := by
  have key : ∀ n g, G.lookup n = some g → (match g, nsFind es n with
    | .int i, some (.int j _) => i == j
    | .fn f, some (.ref a) => addrs[f]? == some a
    | _, _ => false) = true := fun n g h => List.all_eq_true.mp hG (n, g) (mem_of_lookup h)
  refine ⟨fun n i h => ?_, fun n f h => ?_, fun n hn _ => ?_⟩
  · have := key n _ h
    rw [hm]
    split at this
    · rename_i i' j t e1 e2
      cases e1
      have : i = j := by simpa using this
      subst this
      exact ⟨t, e2⟩
    · rename_i f a e1 e2; cases e1
    · cases this
  · have := key n _ h
    rw [hm]
    split at this
    · rename_i i' j t e1 e2; cases e1
    · rename_i f' a e1 e2
      cases e1
      have ha : addrs[f]? = some a := by simpa using this
      obtain ⟨o, fd, h1, h2⟩ := ho _ _ ha
      exact ⟨a, o, fd, e2, by rw [hat]; exact ha, h1, h2⟩
    · cases this
  · rw [hm]
    have := List.all_eq_true.mp hb n hn
    simpa using this
noncomputable def codeB (o : Option Obj) (q : Str) : Bool := match o with
  | some o => match o.data with
    | .fields vs => match (vs[1]? : Option Value) with
      | some (Value.str x _) => x == q
      | _ => false
    | _ => false
  | none => false
theorem codeB_ok {h h' : Heap} {c : Addr} {q : Str} (hc : codeB (h.get? c) q = true) (hy : ∀ b o, h.get? b = some o → h'.get? b = some o) : h'.CodeRec (.ref c) q := by
  unfold codeB at hc
  split at hc
  · rename_i o ho
    split at hc
    · rename_i vs hd
      split at hc
      · rename_i x t hx
        have : x = q := by simpa using hc
        subst this
        exact ⟨c, o, vs, t, rfl, hy _ _ ho, hd, hx⟩
      · first | exact noSome hc | cases hc
    · first | exact noSome hc | cases hc
  · first | exact noSome hc | cases hc
end Mine
end

section
set_option Elab.async false
set_option linter.unusedVariables false
set_option linter.unusedSimpArgs false
namespace Mine
section
variable {σ : Store} {n : Nat} {xs : List V}
theorem uLst_of {f : Nat → List V → Option (V × Store)} (h : σ[n]? = some xs) : uLst σ f (.lst n) = f n xs := by rw [uLst_lst, h]
theorem evB_join {sep : List Nat} (h : σ[n]? = some xs) (h1 : xs.all isStr = true) (h2 : ((xs.map strOf).map List.length).sum + xs.length * sep.length ≤ LIM) : evB .join (.str sep) (.lst n) σ = some (.str (joinL sep (xs.map strOf)), σ) := by
  refine Eq.trans (b := orE none (uLst σ (fun _ xs => if xs.all isStr ∧ ((xs.map strOf).map List.length).sum + xs.length * sep.length ≤ LIM then some (.str (joinL sep (xs.map strOf)), σ) else none) (.lst n))) rfl ?_
  rw [orE_none, uLst_of h, if_pos ⟨h1, h2⟩]
theorem evB_append {v : V} (h : σ[n]? = some xs) (h1 : xs.length < LIM) : evB .append (.lst n) v σ = some (.none, σ.set n (xs ++ [v])) := by
  refine Eq.trans (b := uLst σ (fun n xs => if xs.length < LIM then some (.none, σ.set n (xs ++ [v])) else none) (.lst n)) rfl ?_
  rw [uLst_of h, if_pos h1]
theorem inFlat_str (x : List Nat) : ∀ N : List (List Nat), inFlat (.str x) (N.map V.str) = some (decide (x ∈ N))
  | [] => rfl
  | y :: N => by
    have ih := inFlat_str x N
    rw [List.map_cons, inFlat, flat1_str, ih]
    simp only [Option.map_some, List.mem_cons]
    congr 1
    rw [Bool.eq_iff_iff, Bool.or_eq_true, beq_iff_eq, decide_eq_true_iff, decide_eq_true_iff]
    exact ⟨fun h => h.elim (fun e => .inl e.symm) .inr, fun h => h.elim (fun e => .inl e.symm) .inr⟩
theorem inFlat_nat (x : Nat) : ∀ N : List Nat, inFlat (.int (x : Int)) (N.map fun k : Nat => V.int k) = some (decide (x ∈ N))
  | [] => rfl
  | y :: N => by
    have ih := inFlat_nat x N
    rw [List.map_cons, inFlat, flat1_int, ih]
    simp only [Option.map_some, List.mem_cons]
    congr 1
    rw [Bool.eq_iff_iff, Bool.or_eq_true, beq_iff_eq, decide_eq_true_iff, decide_eq_true_iff]
    exact ⟨fun h => h.elim (fun e => .inl (Int.ofNat.inj e).symm) .inr, fun h => h.elim (fun e => .inl (congrArg Int.ofNat e.symm)) .inr⟩
theorem strs_map (N : List (List Nat)) : (N.map V.str).map strOf = N := by
  rw [List.map_map]
  exact List.map_id _
theorem strs_all (N : List (List Nat)) : (N.map V.str).all isStr = true := by
  rw [List.all_map]; exact List.all_eq_true.mpr fun _ _ => rfl
theorem evB_notin_str {N : List (List Nat)} {x : List Nat} (h : σ[n]? = some (N.map V.str)) : evB .notin (.str x) (.lst n) σ = some (.bool (!decide (x ∈ N)), σ) := by
  have e : inV σ (.str x) (.lst n) = some (decide (x ∈ N)) := by rw [inV_lst, h]; exact inFlat_str x N
  show (inV σ (.str x) (.lst n)).map (fun r => (V.bool (!r), σ)) = _
  rw [e]; rfl
theorem evB_inn_nat {N : List Nat} {x : Nat} (h : σ[n]? = some (N.map fun k : Nat => V.int k)) : evB .inn (.int (x : Int)) (.lst n) σ = some (.bool (decide (x ∈ N)), σ) := by
  have e : inV σ (.int (x : Int)) (.lst n) = some (decide (x ∈ N)) := by rw [inV_lst, h]; exact inFlat_nat x N
  show (inV σ (.int (x : Int)) (.lst n)).map (fun r => (V.bool r, σ)) = _
  rw [e]; rfl
theorem evB_index {N : List (List Nat)} {x : List Nat} (h : σ[n]? = some (N.map V.str)) (hx : x ∈ N) : evB .index (.lst n) (.str x) σ = some (.int (N.idxOf x : Nat), σ) := by
  refine Eq.trans (b := uLst σ (fun _ xs => if xs.all isStr ∧ (xs.map strOf).idxOf x < xs.length then some (.int ((xs.map strOf).idxOf x), σ) else none) (.lst n)) rfl ?_
  have hlt : N.idxOf x < N.length := List.idxOf_lt_length_iff.mpr hx
  rw [uLst_of h, if_pos ⟨strs_all N, by rw [strs_map, List.length_map]; exact hlt⟩, strs_map]
theorem evU_len_lst {T : Tabs} (h : σ[n]? = some xs) : evU T .len (.lst n) σ = some (.int xs.length, σ) := by
  show uLst σ (fun _ xs => some (.int xs.length, σ)) (.lst n) = _
  rw [uLst_of h]
theorem evU_list {T : Tabs} (h : σ[n]? = some xs) : evU T .list (.lst n) σ = some (.lst σ.length, σ ++ [xs]) := by
  show uLst σ (fun _ xs => some (.lst σ.length, σ ++ [xs])) (.lst n) = _
  rw [uLst_of h]
theorem evB_item_lst {k : Nat} {v : V} {i : Int} (h : σ[n]? = some xs) (h1 : place i xs.length = some k) (h2 : xs[k]? = some v) : evB .item (.lst n) (.int i) σ = some (v, σ) := by
  show uLst σ (fun _ xs => itemOf xs i id σ) (.lst n) = _
  rw [uLst_of h]
  simp only [itemOf, h1, h2, id]
theorem evB_item_str {l : List Nat} {k c : Nat} {i : Int} (h1 : place i l.length = some k) (h2 : l[k]? = some c) : evB .item (.str l) (.int i) σ = some (.str [c], σ) := by
  show itemOf l i _ σ = _
  simp only [itemOf, h1, h2]
theorem evB_item_tup {l : List V} {k : Nat} {v : V} {i : Int} (h1 : place i l.length = some k) (h2 : l[k]? = some v) : evB .item (.tup l) (.int i) σ = some (v, σ) := by
  show itemOf l i _ σ = _
  simp only [itemOf, h1, h2, id]
theorem evB_item_ro {l : List Int} {k : Nat} {v : Int} {i : Int} (h1 : place i l.length = some k) (h2 : l[k]? = some v) : evB .item (.ro l) (.int i) σ = some (.int v, σ) := by
  show itemOf l i _ σ = _
  simp only [itemOf, h1, h2]
theorem evB_sliceF_lst {a : Int} (h : σ[n]? = some xs) : evB .sliceF (.lst n) (.int a) σ = some (.lst σ.length, σ ++ [cut xs (clip a xs.length) xs.length]) := by
  show uLst σ (fun _ xs => some (.lst σ.length, σ ++ [cut xs (clip a xs.length) xs.length])) (.lst n) = _
  rw [uLst_of h]
theorem evB_sliceT_lst {b : Int} (h : σ[n]? = some xs) : evB .sliceT (.lst n) (.int b) σ = some (.lst σ.length, σ ++ [cut xs 0 (clip b xs.length)]) := by
  show uLst σ (fun _ xs => some (.lst σ.length, σ ++ [cut xs 0 (clip b xs.length)])) (.lst n) = _
  rw [uLst_of h]
theorem evB_sliceF_str {l : List Nat} {a : Int} : evB .sliceF (.str l) (.int a) σ = some (.str (cut l (clip a l.length) l.length), σ) := rfl
theorem evB_sliceT_str {l : List Nat} {b : Int} : evB .sliceT (.str l) (.int b) σ = some (.str (cut l 0 (clip b l.length)), σ) := rfl
theorem evB_add_str {a b : List Nat} (h : a.length + b.length ≤ LIM) : evB .add (.str a) (.str b) σ = some (.str (a ++ b), σ) := by
  refine Eq.trans (b := orE none (orE (if a.length + b.length ≤ LIM then some (.str (a ++ b), σ) else none) none)) rfl ?_
  rw [if_pos h]; rfl
theorem evAug_str {a b : List Nat} (h : a.length + b.length ≤ LIM) : evAug .add (.str a) (.str b) σ = some (.str (a ++ b), σ) := by
  refine Eq.trans (b := orE none (if a.length + b.length ≤ LIM then some (.str (a ++ b), σ) else none)) rfl ?_
  rw [if_pos h]; rfl
theorem evB_add_lst {m : Nat} {ys : List V} (h : σ[n]? = some xs) (h' : σ[m]? = some ys) (hl : xs.length + ys.length ≤ LIM) : evB .add (.lst n) (.lst m) σ = some (.lst σ.length, σ ++ [xs ++ ys]) := by
  refine Eq.trans (b := orE none (orE none (uLst σ (fun _ xs => uLst σ (fun _ ys => if xs.length + ys.length ≤ LIM then some (.lst σ.length, σ ++ [xs ++ ys]) else none) (.lst m)) (.lst n)))) rfl ?_
  rw [orE_none, orE_none, uLst_of h, uLst_of h', if_pos hl]
theorem evB_mod {a b : Int} (h : b ≠ 0) : evB .mod (.int a) (.int b) σ = some (.int (a.fmod b), σ) := by
  show (if b ≠ 0 then _ else _) = _
  rw [if_pos h]
theorem evB_fdiv {a b : Int} (h : b ≠ 0 ∧ b.natAbs < 1000000000) : evB .fdiv (.int a) (.int b) σ = some (.int (a.fdiv b), σ) := by
  show (if b ≠ 0 ∧ b.natAbs < 1000000000 then _ else _) = _
  rw [if_pos h]
theorem evU_range {T : Tabs} {k : Nat} (h : k ≤ 1000000) : evU T .range (.int (k : Int)) σ = some (.rng 0 1 k, σ) := by
  have hc : (-1000000 : Int) ≤ (k : Int) ∧ (k : Int) ≤ 1000000 := ⟨by (first | lia | omega), by (first | lia | omega)⟩
  show (if (-1000000 : Int) ≤ (k : Int) ∧ (k : Int) ≤ 1000000 then some (V.rng 0 1 (k : Int).toNat, σ) else none) = _
  rw [if_pos hc, Int.toNat_natCast]
theorem evU_chrN {T : Tabs} {k : Nat} (h : k < 1114112) : evU T .chr (.int (k : Int)) σ = some (.str [k], σ) := by
  have hc : (0 : Int) ≤ (k : Int) ∧ (k : Int) < 1114112 := ⟨Int.natCast_nonneg k, by (first | lia | omega)⟩
  have e : ∀ i : Int, 0 ≤ i ∧ i < 1114112 → evU T .chr (.int i) σ = some (.str [i.toNat], σ) := fun i h => by
    unfold evU
    dsimp only
    rw [uInt_int, if_pos h]
  rw [e _ hc, Int.toNat_natCast]
theorem ev_un2 {T : Tabs} {C : Calls} {ρ : REnv} {σ σ₁ : Store} {o : Uop} {a : Ex} {x : V} (h1 : ev T C ρ σ a = some (x, σ₁)) : ev T C ρ σ (.un o a) = evU T o x σ₁ := by
  rw [ev, h1]
theorem ev_bin2 {T : Tabs} {C : Calls} {ρ : REnv} {σ σ₁ σ₂ : Store} {o : Bop} {a b : Ex} {x y : V} (h1 : ev T C ρ σ a = some (x, σ₁)) (h2 : ev T C ρ σ₁ b = some (y, σ₂)) : ev T C ρ σ (.bin o a b) = evB o x y σ₂ := by
  rw [ev, h1]; simp only [h2]
theorem natmod (a b : Nat) : ((a : Int)).fmod (b : Int) = ((a % b : Nat) : Int) := by
  rw [Int.fmod_eq_emod_of_nonneg _ (Int.natCast_nonneg b)]; rfl
theorem natdiv (a b : Nat) : ((a : Int)).fdiv (b : Int) = ((a / b : Nat) : Int) := by
  rw [Int.fdiv_eq_ediv_of_nonneg _ (Int.natCast_nonneg b)]; rfl
theorem evB_modN (a b : Nat) (h : 0 < b) : evB .mod (.int (a : Int)) (.int (b : Int)) σ = some (.int ((a % b : Nat) : Int), σ) := by
  rw [evB_mod (by (first | lia | omega)), natmod]
theorem evB_fdivN (a b : Nat) (h : 0 < b) (h2 : b < 1000000000) : evB .fdiv (.int (a : Int)) (.int (b : Int)) σ = some (.int ((a / b : Nat) : Int), σ) := by
  rw [evB_fdiv ⟨by (first | lia | omega), by (first | lia | omega)⟩, natdiv]
theorem evB_addN (a b : Nat) : evB .add (.int (a : Int)) (.int (b : Int)) σ = some (.int ((a + b : Nat) : Int), σ) := by
  show some (V.int ((a : Int) + (b : Int)), σ) = _
  rw [Int.natCast_add]
theorem place_nat' {k n : Nat} (h : k < n) : place (k : Int) n = some k := by
  unfold place; rw [if_pos (Int.natCast_nonneg k), if_pos (by simpa using h)]; simp
end
/-- turns over known items, none of which breaks off -/
theorem exLoop_fix {xs : List V} {f : V → REnv → Store → Option (Fl × REnv × Store)} (I : Nat → REnv → Store → Prop)
    (step : ∀ (j : Nat) (x : V) (ρ : REnv) (σ : Store), xs[j]? = some x → I j ρ σ → ∃ ρ' σ', f x ρ σ = some (.next, ρ', σ') ∧ I (j + 1) ρ' σ') :
    ∀ (m j : Nat) (ρ : REnv) (σ : Store), j + m = xs.length → I j ρ σ → ∃ ρ' σ', exLoop (.fix xs) f (m + 1) j ρ σ = some (.next, ρ', σ') ∧ I xs.length ρ' σ'
  | 0, j, ρ, σ, hj, h => by
    have e : j = xs.length := by (first | lia | omega)
    subst e
    exact ⟨ρ, σ, by simp [exLoop, Src.get], h⟩
  | m + 1, j, ρ, σ, hj, h => by
    have hx : xs[j]? = some (xs[j]'(by (first | lia | omega))) := List.getElem?_eq_getElem _
    obtain ⟨ρ₁, σ₁, h1, h2⟩ := step j _ ρ σ hx h
    obtain ⟨ρ₂, σ₂, h3, h4⟩ := exLoop_fix I step m (j + 1) ρ₁ σ₁ (by (first | lia | omega)) h2
    refine ⟨ρ₂, σ₂, ?_, h4⟩
    rw [exLoop]
    simp only [Src.get, hx, h1]
    exact h3
theorem for_range {n : Nat} {f : V → REnv → Store → Option (Fl × REnv × Store)} (I : Nat → REnv → Store → Prop) {ρ : REnv} {σ : Store} (h0 : I 0 ρ σ)
    (step : ∀ (j : Nat) (ρ : REnv) (σ : Store), j < n → I j ρ σ → ∃ ρ' σ', f (.int j) ρ σ = some (.next, ρ', σ') ∧ I (j + 1) ρ' σ') :
    ∃ ρ' σ', exLoop (.fix (rangeL 0 1 n)) f ((rangeL 0 1 n).length + 1) 0 ρ σ = some (.next, ρ', σ') ∧ I n ρ' σ' := by
  have hl : (rangeL 0 1 n).length = n := by simp [rangeL]
  obtain ⟨ρ', σ', h1, h2⟩ := exLoop_fix (xs := rangeL 0 1 n) I (fun j x ρ σ hx h => by
    have hj : j < n := by rw [← hl]; exact (List.getElem?_eq_some_iff.mp hx).1
    have : x = .int j := by simpa [rangeL, hj] using hx.symm
    subst this
    exact step j ρ σ hj h) n 0 ρ σ (by (first | lia | omega)) h0
  rw [hl] at h2 ⊢
  exact ⟨ρ', σ', h1, h2⟩
/-- a comprehension whose turns leave the store alone -/
theorem evLoop_fix {xs : List V} {f : V → Store → Option (Option V × Store)} {σ : Store} (g : Nat → V → Option V) (step : ∀ (j : Nat) (x : V), xs[j]? = some x → f x σ = some (g j x, σ)) :
    ∀ (m j : Nat) (acc : List V), j + m = xs.length → evLoop (.fix xs) f (m + 1) j acc σ = some (acc ++ ((xs.zipIdx).drop j).filterMap (fun p => g p.2 p.1), σ)
  | 0, j, acc, hj => by
    have hd : (xs.zipIdx).drop j = [] := by simp; (first | lia | omega)
    simp [evLoop, Src.get, show xs[j]? = none by simp; (first | lia | omega), hd]
  | m + 1, j, acc, hj => by
    have hlt : j < xs.length := by (first | lia | omega)
    have hx : xs[j]? = some xs[j] := List.getElem?_eq_getElem _
    have hd : (xs.zipIdx).drop j = (xs[j], j) :: (xs.zipIdx).drop (j + 1) := by
      rw [List.drop_eq_getElem_cons (by simpa using hlt)]
      simp
    rw [evLoop]
    simp only [Src.get, hx, step j _ hx, hd, List.filterMap_cons]
    cases hg : g j xs[j] with
    | none => simp only [hg]; exact evLoop_fix g step m (j + 1) acc (by (first | lia | omega))
    | some v => simp only [hg]; rw [evLoop_fix g step m (j + 1) _ (by (first | lia | omega))]; simp
theorem comp_range {n : Nat} {f : V → Store → Option (Option V × Store)} {σ : Store} (g : Nat → Option V) (step : ∀ j, j < n → f (.int j) σ = some (g j, σ)) :
    evLoop (.fix (rangeL 0 1 n)) f ((rangeL 0 1 n).length + 1) 0 [] σ = some ((List.range n).filterMap g, σ) := by
  have hl : (rangeL 0 1 n).length = n := by simp [rangeL]
  rw [evLoop_fix (fun j _ => g j) (fun j x hx => by
    have hj : j < n := by rw [← hl]; exact (List.getElem?_eq_some_iff.mp hx).1
    have : x = .int j := by simpa [rangeL, hj] using hx.symm
    subst this
    exact step j hj) _ 0 [] (by (first | lia | omega))]
  simp only [List.nil_append, List.drop_zero]
  congr 2
  have : ((rangeL 0 1 n).zipIdx).map (fun p => p.2) = List.range n := by
    rw [List.zipIdx_map_snd]; simp [hl, List.range_eq_range']
  rw [← this, List.filterMap_map]
  rfl
/-- a comprehension over a list of the store that stays as it is -/
theorem evLoop_live {n : Nat} {xs : List V} {f : V → Store → Option (Option V × Store)} {σ : Store} (hx : σ[n]? = some xs) (g : V → Option V) (step : ∀ x ∈ xs, f x σ = some (g x, σ)) :
    ∀ (m k j : Nat) (acc : List V), j + m = xs.length → m < k → evLoop (.live n) f k j acc σ = some (acc ++ (xs.drop j).filterMap g, σ)
  | m, 0, j, acc, hj, hk => absurd hk (Nat.not_lt_zero _)
  | 0, k + 1, j, acc, hj, hk => by
    have hd : xs.drop j = [] := List.drop_eq_nil_of_le (by (first | lia | omega))
    simp [evLoop, Src.get, hx, show xs[j]? = none by simp; (first | lia | omega), hd]
  | m + 1, k + 1, j, acc, hj, hk => by
    have hlt : j < xs.length := by (first | lia | omega)
    have hx' : xs[j]? = some xs[j] := List.getElem?_eq_getElem _
    rw [evLoop]
    simp only [Src.get, hx, hx', step _ (List.getElem_mem hlt), List.drop_eq_getElem_cons hlt, List.filterMap_cons]
    cases hg : g xs[j] with
    | none => simp only [hg]; exact evLoop_live hx g step m k (j + 1) acc (by (first | lia | omega)) (by (first | lia | omega))
    | some v => simp only [hg]; rw [evLoop_live hx g step m k (j + 1) _ (by (first | lia | omega)) (by (first | lia | omega))]; simp
theorem comp_live {n : Nat} {xs : List V} {f : V → Store → Option (Option V × Store)} {σ : Store} (hx : σ[n]? = some xs) (g : V → Option V) (step : ∀ x ∈ xs, f x σ = some (g x, σ)) (hl : xs.length < TURNS) :
    evLoop (.live n) f TURNS 0 [] σ = some (xs.filterMap g, σ) := by
  rw [evLoop_live hx g step xs.length TURNS 0 [] (by (first | lia | omega)) hl]; simp
/-- a comprehension over a text's signs -/
theorem evLoop_str {l : List Nat} {f : V → Store → Option (Option V × Store)} {σ : Store} (g : Nat → Option V) (step : ∀ c ∈ l, f (.str [c]) σ = some (g c, σ)) :
    ∀ (m k j : Nat) (acc : List V), j + m = l.length → m < k → evLoop (.fix (l.map fun c => V.str [c])) f k j acc σ = some (acc ++ (l.drop j).filterMap g, σ)
  | m, 0, j, acc, hj, hk => absurd hk (Nat.not_lt_zero _)
  | 0, k + 1, j, acc, hj, hk => by
    have hd : l.drop j = [] := List.drop_eq_nil_of_le (by (first | lia | omega))
    simp [evLoop, Src.get, show l[j]? = none by simp; (first | lia | omega), hd]
  | m + 1, k + 1, j, acc, hj, hk => by
    have hlt : j < l.length := by (first | lia | omega)
    have hx : (l.map fun c => V.str [c])[j]? = some (.str [l[j]]) := by rw [List.getElem?_map, List.getElem?_eq_getElem hlt]; rfl
    rw [evLoop]
    simp only [Src.get, hx, step _ (List.getElem_mem hlt), List.drop_eq_getElem_cons hlt, List.filterMap_cons]
    cases hg : g l[j] with
    | none => simp only [hg]; exact evLoop_str g step m k (j + 1) acc (by (first | lia | omega)) (by (first | lia | omega))
    | some v => simp only [hg]; rw [evLoop_str g step m k (j + 1) _ (by (first | lia | omega)) (by (first | lia | omega))]; simp
theorem comp_str {l : List Nat} {f : V → Store → Option (Option V × Store)} {σ : Store} (g : Nat → Option V) (step : ∀ c ∈ l, f (.str [c]) σ = some (g c, σ)) :
    evLoop (.fix (l.map fun c => V.str [c])) f (Src.fix (l.map fun c => V.str [c])).fuel 0 [] σ = some (l.filterMap g, σ) := by
  rw [evLoop_str g step l.length _ 0 [] (by (first | lia | omega)) (by simp [Src.fuel])]; simp
/-- turns over a list of the store that stays as it is -/
theorem for_live {n : Nat} {xs : List V} {f : V → REnv → Store → Option (Fl × REnv × Store)} (I : Nat → REnv → Store → Prop) (hI : ∀ j ρ σ, I j ρ σ → σ[n]? = some xs)
    (step : ∀ (j : Nat) (x : V) (ρ : REnv) (σ : Store), xs[j]? = some x → I j ρ σ → ∃ ρ' σ', f x ρ σ = some (.next, ρ', σ') ∧ I (j + 1) ρ' σ') :
    ∀ (m k j : Nat) (ρ : REnv) (σ : Store), j + m = xs.length → m < k → I j ρ σ → ∃ ρ' σ', exLoop (.live n) f k j ρ σ = some (.next, ρ', σ') ∧ I xs.length ρ' σ'
  | m, 0, j, ρ, σ, hj, hk, h => absurd hk (Nat.not_lt_zero _)
  | 0, k + 1, j, ρ, σ, hj, hk, h => by
    have e : j = xs.length := by (first | lia | omega)
    subst e
    exact ⟨ρ, σ, by simp [exLoop, Src.get, hI _ _ _ h], h⟩
  | m + 1, k + 1, j, ρ, σ, hj, hk, h => by
    have hx : xs[j]? = some (xs[j]'(by (first | lia | omega))) := List.getElem?_eq_getElem _
    obtain ⟨ρ₁, σ₁, h1, h2⟩ := step j _ ρ σ hx h
    obtain ⟨ρ₂, σ₂, h3, h4⟩ := for_live I hI step m k (j + 1) ρ₁ σ₁ (by (first | lia | omega)) (by (first | lia | omega)) h2
    refine ⟨ρ₂, σ₂, ?_, h4⟩
    rw [exLoop]
    simp only [Src.get, hI _ _ _ h, hx, h1]
    exact h3
theorem ev_comp_intro {T : Tabs} {C : Calls} {ρ : REnv} {σ σ₁ σ₂ : Store} {src elt : Ex} {xv : V} {Z : Src} {vs : List V} (h1 : ev T C ρ σ src = some (xv, σ₁)) (h2 : srcOf xv = some Z) (h3 : evLoop Z (cF T C ρ elt) Z.fuel 0 [] σ₁ = some (vs, σ₂)) (h4 : vs.length ≤ LIM) :
    ev T C ρ σ (.comp src elt) = some (.lst σ₂.length, σ₂ ++ [vs]) := by
  rw [ev, h1]
  simp only [h2]
  show (match evLoop Z (cF T C ρ elt) Z.fuel 0 [] σ₁ with | some (vs, σ'') => if vs.length ≤ LIM then some (V.lst σ''.length, σ'' ++ [vs]) else none | none => none) = _
  rw [h3]
  simp [h4]
theorem ev_compIf_intro {T : Tabs} {C : Calls} {ρ : REnv} {σ σ₁ σ₂ : Store} {src cond elt : Ex} {xv : V} {Z : Src} {vs : List V} (h1 : ev T C ρ σ src = some (xv, σ₁)) (h2 : srcOf xv = some Z) (h3 : evLoop Z (cIf T C ρ cond elt) Z.fuel 0 [] σ₁ = some (vs, σ₂)) (h4 : vs.length ≤ LIM) :
    ev T C ρ σ (.compIf src cond elt) = some (.lst σ₂.length, σ₂ ++ [vs]) := by
  rw [ev, h1]
  simp only [h2]
  show (match evLoop Z (cIf T C ρ cond elt) Z.fuel 0 [] σ₁ with | some (vs, σ'') => if vs.length ≤ LIM then some (V.lst σ''.length, σ'' ++ [vs]) else none | none => none) = _
  rw [h3]
  simp [h4]
theorem cIf_true {T : Tabs} {C : Calls} {ρ : REnv} {τ τ₁ τ₂ : Store} {cond elt : Ex} {v y : V} (h1 : ev T C (ρ ++ [some v]) τ cond = some (.bool true, τ₁)) (h2 : ev T C (ρ ++ [some v]) τ₁ elt = some (y, τ₂)) : cIf T C ρ cond elt v τ = some (some y, τ₂) := by
  unfold cIf; rw [h1]; simp [h2]
theorem cIf_false {T : Tabs} {C : Calls} {ρ : REnv} {τ τ₁ : Store} {cond elt : Ex} {v : V} (h1 : ev T C (ρ ++ [some v]) τ cond = some (.bool false, τ₁)) : cIf T C ρ cond elt v τ = some (none, τ₁) := by
  unfold cIf; rw [h1]
theorem cF_some {T : Tabs} {C : Calls} {ρ : REnv} {τ τ₁ : Store} {elt : Ex} {v y : V} (h1 : ev T C (ρ ++ [some v]) τ elt = some (y, τ₁)) : cF T C ρ elt v τ = some (some y, τ₁) := by
  unfold cF; rw [h1]
theorem exs_next {T : Tabs} {C : Calls} {ρ ρ' : REnv} {σ σ' : Store} {s : St} {r : Sts} (h : ex T C ρ σ s = some (.next, ρ', σ')) : exs T C ρ σ (.cons s r) = exs T C ρ' σ' r := by
  rw [exs, h]
theorem ex_set {T : Tabs} {C : Calls} {ρ : REnv} {σ σ' : Store} {i : Nat} {e : Ex} {v : V} (h : ev T C ρ σ e = some (v, σ')) : ex T C ρ σ (.set i e) = some (.next, ρ.set i (some v), σ') := by
  rw [ex, h]
theorem ex_for {T : Tabs} {C : Calls} {ρ ρ' : REnv} {σ σ₁ σ' : Store} {i : Nat} {e : Ex} {b : Sts} {x : V} {Z : Src} {fl : Fl} (h : ev T C ρ σ e = some (x, σ₁)) (hz : srcOf x = some Z) (hl : exLoop Z (fun v ρ σ => exs T C (ρ.set i (some v)) σ b) Z.fuel 0 ρ σ₁ = some (fl, ρ', σ')) : ex T C ρ σ (.forIn i e b) = some (fl, ρ', σ') := by
  rw [ex, h]
  simp only [hz]
  exact hl
theorem exs_ret {T : Tabs} {C : Calls} {ρ : REnv} {σ σ' : Store} {e : Ex} {r : Sts} {v : V} (h : ev T C ρ σ e = some (v, σ')) : exs T C ρ σ (.cons (.ret e) r) = some (.ret v, ρ, σ') := by
  rw [exs, ex, h]

/-! calls -/
section
variable {T : Tabs} {fns : List Fn} {d f : Nat} {args : List V} {fn : Fn} {v : V} {ρ' : REnv} {σ σ' : Store}
/-- a call without lists -/
theorem callD_own (hf : fns[f]? = some fn) (hl : args.length = fn.np) (hn : noLsts args = true) (h : exs T (callD T fns d) (args.map some ++ List.replicate (fn.nl - fn.np) none) [] fn.body = some (.ret v, ρ', σ')) :
    callD T fns (d + 1) f args σ = giveBack v σ' σ := by
  rw [callD]
  simp only [hf, if_pos hl, if_pos hn, h]
/-- a call that is handed a list -/
theorem callD_in (hf : fns[f]? = some fn) (hl : args.length = fn.np) (hn : noLsts args = false) (h : exs T (callD T fns d) (args.map some ++ List.replicate (fn.nl - fn.np) none) σ fn.body = some (.ret v, ρ', σ')) :
    callD T fns (d + 1) f args σ = some (v, σ') := by
  rw [callD]
  simp only [hf, if_pos hl, hn, if_neg Bool.false_ne_true, h]
theorem giveBack_lst {n : Nat} {xs : List V} (h : σ'[n]? = some xs) (hn : noLsts xs = true) : giveBack (.lst n) σ' σ = some (.lst σ.length, σ ++ [xs]) := by
  simp only [giveBack, h, if_pos hn]
theorem giveBack_tup {l : List V} (hn : noLst (.tup l) = true) : giveBack (.tup l) σ' σ = some (.tup l, σ) := by
  simp only [giveBack, if_pos hn]
@[simp] theorem giveBack_int (i : Int) : giveBack (.int i) σ' σ = some (.int i, σ) := rfl
@[simp] theorem giveBack_str (l : List Nat) : giveBack (.str l) σ' σ = some (.str l, σ) := rfl
@[simp] theorem giveBack_bool (b : Bool) : giveBack (.bool b) σ' σ = some (.bool b, σ) := rfl
@[simp] theorem giveBack_none : giveBack .none σ' σ = some (.none, σ) := rfl
end
theorem exs_ite {T : Tabs} {C : Calls} {ρ : REnv} {σ σ₁ : Store} {c : Ex} {a b : Sts} {t : Bool} (h : ev T C ρ σ c = some (.bool t, σ₁)) : ex T C ρ σ (.ite c a b) = exs T C ρ σ₁ (if t then a else b) := by
  rw [ex, h]; cases t <;> rfl
theorem exs_nil {T : Tabs} {C : Calls} {ρ : REnv} {σ : Store} : exs T C ρ σ .nil = some (.next, ρ, σ) := by rw [exs]
theorem exs_stop {T : Tabs} {C : Calls} {ρ ρ' : REnv} {σ σ' : Store} {s : St} {r : Sts} {v : V} (h : ex T C ρ σ s = some (.ret v, ρ', σ')) : exs T C ρ σ (.cons s r) = some (.ret v, ρ', σ') := by
  rw [exs, h]
theorem exs_brk {T : Tabs} {C : Calls} {ρ ρ' : REnv} {σ σ' : Store} {s : St} {r : Sts} (h : ex T C ρ σ s = some (.brk, ρ', σ')) : exs T C ρ σ (.cons s r) = some (.brk, ρ', σ') := by
  rw [exs, h]
theorem while_next {c : REnv → Store → Option (Bool × Store)} {f : REnv → Store → Option (Fl × REnv × Store)} {k : Nat} {ρ ρ' : REnv} {σ σ₁ σ' : Store} (hc : c ρ σ = some (true, σ₁)) (hf : f ρ σ₁ = some (.next, ρ', σ')) : exWhile c f (k + 1) ρ σ = exWhile c f k ρ' σ' := by
  rw [exWhile]; simp only [hc, hf]
theorem while_brk {c : REnv → Store → Option (Bool × Store)} {f : REnv → Store → Option (Fl × REnv × Store)} {k : Nat} {ρ ρ' : REnv} {σ σ₁ σ' : Store} (hc : c ρ σ = some (true, σ₁)) (hf : f ρ σ₁ = some (.brk, ρ', σ')) : exWhile c f (k + 1) ρ σ = some (.next, ρ', σ') := by
  rw [exWhile]; simp only [hc, hf]
theorem while_end {c : REnv → Store → Option (Bool × Store)} {f : REnv → Store → Option (Fl × REnv × Store)} {k : Nat} {ρ : REnv} {σ σ₁ : Store} (hc : c ρ σ = some (false, σ₁)) : exWhile c f (k + 1) ρ σ = some (.next, ρ, σ₁) := by
  rw [exWhile]; simp only [hc]
/-- a loop's condition and its body -/
noncomputable abbrev condF (T : Tabs) (C : Calls) (c : Ex) : REnv → Store → Option (Bool × Store) := fun ρ σ => match ev T C ρ σ c with | some (.bool x, σ') => some (x, σ') | _ => none
theorem cond_ok {T : Tabs} {C : Calls} {c : Ex} {ρ : REnv} {σ σ' : Store} {b : Bool} (h : ev T C ρ σ c = some (.bool b, σ')) : condF T C c ρ σ = some (b, σ') := by
  simp only [condF, h]
theorem ex_while {T : Tabs} {C : Calls} {c : Ex} {b : Sts} {ρ : REnv} {σ : Store} : ex T C ρ σ (.while c b) = exWhile (condF T C c) (fun ρ σ => exs T C ρ σ b) TURNS ρ σ := by
  rw [ex] <;> rfl
theorem ex_expr {T : Tabs} {C : Calls} {ρ : REnv} {σ σ' : Store} {e : Ex} {v : V} (h : ev T C ρ σ e = some (v, σ')) : ex T C ρ σ (.expr e) = some (.next, ρ, σ') := by
  rw [ex, h]
theorem ex_ret {T : Tabs} {C : Calls} {ρ : REnv} {σ σ' : Store} {e : Ex} {v : V} (h : ev T C ρ σ e = some (v, σ')) : ex T C ρ σ (.ret e) = some (.ret v, ρ, σ') := by
  rw [ex, h]
end Mine
end

section
set_option Elab.async false
namespace Mine
namespace W2
noncomputable def fn0 : Fn := ⟨1, 5, Sts.cons (St.ite (Ex.bin (Bop.ne) (Ex.bin (Bop.sliceT) (Ex.var 0) (Ex.int 3)) (Ex.str [50, 53, 55])) (Sts.cons (St.fail) (Sts.nil)) (Sts.nil)) (Sts.cons (St.ite (Ex.bin (Bop.ne) (Ex.slice (Ex.var 0) (Ex.int 3) (Ex.int 5)) (Ex.str [32, 34])) (Sts.cons (St.ret (Ex.str [])) (Sts.nil)) (Sts.nil)) (Sts.cons (St.set 1 (Ex.str [])) (Sts.cons (St.set 2 (Ex.int 5)) (Sts.cons (St.set 3 (Ex.un (Uop.len) (Ex.var 0))) (Sts.cons (St.while (Ex.bin (Bop.lt) (Ex.var 2) (Ex.var 3)) (Sts.cons (St.set 4 (Ex.bin (Bop.item) (Ex.var 0) (Ex.var 2))) (Sts.cons (St.set 2 (Ex.bin (Bop.add) (Ex.var 2) (Ex.int 1))) (Sts.cons (St.ite (Ex.bin (Bop.eq) (Ex.var 4) (Ex.str [34])) (Sts.cons (St.ite (Ex.or (Ex.bin (Bop.ge) (Ex.var 2) (Ex.var 3)) (Ex.bin (Bop.ne) (Ex.bin (Bop.item) (Ex.var 0) (Ex.var 2)) (Ex.str [34]))) (Sts.cons (St.brk) (Sts.nil)) (Sts.nil)) (Sts.cons (St.set 2 (Ex.bin (Bop.add) (Ex.var 2) (Ex.int 1))) (Sts.nil))) (Sts.nil)) (Sts.cons (St.set 1 (Ex.bin (Bop.add) (Ex.var 1) (Ex.var 4))) (Sts.nil)))))) (Sts.cons (St.ret (Ex.var 1)) (Sts.nil)))))))⟩
noncomputable def fn1 : Fn := ⟨1, 1, Sts.cons (St.ret (Ex.un (Uop.inB1) (Ex.un (Uop.ord) (Ex.var 0)))) (Sts.nil)⟩
noncomputable def fn2 : Fn := ⟨1, 2, Sts.cons (St.set 1 (Ex.un (Uop.getB3) (Ex.un (Uop.ord) (Ex.var 0)))) (Sts.cons (St.ite (Ex.bin (Bop.isnot) (Ex.var 1) (Ex.none)) (Sts.cons (St.ret (Ex.var 1)) (Sts.nil)) (Sts.nil)) (Sts.cons (St.ret (Ex.un (Uop.lower) (Ex.var 0))) (Sts.nil)))⟩
noncomputable def fn3 : Fn := ⟨1, 1, Sts.cons (St.ret (Ex.bin (Bop.lt) (Ex.var 0) (Ex.int 256))) (Sts.nil)⟩
noncomputable def fn4 : Fn := ⟨1, 1, Sts.cons (St.ret (Ex.bin (Bop.ge) (Ex.var 0) (Ex.int 256))) (Sts.nil)⟩
noncomputable def fn5 : Fn := ⟨1, 1, Sts.cons (St.ret (Ex.bin (Bop.eq) (Ex.var 0) (Ex.int 0))) (Sts.nil)⟩
noncomputable def fn6 : Fn := ⟨1, 3, Sts.cons (St.set 1 (Ex.list (Exs.cons (Ex.int 11) (Exs.cons (Ex.int 6) (Exs.cons (Ex.int 5) (Exs.cons (Ex.int 0) (Exs.cons (Ex.int 1) (Exs.cons (Ex.int 0) (Exs.cons (Ex.int 23) (Exs.cons (Ex.int 6) (Exs.cons (Ex.int 12) (Exs.cons (Ex.int 6) (Exs.cons (Ex.int 3) (Exs.nil)))))))))))))) (Sts.cons (St.forIn 2 (Ex.un (Uop.range) (Ex.bin (Bop.min) (Ex.int 60) (Ex.un (Uop.len) (Ex.var 0)))) (Sts.cons (St.augItem 1 (Ex.bin (Bop.mod) (Ex.var 2) (Ex.int 11)) (Bop.add) (Ex.bin (Bop.mod) (Ex.bin (Bop.item) (Ex.var 0) (Ex.var 2)) (Ex.bin (Bop.pow) (Ex.int 10) (Ex.int 6)))) (Sts.nil))) (Sts.cons (St.ret (Ex.var 1)) (Sts.nil)))⟩
noncomputable def fn7 : Fn := ⟨1, 5, Sts.cons (St.set 2 (Ex.comp (Ex.bin (Bop.sliceT) (Ex.var 0) (Ex.int 6)) (Ex.bin (Bop.mod) (Ex.var 5) (Ex.int 3)))) (Sts.cons (St.forIn 1 (Ex.bin (Bop.sliceF) (Ex.var 0) (Ex.int 6)) (Sts.cons (St.set 3 (Ex.bin (Bop.mod) (Ex.bin (Bop.fdiv) (Ex.var 1) (Ex.int 6)) (Ex.bin (Bop.sub) (Ex.un (Uop.len) (Ex.var 2)) (Ex.int 1)))) (Sts.cons (St.ite (Ex.bin (Bop.lt) (Ex.bin (Bop.mod) (Ex.var 1) (Ex.int 6)) (Ex.int 3)) (Sts.cons (St.set 4 (Ex.tup (Exs.cons (Ex.bin (Bop.item) (Ex.var 2) (Ex.var 3)) (Exs.cons (Ex.bin (Bop.item) (Ex.var 2) (Ex.bin (Bop.add) (Ex.var 3) (Ex.int 1))) (Exs.nil))))) (Sts.nil)) (Sts.cons (St.set 4 (Ex.tup (Exs.cons (Ex.bin (Bop.sub) (Ex.bin (Bop.mod) (Ex.var 1) (Ex.int 6)) (Ex.int 3)) (Exs.cons (Ex.bin (Bop.item) (Ex.var 2) (Ex.var 3)) (Exs.cons (Ex.bin (Bop.item) (Ex.var 2) (Ex.bin (Bop.add) (Ex.var 3) (Ex.int 1))) (Exs.nil)))))) (Sts.nil))) (Sts.cons (St.set 2 (Ex.bin (Bop.add) (Ex.bin (Bop.add) (Ex.bin (Bop.sliceT) (Ex.var 2) (Ex.var 3)) (Ex.list (Exs.cons (Ex.var 4) (Exs.nil)))) (Ex.bin (Bop.sliceF) (Ex.var 2) (Ex.bin (Bop.add) (Ex.var 3) (Ex.int 2))))) (Sts.nil))))) (Sts.cons (St.ret (Ex.bin (Bop.item) (Ex.var 2) (Ex.int 0))) (Sts.nil)))⟩
noncomputable def fn8 : Fn := ⟨1, 1, Sts.cons (St.ite (Ex.not (Ex.un (Uop.isTup) (Ex.var 0))) (Sts.cons (St.ret (Ex.list (Exs.cons (Ex.var 0) (Exs.nil)))) (Sts.nil)) (Sts.nil)) (Sts.cons (St.ite (Ex.bin (Bop.eq) (Ex.un (Uop.len) (Ex.var 0)) (Ex.int 2)) (Sts.cons (St.ret (Ex.bin (Bop.add) (Ex.call 8 (Exs.cons (Ex.bin (Bop.item) (Ex.var 0) (Ex.int 0)) (Exs.nil))) (Ex.call 8 (Exs.cons (Ex.bin (Bop.item) (Ex.var 0) (Ex.int 1)) (Exs.nil))))) (Sts.nil)) (Sts.nil)) (Sts.cons (St.ret (Ex.bin (Bop.add) (Ex.compIf (Ex.call 8 (Exs.cons (Ex.bin (Bop.item) (Ex.var 0) (Ex.int 2)) (Exs.nil))) (Ex.bin (Bop.ne) (Ex.var 1) (Ex.bin (Bop.item) (Ex.var 0) (Ex.int 0))) (Ex.var 1)) (Ex.call 8 (Exs.cons (Ex.bin (Bop.item) (Ex.var 0) (Ex.int 1)) (Exs.nil))))) (Sts.nil)))⟩
noncomputable def fn9 : Fn := ⟨2, 3, Sts.cons (St.ite (Ex.not (Ex.un (Uop.isTup) (Ex.var 0))) (Sts.cons (St.ret (Ex.bin (Bop.item) (Ex.var 1) (Ex.var 0))) (Sts.nil)) (Sts.nil)) (Sts.cons (St.ite (Ex.bin (Bop.eq) (Ex.un (Uop.len) (Ex.var 0)) (Ex.int 2)) (Sts.cons (St.ret (Ex.tup (Exs.cons (Ex.call 9 (Exs.cons (Ex.bin (Bop.item) (Ex.var 0) (Ex.int 0)) (Exs.cons (Ex.var 1) (Exs.nil)))) (Exs.cons (Ex.call 9 (Exs.cons (Ex.bin (Bop.item) (Ex.var 0) (Ex.int 1)) (Exs.cons (Ex.var 1) (Exs.nil)))) (Exs.nil))))) (Sts.nil)) (Sts.nil)) (Sts.cons (St.set 2 (Ex.un (Uop.list) (Ex.var 1))) (Sts.cons (St.setItem 2 (Ex.bin (Bop.item) (Ex.var 0) (Ex.int 0)) (Ex.call 9 (Exs.cons (Ex.bin (Bop.item) (Ex.var 0) (Ex.int 1)) (Exs.cons (Ex.var 1) (Exs.nil))))) (Sts.cons (St.ret (Ex.call 9 (Exs.cons (Ex.bin (Bop.item) (Ex.var 0) (Ex.int 2)) (Exs.cons (Ex.var 2) (Exs.nil))))) (Sts.nil)))))⟩
noncomputable def fn10 : Fn := ⟨1, 1, Sts.cons (St.ret (Ex.bin (Bop.add) (Ex.bin (Bop.add) (Ex.str [34]) (Ex.un (Uop.dbl) (Ex.var 0))) (Ex.str [34]))) (Sts.nil)⟩
noncomputable def fn11 : Fn := ⟨3, 4, Sts.cons (St.set 3 (Ex.bin (Bop.item) (Ex.bin (Bop.item) (Ex.tup (Exs.cons (Ex.str [107, 109, 112]) (Exs.cons (Ex.str [75, 77, 80]) (Exs.cons (Ex.str [119818, 119820, 119823]) (Exs.nil))))) (Ex.bin (Bop.mod) (Ex.var 2) (Ex.int 3))) (Ex.var 0))) (Sts.cons (St.ite (Ex.bin (Bop.eq) (Ex.bin (Bop.mod) (Ex.bin (Bop.fdiv) (Ex.var 2) (Ex.int 3)) (Ex.int 2)) (Ex.int 0)) (Sts.cons (St.ret (Ex.bin (Bop.add) (Ex.var 3) (Ex.bin (Bop.item) (Ex.tup (Exs.cons (Ex.str [34]) (Exs.cons (Ex.str [34, 34]) (Exs.cons (Ex.str [42, 42]) (Exs.cons (Ex.str [83, 83]) (Exs.cons (Ex.str [383, 84]) (Exs.cons (Ex.str [64]) (Exs.nil)))))))) (Ex.var 1)))) (Sts.nil)) (Sts.nil)) (Sts.cons (St.ret (Ex.bin (Bop.add) (Ex.var 3) (Ex.bin (Bop.item) (Ex.tup (Exs.cons (Ex.str [173, 34]) (Exs.cons (Ex.str [34, 8203, 34]) (Exs.cons (Ex.str [42, 8288, 42]) (Exs.cons (Ex.str [223]) (Exs.cons (Ex.str [64262]) (Exs.cons (Ex.str [64, 65279]) (Exs.nil)))))))) (Ex.var 1)))) (Sts.nil)))⟩
noncomputable def fn12 : Fn := ⟨3, 3, Sts.cons (St.ite (Ex.not (Ex.un (Uop.isTup) (Ex.var 0))) (Sts.cons (St.expr (Ex.bin (Bop.append) (Ex.var 2) (Ex.call 10 (Exs.cons (Ex.call 11 (Exs.cons (Ex.var 0) (Exs.cons (Ex.bin (Bop.mod) (Ex.bin (Bop.fdiv) (Ex.bin (Bop.item) (Ex.var 1) (Ex.var 0)) (Ex.int 3)) (Ex.int 6)) (Exs.cons (Ex.bin (Bop.add) (Ex.un (Uop.sum) (Ex.var 1)) (Ex.un (Uop.len) (Ex.var 2))) (Exs.nil))))) (Exs.nil))))) (Sts.nil)) (Sts.cons (St.ite (Ex.bin (Bop.eq) (Ex.un (Uop.len) (Ex.var 0)) (Ex.int 2)) (Sts.cons (St.expr (Ex.bin (Bop.append) (Ex.var 2) (Ex.str [64]))) (Sts.cons (St.expr (Ex.call 12 (Exs.cons (Ex.bin (Bop.item) (Ex.var 0) (Ex.int 0)) (Exs.cons (Ex.var 1) (Exs.cons (Ex.var 2) (Exs.nil)))))) (Sts.cons (St.expr (Ex.call 12 (Exs.cons (Ex.bin (Bop.item) (Ex.var 0) (Ex.int 1)) (Exs.cons (Ex.var 1) (Exs.cons (Ex.var 2) (Exs.nil)))))) (Sts.nil)))) (Sts.cons (St.expr (Ex.bin (Bop.append) (Ex.var 2) (Ex.str [64]))) (Sts.cons (St.expr (Ex.bin (Bop.append) (Ex.var 2) (Ex.str [45, 62]))) (Sts.cons (St.expr (Ex.call 12 (Exs.cons (Ex.bin (Bop.item) (Ex.var 0) (Ex.int 0)) (Exs.cons (Ex.var 1) (Exs.cons (Ex.var 2) (Exs.nil)))))) (Sts.cons (St.expr (Ex.call 12 (Exs.cons (Ex.bin (Bop.item) (Ex.var 0) (Ex.int 2)) (Exs.cons (Ex.var 1) (Exs.cons (Ex.var 2) (Exs.nil)))))) (Sts.cons (St.expr (Ex.call 12 (Exs.cons (Ex.bin (Bop.item) (Ex.var 0) (Ex.int 1)) (Exs.cons (Ex.var 1) (Exs.cons (Ex.var 2) (Exs.nil)))))) (Sts.nil))))))) (Sts.nil))) (Sts.cons (St.ret (Ex.var 2)) (Sts.nil))⟩
noncomputable def fn13 : Fn := ⟨1, 3, Sts.cons (St.set 1 (Ex.str [])) (Sts.cons (St.forIn 2 (Ex.un (Uop.range) (Ex.un (Uop.len) (Ex.var 0))) (Sts.cons (St.aug 1 (Bop.add) (Ex.bin (Bop.add) (Ex.bin (Bop.item) (Ex.var 0) (Ex.var 2)) (Ex.un (Uop.chr) (Ex.bin (Bop.add) (Ex.int 65024) (Ex.bin (Bop.mod) (Ex.var 2) (Ex.int 16)))))) (Sts.nil))) (Sts.cons (St.ret (Ex.var 1)) (Sts.nil)))⟩
noncomputable def fn14 : Fn := ⟨2, 6, Sts.cons (St.set 2 (Ex.list (Exs.nil))) (Sts.cons (St.while (Ex.bin (Bop.ne) (Ex.var 0) (Ex.str [])) (Sts.cons (St.ite (Ex.bin (Bop.is) (Ex.call 1 (Exs.cons (Ex.bin (Bop.item) (Ex.var 0) (Ex.int 0)) (Exs.nil))) (Ex.bool true)) (Sts.cons (St.set 0 (Ex.bin (Bop.sliceF) (Ex.var 0) (Ex.int 1))) (Sts.nil)) (Sts.cons (St.ite (Ex.bin (Bop.eq) (Ex.bin (Bop.item) (Ex.var 0) (Ex.int 0)) (Ex.str [34])) (Sts.cons (St.set 3 (Ex.call 0 (Exs.cons (Ex.bin (Bop.add) (Ex.str [50, 53, 55, 32]) (Ex.var 0)) (Exs.nil)))) (Sts.cons (St.set 0 (Ex.bin (Bop.sliceF) (Ex.var 0) (Ex.un (Uop.len) (Ex.call 10 (Exs.cons (Ex.var 3) (Exs.nil)))))) (Sts.cons (St.set 4 (Ex.bin (Bop.join) (Ex.str []) (Ex.compIf (Ex.var 3) (Ex.bin (Bop.is) (Ex.call 1 (Exs.cons (Ex.var 6) (Exs.nil))) (Ex.bool false)) (Ex.call 2 (Exs.cons (Ex.var 6) (Exs.nil)))))) (Sts.cons (St.ite (Ex.bin (Bop.notin) (Ex.var 4) (Ex.var 1)) (Sts.cons (St.expr (Ex.bin (Bop.append) (Ex.var 1) (Ex.var 4))) (Sts.nil)) (Sts.nil)) (Sts.cons (St.expr (Ex.bin (Bop.append) (Ex.var 2) (Ex.bin (Bop.add) (Ex.int 256) (Ex.bin (Bop.index) (Ex.var 1) (Ex.var 4))))) (Sts.nil)))))) (Sts.cons (St.forIn 5 (Ex.tup (Exs.cons (Ex.int 3) (Exs.cons (Ex.int 2) (Exs.cons (Ex.int 1) (Exs.nil))))) (Sts.cons (St.ite (Ex.un (Uop.inTok) (Ex.bin (Bop.sliceT) (Ex.var 0) (Ex.var 5))) (Sts.cons (St.brk) (Sts.nil)) (Sts.nil)) (Sts.nil))) (Sts.cons (St.expr (Ex.bin (Bop.append) (Ex.var 2) (Ex.un (Uop.tok) (Ex.bin (Bop.sliceT) (Ex.var 0) (Ex.var 5))))) (Sts.cons (St.set 0 (Ex.bin (Bop.sliceF) (Ex.var 0) (Ex.var 5))) (Sts.nil))))) (Sts.nil))) (Sts.nil))) (Sts.cons (St.ret (Ex.bin (Bop.add) (Ex.var 2) (Ex.list (Exs.cons (Ex.int 0) (Exs.nil))))) (Sts.nil)))⟩
noncomputable def fn15 : Fn := ⟨1, 3, Sts.cons (St.set 1 (Ex.list (Exs.nil))) (Sts.cons (St.forIn 2 (Ex.bin (Bop.down) (Ex.bin (Bop.sub) (Ex.un (Uop.len) (Ex.var 0)) (Ex.int 1)) (Ex.un (Uop.neg) (Ex.int 1))) (Sts.cons (St.ite (Ex.bin (Bop.is) (Ex.call 5 (Exs.cons (Ex.bin (Bop.item) (Ex.var 0) (Ex.var 2)) (Exs.nil))) (Ex.bool true)) (Sts.cons (St.set 1 (Ex.list (Exs.nil))) (Sts.nil)) (Sts.cons (St.ite (Ex.bin (Bop.eq) (Ex.bin (Bop.item) (Ex.var 0) (Ex.var 2)) (Ex.int 49)) (Sts.cons (St.set 1 (Ex.bin (Bop.add) (Ex.bin (Bop.sliceT) (Ex.var 1) (Ex.un (Uop.neg) (Ex.int 2))) (Ex.list (Exs.cons (Ex.tup (Exs.cons (Ex.bin (Bop.item) (Ex.var 1) (Ex.un (Uop.neg) (Ex.int 1))) (Exs.cons (Ex.bin (Bop.item) (Ex.var 1) (Ex.un (Uop.neg) (Ex.int 2))) (Exs.nil)))) (Exs.nil))))) (Sts.nil)) (Sts.cons (St.ite (Ex.bin (Bop.eq) (Ex.bin (Bop.item) (Ex.var 0) (Ex.var 2)) (Ex.int 51)) (Sts.cons (St.set 1 (Ex.bin (Bop.add) (Ex.bin (Bop.sliceT) (Ex.var 1) (Ex.un (Uop.neg) (Ex.int 2))) (Ex.list (Exs.cons (Ex.tup (Exs.cons (Ex.int 51) (Exs.cons (Ex.bin (Bop.item) (Ex.var 1) (Ex.un (Uop.neg) (Ex.int 1))) (Exs.cons (Ex.bin (Bop.item) (Ex.var 1) (Ex.un (Uop.neg) (Ex.int 2))) (Exs.nil))))) (Exs.nil))))) (Sts.nil)) (Sts.cons (St.expr (Ex.bin (Bop.append) (Ex.var 1) (Ex.bin (Bop.item) (Ex.var 0) (Ex.var 2)))) (Sts.nil))) (Sts.nil))) (Sts.nil))) (Sts.nil))) (Sts.cons (St.ret (Ex.var 1)) (Sts.nil)))⟩
noncomputable def fn16 : Fn := ⟨2, 4, Sts.cons (St.ite (Ex.not (Ex.un (Uop.isTup) (Ex.var 1))) (Sts.cons (St.ret (Ex.ite (Ex.bin (Bop.eq) (Ex.var 1) (Ex.var 0)) (Ex.int 16) (Ex.none))) (Sts.nil)) (Sts.nil)) (Sts.cons (St.set 2 (Ex.call 16 (Exs.cons (Ex.var 0) (Exs.cons (Ex.bin (Bop.item) (Ex.var 1) (Ex.int 0)) (Exs.nil))))) (Sts.cons (St.set 3 (Ex.call 16 (Exs.cons (Ex.var 0) (Exs.cons (Ex.bin (Bop.item) (Ex.var 1) (Ex.int 1)) (Exs.nil))))) (Sts.cons (St.ite (Ex.and (Ex.bin (Bop.is) (Ex.var 2) (Ex.none)) (Ex.bin (Bop.is) (Ex.var 3) (Ex.none))) (Sts.cons (St.ret (Ex.none)) (Sts.nil)) (Sts.nil)) (Sts.cons (St.ite (Ex.bin (Bop.is) (Ex.var 2) (Ex.none)) (Sts.cons (St.ret (Ex.tup (Exs.cons (Ex.tup (Exs.cons (Ex.int 17) (Exs.cons (Ex.bin (Bop.item) (Ex.var 1) (Ex.int 0)) (Exs.nil)))) (Exs.cons (Ex.var 3) (Exs.nil))))) (Sts.nil)) (Sts.nil)) (Sts.cons (St.ite (Ex.bin (Bop.is) (Ex.var 3) (Ex.none)) (Sts.cons (St.ret (Ex.tup (Exs.cons (Ex.tup (Exs.cons (Ex.int 47) (Exs.cons (Ex.var 2) (Exs.nil)))) (Exs.cons (Ex.bin (Bop.item) (Ex.var 1) (Ex.int 1)) (Exs.nil))))) (Sts.nil)) (Sts.nil)) (Sts.cons (St.ret (Ex.tup (Exs.cons (Ex.tup (Exs.cons (Ex.int 46) (Exs.cons (Ex.var 2) (Exs.nil)))) (Exs.cons (Ex.var 3) (Exs.nil))))) (Sts.nil)))))))⟩
noncomputable def fn17 : Fn := ⟨1, 3, Sts.cons (St.ite (Ex.not (Ex.un (Uop.isTup) (Ex.var 0))) (Sts.cons (St.ret (Ex.var 0)) (Sts.nil)) (Sts.nil)) (Sts.cons (St.ite (Ex.bin (Bop.eq) (Ex.un (Uop.len) (Ex.var 0)) (Ex.int 2)) (Sts.cons (St.ret (Ex.tup (Exs.cons (Ex.call 17 (Exs.cons (Ex.bin (Bop.item) (Ex.var 0) (Ex.int 0)) (Exs.nil))) (Exs.cons (Ex.call 17 (Exs.cons (Ex.bin (Bop.item) (Ex.var 0) (Ex.int 1)) (Exs.nil))) (Exs.nil))))) (Sts.nil)) (Sts.nil)) (Sts.cons (St.set 1 (Ex.call 17 (Exs.cons (Ex.bin (Bop.item) (Ex.var 0) (Ex.int 2)) (Exs.nil)))) (Sts.cons (St.set 2 (Ex.call 16 (Exs.cons (Ex.bin (Bop.item) (Ex.var 0) (Ex.int 1)) (Exs.cons (Ex.var 1) (Exs.nil))))) (Sts.cons (St.ret (Ex.ite (Ex.bin (Bop.is) (Ex.var 2) (Ex.none)) (Ex.tup (Exs.cons (Ex.int 35) (Exs.cons (Ex.var 1) (Exs.nil)))) (Ex.var 2))) (Sts.nil)))))⟩
noncomputable def fn18 : Fn := ⟨3, 3, Sts.cons (St.ite (Ex.un (Uop.isTup) (Ex.var 0)) (Sts.cons (St.expr (Ex.bin (Bop.append) (Ex.var 2) (Ex.str [64]))) (Sts.cons (St.expr (Ex.call 18 (Exs.cons (Ex.bin (Bop.item) (Ex.var 0) (Ex.int 0)) (Exs.cons (Ex.var 1) (Exs.cons (Ex.var 2) (Exs.nil)))))) (Sts.cons (St.expr (Ex.call 18 (Exs.cons (Ex.bin (Bop.item) (Ex.var 0) (Ex.int 1)) (Exs.cons (Ex.var 1) (Exs.cons (Ex.var 2) (Exs.nil)))))) (Sts.nil)))) (Sts.cons (St.ite (Ex.bin (Bop.is) (Ex.call 3 (Exs.cons (Ex.var 0) (Exs.nil))) (Ex.bool true)) (Sts.cons (St.expr (Ex.bin (Bop.append) (Ex.var 2) (Ex.un (Uop.dict [(16, [42]), (17, [47]), (35, [42, 42]), (46, [42, 42, 61]), (47, [47, 47])]) (Ex.var 0)))) (Sts.nil)) (Sts.cons (St.expr (Ex.bin (Bop.append) (Ex.var 2) (Ex.call 10 (Exs.cons (Ex.bin (Bop.join) (Ex.str [8288]) (Ex.bin (Bop.item) (Ex.var 1) (Ex.bin (Bop.sub) (Ex.var 0) (Ex.int 256)))) (Exs.nil))))) (Sts.nil))) (Sts.nil))) (Sts.cons (St.ret (Ex.var 2)) (Sts.nil))⟩
noncomputable def fn19 : Fn := ⟨2, 7, Sts.cons (St.set 2 (Ex.list (Exs.nil))) (Sts.cons (St.while (Ex.bool true) (Sts.cons (St.while (Ex.un (Uop.isTup) (Ex.var 0)) (Sts.cons (St.expr (Ex.bin (Bop.append) (Ex.var 2) (Ex.bin (Bop.item) (Ex.var 0) (Ex.int 1)))) (Sts.cons (St.set 0 (Ex.bin (Bop.item) (Ex.var 0) (Ex.int 0))) (Sts.nil)))) (Sts.cons (St.ite (Ex.bin (Bop.is) (Ex.call 4 (Exs.cons (Ex.var 0) (Exs.nil))) (Ex.bool true)) (Sts.cons (St.brk) (Sts.nil)) (Sts.nil)) (Sts.cons (St.set 3 (Ex.un (Uop.pop) (Ex.var 2))) (Sts.cons (St.ite (Ex.bin (Bop.eq) (Ex.var 0) (Ex.int 16)) (Sts.cons (St.set 0 (Ex.var 3)) (Sts.nil)) (Sts.cons (St.ite (Ex.bin (Bop.eq) (Ex.var 0) (Ex.int 35)) (Sts.cons (St.expr (Ex.un (Uop.pop) (Ex.var 2))) (Sts.cons (St.set 0 (Ex.var 3)) (Sts.nil))) (Sts.cons (St.set 4 (Ex.un (Uop.pop) (Ex.var 2))) (Sts.cons (St.set 5 (Ex.un (Uop.pop) (Ex.var 2))) (Sts.cons (St.ite (Ex.bin (Bop.eq) (Ex.var 0) (Ex.int 46)) (Sts.cons (St.set 0 (Ex.tup (Exs.cons (Ex.tup (Exs.cons (Ex.var 3) (Exs.cons (Ex.var 5) (Exs.nil)))) (Exs.cons (Ex.tup (Exs.cons (Ex.var 4) (Exs.cons (Ex.var 5) (Exs.nil)))) (Exs.nil))))) (Sts.nil)) (Sts.cons (St.ite (Ex.bin (Bop.eq) (Ex.var 0) (Ex.int 47)) (Sts.cons (St.set 0 (Ex.tup (Exs.cons (Ex.tup (Exs.cons (Ex.var 3) (Exs.cons (Ex.var 5) (Exs.nil)))) (Exs.cons (Ex.var 4) (Exs.nil))))) (Sts.nil)) (Sts.cons (St.set 0 (Ex.tup (Exs.cons (Ex.var 3) (Exs.cons (Ex.tup (Exs.cons (Ex.var 4) (Exs.cons (Ex.var 5) (Exs.nil)))) (Exs.nil))))) (Sts.nil))) (Sts.nil))) (Sts.nil))))) (Sts.nil))) (Sts.nil)))))) (Sts.cons (St.set 6 (Ex.bin (Bop.item) (Ex.var 1) (Ex.bin (Bop.sub) (Ex.var 0) (Ex.int 256)))) (Sts.cons (St.while (Ex.bin (Bop.ne) (Ex.var 2) (Ex.list (Exs.nil))) (Sts.cons (St.set 6 (Ex.tup (Exs.cons (Ex.var 6) (Exs.cons (Ex.call 19 (Exs.cons (Ex.un (Uop.pop) (Ex.var 2)) (Exs.cons (Ex.var 1) (Exs.nil)))) (Exs.nil))))) (Sts.nil))) (Sts.cons (St.ret (Ex.var 6)) (Sts.nil)))))⟩
noncomputable def fn20 : Fn := ⟨1, 10, Sts.cons (St.set 1 (Ex.call 6 (Exs.cons (Ex.var 0) (Exs.nil)))) (Sts.cons (St.set 2 (Ex.call 7 (Exs.cons (Ex.var 1) (Exs.nil)))) (Sts.cons (St.set 3 (Ex.tup (Exs.cons (Ex.str [34]) (Exs.cons (Ex.str [34, 34]) (Exs.cons (Ex.str [42, 42]) (Exs.cons (Ex.str [115, 115]) (Exs.cons (Ex.str [115, 116]) (Exs.cons (Ex.str [64]) (Exs.nil))))))))) (Sts.cons (St.set 4 (Ex.comp (Ex.un (Uop.range) (Ex.int 3)) (Ex.bin (Bop.add) (Ex.bin (Bop.item) (Ex.str [107, 109, 112]) (Ex.var 10)) (Ex.bin (Bop.item) (Ex.var 3) (Ex.bin (Bop.mod) (Ex.bin (Bop.fdiv) (Ex.bin (Bop.item) (Ex.var 1) (Ex.var 10)) (Ex.int 3)) (Ex.int 6)))))) (Sts.cons (St.set 5 (Ex.list (Exs.nil))) (Sts.cons (St.set 6 (Ex.call 15 (Exs.cons (Ex.call 14 (Exs.cons (Ex.call 13 (Exs.cons (Ex.call 12 (Exs.cons (Ex.var 2) (Exs.cons (Ex.var 1) (Exs.cons (Ex.list (Exs.nil)) (Exs.nil))))) (Exs.nil))) (Exs.cons (Ex.var 5) (Exs.nil)))) (Exs.nil)))) (Sts.cons (St.ite (Ex.bin (Bop.ne) (Ex.un (Uop.len) (Ex.var 6)) (Ex.int 1)) (Sts.cons (St.ret (Ex.bool false)) (Sts.nil)) (Sts.nil)) (Sts.cons (St.set 7 (Ex.list (Exs.nil))) (Sts.cons (St.set 8 (Ex.call 15 (Exs.cons (Ex.call 14 (Exs.cons (Ex.call 13 (Exs.cons (Ex.call 18 (Exs.cons (Ex.call 17 (Exs.cons (Ex.bin (Bop.item) (Ex.var 6) (Ex.int 0)) (Exs.nil))) (Exs.cons (Ex.var 5) (Exs.cons (Ex.list (Exs.nil)) (Exs.nil))))) (Exs.nil))) (Exs.cons (Ex.var 7) (Exs.nil)))) (Exs.nil)))) (Sts.cons (St.set 9 (Ex.call 8 (Exs.cons (Ex.var 2) (Exs.nil)))) (Sts.cons (St.ite (Ex.or (Ex.bin (Bop.ne) (Ex.un (Uop.len) (Ex.var 8)) (Ex.int 1)) (Ex.bin (Bop.ne) (Ex.un (Uop.sorted) (Ex.var 7)) (Ex.compIf (Ex.un (Uop.range) (Ex.int 3)) (Ex.bin (Bop.inn) (Ex.var 10) (Ex.var 9)) (Ex.bin (Bop.item) (Ex.var 4) (Ex.var 10))))) (Sts.cons (St.ret (Ex.bool false)) (Sts.nil)) (Sts.nil)) (Sts.cons (St.ret (Ex.bin (Bop.eq) (Ex.call 19 (Exs.cons (Ex.bin (Bop.item) (Ex.var 8) (Ex.int 0)) (Exs.cons (Ex.var 7) (Exs.nil)))) (Ex.call 9 (Exs.cons (Ex.var 2) (Exs.cons (Ex.var 4) (Exs.nil)))))) (Sts.nil))))))))))))⟩
noncomputable def fns : List Fn := [fn0, fn1, fn2, fn3, fn4, fn5, fn6, fn7, fn8, fn9, fn10, fn11, fn12, fn13, fn14, fn15, fn16, fn17, fn18, fn19, fn20]
end W2
end Mine
end

section
open PySem PySem.W PyProof.Rows PySem.Calls PySem.SeqAt
set_option Elab.async false
set_option linter.unusedVariables false
set_option maxRecDepth 100000
namespace Mine
noncomputable section
namespace P2

theorem main_at (P : Params) (u : Nat → Obj) : (HF P u).get? 3 = some (o3_12 P) := by kernel_rfl
noncomputable def G : List (Str × Gl) := [(S "parse257", .fn 0), (S "in_table_b1", .fn 1), (S "map_table_b3", .fn 2), (S "ISTERMINAL", .fn 3), (S "ISNONTERMINAL", .fn 4), (S "ISEOF", .fn 5), (S "_law_numbers", .fn 6), (S "_law_drawn", .fn 7), (S "_law_free", .fn 8), (S "_law_value", .fn 9), (S "_law_quoted", .fn 10), (S "_law_spelled", .fn 11), (S "_law_pieces", .fn 12), (S "_law_line", .fn 13), (S "_law_read", .fn 14), (S "_law_trees", .fn 15), (S "_law_without", .fn 16), (S "_law_bare", .fn 17), (S "_law_signs", .fn 18), (S "_law_run", .fn 19), (S "law", .fn 20), (S "NT_OFFSET", .int 256), (S "ENDMARKER", .int 0)]
noncomputable def addrs : List Addr := [46, 64, 110, 120, 127, 134, 141, 146, 151, 158, 165, 172, 179, 186, 191, 198, 205, 212, 219, 226, 231]
theorem glb (P : Params) : glB G (e3_12 P).toArray addrs = true := by kernel_rfl
theorem b1_at (P : Params) (u : Nat → Obj) : (HF P u).get? 54 = some (((HF P u).get? 54).getD default) := by kernel_rfl
theorem b1_sh (P : Params) (u : Nat → Obj) : setEs (((HF P u).get? 54).getD default) = (intKeys (setEs (((HF P u).get? 54).getD default))).map (fun p => (hashInt p.1, .int p.1 p.2)) := by kernel_rfl
theorem b1_keys (P : Params) (u : Nat → Obj) : (intKeys (setEs (((HF P u).get? 54).getD default))).map (·.1) = b1L := by kernel_rfl
theorem b1_fit (P : Params) (u : Nat → Obj) : setFit (((HF P u).get? 54).getD default) = true := by kernel_rfl
theorem b1_ex (P : Params) (u : Nat → Obj) : (((HF P u).get? 54).getD default).ExactSet := ⟨by kernel_rfl, by kernel_rfl, by kernel_rfl⟩
theorem tk_at (P : Params) (u : Nat → Obj) : (HF P u).get? 111 = some (((HF P u).get? 111).getD default) := by kernel_rfl
theorem tk_is (P : Params) (u : Nat → Obj) : isDict (((HF P u).get? 111).getD default) = true := by kernel_rfl
theorem tk_sh (w : World) (u : Nat → Obj) : dictEs (((HF w.params u).get? 111).getD default) = (strKeys (dictEs (((HF w.params u).get? 111).getD default))).map (fun p => ⟨hashStr w p.1, .str p.1 p.2.1, .int p.2.2.1 p.2.2.2⟩) := by kernel_rfl
theorem tk_keys (P : Params) (u : Nat → Obj) : (strKeys (dictEs (((HF P u).get? 111).getD default))).map (fun p => (p.1.cps.toList, p.2.2.1)) = tokL := by kernel_rfl
theorem tk_ex (P : Params) (u : Nat → Obj) : (((HF P u).get? 111).getD default).ExactDict := ⟨by kernel_rfl, by kernel_rfl, by kernel_rfl⟩
theorem b3_get (P : Params) (u : Nat → Obj) : (HF P u).objs[65]? = some (u 65) := by kernel_rfl
theorem b3_size : L3.all (fun p => decide (p.2.cps.size ≤ LIM)) = true := by kernel_rfl
theorem n_b1_set (P : Params) : nsFind (e3_12 P).toArray (S "b1_set") = some (.ref 54) := by kernel_rfl
theorem n_b3_exceptions (P : Params) : nsFind (e3_12 P).toArray (S "b3_exceptions") = some (.ref 65) := by kernel_rfl
theorem n_EXACT_TOKEN_TYPES (P : Params) : nsFind (e3_12 P).toArray (S "EXACT_TOKEN_TYPES") = some (.ref 111) := by kernel_rfl
theorem n_law (P : Params) : nsFind (e3_12 P).toArray (S "law") = some (.ref 231) := by kernel_rfl
theorem bare (P : Params) : bnames.all (fun n => (nsFind (e3_12 P).toArray n).isNone) = true := by kernel_rfl
theorem f0_at (P : Params) (u : Nat → Obj) : (HF P u).get? 46 = some (o46_0 P) := by kernel_rfl
theorem f0_code (P : Params) (u : Nat → Obj) : codeB ((HF P u).get? 45) (fdOf 3 3 (.str (S "cpy313.ftplib") 187) (.ref 45) 0).qualname = true := by kernel_rfl
theorem f0_fn : cFn G (fdOf 3 3 (.str (S "cpy313.ftplib") 187) (.ref 45) 0) = some W2.fn0 := by kernel_rfl
theorem f0_p : FdP (fdOf 3 3 (.str (S "cpy313.ftplib") 187) (.ref 45) 0) := @of_decide_eq_true _ (decFdP _) (by kernel_rfl)
theorem f0_ps : psOf (fdOf 3 3 (.str (S "cpy313.ftplib") 187) (.ref 45) 0) = [S "resp"] := by kernel_rfl
theorem f0_b (v0 : Value) : bindArgs (fdOf 3 3 (.str (S "cpy313.ftplib") 187) (.ref 45) 0) ⟨[v0], []⟩ = pure [(S "resp", v0)] := by kernel_rfl
theorem f1_at (P : Params) (u : Nat → Obj) : (HF P u).get? 64 = some (o64_0 P) := by kernel_rfl
theorem f1_code (P : Params) (u : Nat → Obj) : codeB ((HF P u).get? 63) (fdOf 6 3 (.str (S "cpy313.stringprep") 236) (.ref 63) 0).qualname = true := by kernel_rfl
theorem f1_fn : cFn G (fdOf 6 3 (.str (S "cpy313.stringprep") 236) (.ref 63) 0) = some W2.fn1 := by kernel_rfl
theorem f1_p : FdP (fdOf 6 3 (.str (S "cpy313.stringprep") 236) (.ref 63) 0) := @of_decide_eq_true _ (decFdP _) (by kernel_rfl)
theorem f1_ps : psOf (fdOf 6 3 (.str (S "cpy313.stringprep") 236) (.ref 63) 0) = [S "code"] := by kernel_rfl
theorem f1_b (v0 : Value) : bindArgs (fdOf 6 3 (.str (S "cpy313.stringprep") 236) (.ref 63) 0) ⟨[v0], []⟩ = pure [(S "code", v0)] := by kernel_rfl
theorem f2_at (P : Params) (u : Nat → Obj) : (HF P u).get? 110 = some (o110_0 P) := by kernel_rfl
theorem f2_code (P : Params) (u : Nat → Obj) : codeB ((HF P u).get? 109) (fdOf 8 3 (.str (S "cpy313.stringprep") 236) (.ref 109) 0).qualname = true := by kernel_rfl
theorem f2_fn : cFn G (fdOf 8 3 (.str (S "cpy313.stringprep") 236) (.ref 109) 0) = some W2.fn2 := by kernel_rfl
theorem f2_p : FdP (fdOf 8 3 (.str (S "cpy313.stringprep") 236) (.ref 109) 0) := @of_decide_eq_true _ (decFdP _) (by kernel_rfl)
theorem f2_ps : psOf (fdOf 8 3 (.str (S "cpy313.stringprep") 236) (.ref 109) 0) = [S "code"] := by kernel_rfl
theorem f2_b (v0 : Value) : bindArgs (fdOf 8 3 (.str (S "cpy313.stringprep") 236) (.ref 109) 0) ⟨[v0], []⟩ = pure [(S "code", v0)] := by kernel_rfl
theorem f3_at (P : Params) (u : Nat → Obj) : (HF P u).get? 120 = some (o120_0 P) := by kernel_rfl
theorem f3_code (P : Params) (u : Nat → Obj) : codeB ((HF P u).get? 119) (fdOf 61 3 (.str (S "cpy313.token") 2264) (.ref 119) 0).qualname = true := by kernel_rfl
theorem f3_fn : cFn G (fdOf 61 3 (.str (S "cpy313.token") 2264) (.ref 119) 0) = some W2.fn3 := by kernel_rfl
theorem f3_p : FdP (fdOf 61 3 (.str (S "cpy313.token") 2264) (.ref 119) 0) := @of_decide_eq_true _ (decFdP _) (by kernel_rfl)
theorem f3_ps : psOf (fdOf 61 3 (.str (S "cpy313.token") 2264) (.ref 119) 0) = [S "x"] := by kernel_rfl
theorem f3_b (v0 : Value) : bindArgs (fdOf 61 3 (.str (S "cpy313.token") 2264) (.ref 119) 0) ⟨[v0], []⟩ = pure [(S "x", v0)] := by kernel_rfl
theorem f4_at (P : Params) (u : Nat → Obj) : (HF P u).get? 127 = some (o127_0 P) := by kernel_rfl
theorem f4_code (P : Params) (u : Nat → Obj) : codeB ((HF P u).get? 126) (fdOf 62 3 (.str (S "cpy313.token") 2264) (.ref 126) 0).qualname = true := by kernel_rfl
theorem f4_fn : cFn G (fdOf 62 3 (.str (S "cpy313.token") 2264) (.ref 126) 0) = some W2.fn4 := by kernel_rfl
theorem f4_p : FdP (fdOf 62 3 (.str (S "cpy313.token") 2264) (.ref 126) 0) := @of_decide_eq_true _ (decFdP _) (by kernel_rfl)
theorem f4_ps : psOf (fdOf 62 3 (.str (S "cpy313.token") 2264) (.ref 126) 0) = [S "x"] := by kernel_rfl
theorem f4_b (v0 : Value) : bindArgs (fdOf 62 3 (.str (S "cpy313.token") 2264) (.ref 126) 0) ⟨[v0], []⟩ = pure [(S "x", v0)] := by kernel_rfl
theorem f5_at (P : Params) (u : Nat → Obj) : (HF P u).get? 134 = some (o134_0 P) := by kernel_rfl
theorem f5_code (P : Params) (u : Nat → Obj) : codeB ((HF P u).get? 133) (fdOf 63 3 (.str (S "cpy313.token") 2264) (.ref 133) 0).qualname = true := by kernel_rfl
theorem f5_fn : cFn G (fdOf 63 3 (.str (S "cpy313.token") 2264) (.ref 133) 0) = some W2.fn5 := by kernel_rfl
theorem f5_p : FdP (fdOf 63 3 (.str (S "cpy313.token") 2264) (.ref 133) 0) := @of_decide_eq_true _ (decFdP _) (by kernel_rfl)
theorem f5_ps : psOf (fdOf 63 3 (.str (S "cpy313.token") 2264) (.ref 133) 0) = [S "x"] := by kernel_rfl
theorem f5_b (v0 : Value) : bindArgs (fdOf 63 3 (.str (S "cpy313.token") 2264) (.ref 133) 0) ⟨[v0], []⟩ = pure [(S "x", v0)] := by kernel_rfl
theorem f6_at (P : Params) (u : Nat → Obj) : (HF P u).get? 141 = some (o141_0 P) := by kernel_rfl
theorem f6_code (P : Params) (u : Nat → Obj) : codeB ((HF P u).get? 140) (fdOf 65 3 (.str (S "law_wf0082_02") 2484) (.ref 140) 0).qualname = true := by kernel_rfl
theorem f6_fn : cFn G (fdOf 65 3 (.str (S "law_wf0082_02") 2484) (.ref 140) 0) = some W2.fn6 := by kernel_rfl
theorem f6_p : FdP (fdOf 65 3 (.str (S "law_wf0082_02") 2484) (.ref 140) 0) := @of_decide_eq_true _ (decFdP _) (by kernel_rfl)
theorem f6_ps : psOf (fdOf 65 3 (.str (S "law_wf0082_02") 2484) (.ref 140) 0) = [S "script"] := by kernel_rfl
theorem f6_b (v0 : Value) : bindArgs (fdOf 65 3 (.str (S "law_wf0082_02") 2484) (.ref 140) 0) ⟨[v0], []⟩ = pure [(S "script", v0)] := by kernel_rfl
theorem f7_at (P : Params) (u : Nat → Obj) : (HF P u).get? 146 = some (o146_0 P) := by kernel_rfl
theorem f7_code (P : Params) (u : Nat → Obj) : codeB ((HF P u).get? 145) (fdOf 66 3 (.str (S "law_wf0082_02") 2484) (.ref 145) 0).qualname = true := by kernel_rfl
theorem f7_fn : cFn G (fdOf 66 3 (.str (S "law_wf0082_02") 2484) (.ref 145) 0) = some W2.fn7 := by kernel_rfl
theorem f7_p : FdP (fdOf 66 3 (.str (S "law_wf0082_02") 2484) (.ref 145) 0) := @of_decide_eq_true _ (decFdP _) (by kernel_rfl)
theorem f7_ps : psOf (fdOf 66 3 (.str (S "law_wf0082_02") 2484) (.ref 145) 0) = [S "row"] := by kernel_rfl
theorem f7_b (v0 : Value) : bindArgs (fdOf 66 3 (.str (S "law_wf0082_02") 2484) (.ref 145) 0) ⟨[v0], []⟩ = pure [(S "row", v0)] := by kernel_rfl
theorem f8_at (P : Params) (u : Nat → Obj) : (HF P u).get? 151 = some (o151_0 P) := by kernel_rfl
theorem f8_code (P : Params) (u : Nat → Obj) : codeB ((HF P u).get? 150) (fdOf 67 3 (.str (S "law_wf0082_02") 2484) (.ref 150) 0).qualname = true := by kernel_rfl
theorem f8_fn : cFn G (fdOf 67 3 (.str (S "law_wf0082_02") 2484) (.ref 150) 0) = some W2.fn8 := by kernel_rfl
theorem f8_p : FdP (fdOf 67 3 (.str (S "law_wf0082_02") 2484) (.ref 150) 0) := @of_decide_eq_true _ (decFdP _) (by kernel_rfl)
theorem f8_ps : psOf (fdOf 67 3 (.str (S "law_wf0082_02") 2484) (.ref 150) 0) = [S "tree"] := by kernel_rfl
theorem f8_b (v0 : Value) : bindArgs (fdOf 67 3 (.str (S "law_wf0082_02") 2484) (.ref 150) 0) ⟨[v0], []⟩ = pure [(S "tree", v0)] := by kernel_rfl
theorem f9_at (P : Params) (u : Nat → Obj) : (HF P u).get? 158 = some (o158_0 P) := by kernel_rfl
theorem f9_code (P : Params) (u : Nat → Obj) : codeB ((HF P u).get? 157) (fdOf 68 3 (.str (S "law_wf0082_02") 2484) (.ref 157) 0).qualname = true := by kernel_rfl
theorem f9_fn : cFn G (fdOf 68 3 (.str (S "law_wf0082_02") 2484) (.ref 157) 0) = some W2.fn9 := by kernel_rfl
theorem f9_p : FdP (fdOf 68 3 (.str (S "law_wf0082_02") 2484) (.ref 157) 0) := @of_decide_eq_true _ (decFdP _) (by kernel_rfl)
theorem f9_ps : psOf (fdOf 68 3 (.str (S "law_wf0082_02") 2484) (.ref 157) 0) = [S "tree", S "known"] := by kernel_rfl
theorem f9_b (v0 v1 : Value) : bindArgs (fdOf 68 3 (.str (S "law_wf0082_02") 2484) (.ref 157) 0) ⟨[v0, v1], []⟩ = pure [(S "tree", v0), (S "known", v1)] := by kernel_rfl
theorem f10_at (P : Params) (u : Nat → Obj) : (HF P u).get? 165 = some (o165_0 P) := by kernel_rfl
theorem f10_code (P : Params) (u : Nat → Obj) : codeB ((HF P u).get? 164) (fdOf 69 3 (.str (S "law_wf0082_02") 2484) (.ref 164) 0).qualname = true := by kernel_rfl
theorem f10_fn : cFn G (fdOf 69 3 (.str (S "law_wf0082_02") 2484) (.ref 164) 0) = some W2.fn10 := by kernel_rfl
theorem f10_p : FdP (fdOf 69 3 (.str (S "law_wf0082_02") 2484) (.ref 164) 0) := @of_decide_eq_true _ (decFdP _) (by kernel_rfl)
theorem f10_ps : psOf (fdOf 69 3 (.str (S "law_wf0082_02") 2484) (.ref 164) 0) = [S "name"] := by kernel_rfl
theorem f10_b (v0 : Value) : bindArgs (fdOf 69 3 (.str (S "law_wf0082_02") 2484) (.ref 164) 0) ⟨[v0], []⟩ = pure [(S "name", v0)] := by kernel_rfl
theorem f11_at (P : Params) (u : Nat → Obj) : (HF P u).get? 172 = some (o172_0 P) := by kernel_rfl
theorem f11_code (P : Params) (u : Nat → Obj) : codeB ((HF P u).get? 171) (fdOf 70 3 (.str (S "law_wf0082_02") 2484) (.ref 171) 0).qualname = true := by kernel_rfl
theorem f11_fn : cFn G (fdOf 70 3 (.str (S "law_wf0082_02") 2484) (.ref 171) 0) = some W2.fn11 := by kernel_rfl
theorem f11_p : FdP (fdOf 70 3 (.str (S "law_wf0082_02") 2484) (.ref 171) 0) := @of_decide_eq_true _ (decFdP _) (by kernel_rfl)
theorem f11_ps : psOf (fdOf 70 3 (.str (S "law_wf0082_02") 2484) (.ref 171) 0) = [S "name", S "ending", S "seed"] := by kernel_rfl
theorem f11_b (v0 v1 v2 : Value) : bindArgs (fdOf 70 3 (.str (S "law_wf0082_02") 2484) (.ref 171) 0) ⟨[v0, v1, v2], []⟩ = pure [(S "name", v0), (S "ending", v1), (S "seed", v2)] := by kernel_rfl
theorem f12_at (P : Params) (u : Nat → Obj) : (HF P u).get? 179 = some (o179_0 P) := by kernel_rfl
theorem f12_code (P : Params) (u : Nat → Obj) : codeB ((HF P u).get? 178) (fdOf 71 3 (.str (S "law_wf0082_02") 2484) (.ref 178) 0).qualname = true := by kernel_rfl
theorem f12_fn : cFn G (fdOf 71 3 (.str (S "law_wf0082_02") 2484) (.ref 178) 0) = some W2.fn12 := by kernel_rfl
theorem f12_p : FdP (fdOf 71 3 (.str (S "law_wf0082_02") 2484) (.ref 178) 0) := @of_decide_eq_true _ (decFdP _) (by kernel_rfl)
theorem f12_ps : psOf (fdOf 71 3 (.str (S "law_wf0082_02") 2484) (.ref 178) 0) = [S "tree", S "row", S "pieces"] := by kernel_rfl
theorem f12_b (v0 v1 v2 : Value) : bindArgs (fdOf 71 3 (.str (S "law_wf0082_02") 2484) (.ref 178) 0) ⟨[v0, v1, v2], []⟩ = pure [(S "tree", v0), (S "row", v1), (S "pieces", v2)] := by kernel_rfl
theorem f13_at (P : Params) (u : Nat → Obj) : (HF P u).get? 186 = some (o186_0 P) := by kernel_rfl
theorem f13_code (P : Params) (u : Nat → Obj) : codeB ((HF P u).get? 185) (fdOf 72 3 (.str (S "law_wf0082_02") 2484) (.ref 185) 0).qualname = true := by kernel_rfl
theorem f13_fn : cFn G (fdOf 72 3 (.str (S "law_wf0082_02") 2484) (.ref 185) 0) = some W2.fn13 := by kernel_rfl
theorem f13_p : FdP (fdOf 72 3 (.str (S "law_wf0082_02") 2484) (.ref 185) 0) := @of_decide_eq_true _ (decFdP _) (by kernel_rfl)
theorem f13_ps : psOf (fdOf 72 3 (.str (S "law_wf0082_02") 2484) (.ref 185) 0) = [S "pieces"] := by kernel_rfl
theorem f13_b (v0 : Value) : bindArgs (fdOf 72 3 (.str (S "law_wf0082_02") 2484) (.ref 185) 0) ⟨[v0], []⟩ = pure [(S "pieces", v0)] := by kernel_rfl
theorem f14_at (P : Params) (u : Nat → Obj) : (HF P u).get? 191 = some (o191_0 P) := by kernel_rfl
theorem f14_code (P : Params) (u : Nat → Obj) : codeB ((HF P u).get? 190) (fdOf 73 3 (.str (S "law_wf0082_02") 2484) (.ref 190) 0).qualname = true := by kernel_rfl
theorem f14_fn : cFn G (fdOf 73 3 (.str (S "law_wf0082_02") 2484) (.ref 190) 0) = some W2.fn14 := by kernel_rfl
theorem f14_p : FdP (fdOf 73 3 (.str (S "law_wf0082_02") 2484) (.ref 190) 0) := @of_decide_eq_true _ (decFdP _) (by kernel_rfl)
theorem f14_ps : psOf (fdOf 73 3 (.str (S "law_wf0082_02") 2484) (.ref 190) 0) = [S "text", S "names"] := by kernel_rfl
theorem f14_b (v0 v1 : Value) : bindArgs (fdOf 73 3 (.str (S "law_wf0082_02") 2484) (.ref 190) 0) ⟨[v0, v1], []⟩ = pure [(S "text", v0), (S "names", v1)] := by kernel_rfl
theorem f15_at (P : Params) (u : Nat → Obj) : (HF P u).get? 198 = some (o198_0 P) := by kernel_rfl
theorem f15_code (P : Params) (u : Nat → Obj) : codeB ((HF P u).get? 197) (fdOf 74 3 (.str (S "law_wf0082_02") 2484) (.ref 197) 0).qualname = true := by kernel_rfl
theorem f15_fn : cFn G (fdOf 74 3 (.str (S "law_wf0082_02") 2484) (.ref 197) 0) = some W2.fn15 := by kernel_rfl
theorem f15_p : FdP (fdOf 74 3 (.str (S "law_wf0082_02") 2484) (.ref 197) 0) := @of_decide_eq_true _ (decFdP _) (by kernel_rfl)
theorem f15_ps : psOf (fdOf 74 3 (.str (S "law_wf0082_02") 2484) (.ref 197) 0) = [S "row"] := by kernel_rfl
theorem f15_b (v0 : Value) : bindArgs (fdOf 74 3 (.str (S "law_wf0082_02") 2484) (.ref 197) 0) ⟨[v0], []⟩ = pure [(S "row", v0)] := by kernel_rfl
theorem f16_at (P : Params) (u : Nat → Obj) : (HF P u).get? 205 = some (o205_0 P) := by kernel_rfl
theorem f16_code (P : Params) (u : Nat → Obj) : codeB ((HF P u).get? 204) (fdOf 75 3 (.str (S "law_wf0082_02") 2484) (.ref 204) 0).qualname = true := by kernel_rfl
theorem f16_fn : cFn G (fdOf 75 3 (.str (S "law_wf0082_02") 2484) (.ref 204) 0) = some W2.fn16 := by kernel_rfl
theorem f16_p : FdP (fdOf 75 3 (.str (S "law_wf0082_02") 2484) (.ref 204) 0) := @of_decide_eq_true _ (decFdP _) (by kernel_rfl)
theorem f16_ps : psOf (fdOf 75 3 (.str (S "law_wf0082_02") 2484) (.ref 204) 0) = [S "symbol", S "term"] := by kernel_rfl
theorem f16_b (v0 v1 : Value) : bindArgs (fdOf 75 3 (.str (S "law_wf0082_02") 2484) (.ref 204) 0) ⟨[v0, v1], []⟩ = pure [(S "symbol", v0), (S "term", v1)] := by kernel_rfl
theorem f17_at (P : Params) (u : Nat → Obj) : (HF P u).get? 212 = some (o212_0 P) := by kernel_rfl
theorem f17_code (P : Params) (u : Nat → Obj) : codeB ((HF P u).get? 211) (fdOf 76 3 (.str (S "law_wf0082_02") 2484) (.ref 211) 0).qualname = true := by kernel_rfl
theorem f17_fn : cFn G (fdOf 76 3 (.str (S "law_wf0082_02") 2484) (.ref 211) 0) = some W2.fn17 := by kernel_rfl
theorem f17_p : FdP (fdOf 76 3 (.str (S "law_wf0082_02") 2484) (.ref 211) 0) := @of_decide_eq_true _ (decFdP _) (by kernel_rfl)
theorem f17_ps : psOf (fdOf 76 3 (.str (S "law_wf0082_02") 2484) (.ref 211) 0) = [S "tree"] := by kernel_rfl
theorem f17_b (v0 : Value) : bindArgs (fdOf 76 3 (.str (S "law_wf0082_02") 2484) (.ref 211) 0) ⟨[v0], []⟩ = pure [(S "tree", v0)] := by kernel_rfl
theorem f18_at (P : Params) (u : Nat → Obj) : (HF P u).get? 219 = some (o219_0 P) := by kernel_rfl
theorem f18_code (P : Params) (u : Nat → Obj) : codeB ((HF P u).get? 218) (fdOf 77 3 (.str (S "law_wf0082_02") 2484) (.ref 218) 0).qualname = true := by kernel_rfl
theorem f18_fn : cFn G (fdOf 77 3 (.str (S "law_wf0082_02") 2484) (.ref 218) 0) = some W2.fn18 := by kernel_rfl
theorem f18_p : FdP (fdOf 77 3 (.str (S "law_wf0082_02") 2484) (.ref 218) 0) := @of_decide_eq_true _ (decFdP _) (by kernel_rfl)
theorem f18_ps : psOf (fdOf 77 3 (.str (S "law_wf0082_02") 2484) (.ref 218) 0) = [S "term", S "names", S "pieces"] := by kernel_rfl
theorem f18_b (v0 v1 v2 : Value) : bindArgs (fdOf 77 3 (.str (S "law_wf0082_02") 2484) (.ref 218) 0) ⟨[v0, v1, v2], []⟩ = pure [(S "term", v0), (S "names", v1), (S "pieces", v2)] := by kernel_rfl
theorem f19_at (P : Params) (u : Nat → Obj) : (HF P u).get? 226 = some (o226_0 P) := by kernel_rfl
theorem f19_code (P : Params) (u : Nat → Obj) : codeB ((HF P u).get? 225) (fdOf 78 3 (.str (S "law_wf0082_02") 2484) (.ref 225) 0).qualname = true := by kernel_rfl
theorem f19_fn : cFn G (fdOf 78 3 (.str (S "law_wf0082_02") 2484) (.ref 225) 0) = some W2.fn19 := by kernel_rfl
theorem f19_p : FdP (fdOf 78 3 (.str (S "law_wf0082_02") 2484) (.ref 225) 0) := @of_decide_eq_true _ (decFdP _) (by kernel_rfl)
theorem f19_ps : psOf (fdOf 78 3 (.str (S "law_wf0082_02") 2484) (.ref 225) 0) = [S "term", S "names"] := by kernel_rfl
theorem f19_b (v0 v1 : Value) : bindArgs (fdOf 78 3 (.str (S "law_wf0082_02") 2484) (.ref 225) 0) ⟨[v0, v1], []⟩ = pure [(S "term", v0), (S "names", v1)] := by kernel_rfl
theorem f20_at (P : Params) (u : Nat → Obj) : (HF P u).get? 231 = some (o231_0 P) := by kernel_rfl
theorem f20_code (P : Params) (u : Nat → Obj) : codeB ((HF P u).get? 230) (fdOf 79 3 (.str (S "law_wf0082_02") 2484) (.ref 230) 0).qualname = true := by kernel_rfl
theorem f20_fn : cFn G (fdOf 79 3 (.str (S "law_wf0082_02") 2484) (.ref 230) 0) = some W2.fn20 := by kernel_rfl
theorem f20_p : FdP (fdOf 79 3 (.str (S "law_wf0082_02") 2484) (.ref 230) 0) := @of_decide_eq_true _ (decFdP _) (by kernel_rfl)
theorem f20_ps : psOf (fdOf 79 3 (.str (S "law_wf0082_02") 2484) (.ref 230) 0) = [S "script"] := by kernel_rfl
theorem f20_b (v0 : Value) : bindArgs (fdOf 79 3 (.str (S "law_wf0082_02") 2484) (.ref 230) 0) ⟨[v0], []⟩ = pure [(S "script", v0)] := by kernel_rfl

variable {w : World} {h : Heap} {mg mb : Str → Option Value} {u : Nat → Obj}
noncomputable def base (w : World) (h : Heap) (mg mb : Str → Option Value) : Base := { prog := pw, w, T := T0 L3, h₀ := h, mg, mb, at' := fun f => addrs[f]? }
theorem mg_is (hg : h.Ns mainGlobals mg) (hy : ∀ b o, (HF w.params u).get? b = some o → h.get? b = some o) (n : Str) : mg n = nsFind (e3_12 w.params).toArray n := by
  obtain ⟨o, es, ep, ho, hd, _, hf⟩ := hg
  have := hy 3 _ (main_at w.params u)
  rw [show mainGlobals = 3 from rfl, this] at ho
  cases ho
  cases hd
  exact (hf n).symm
theorem base_ok (hg : h.Ns mainGlobals mg) (hb : h.Ns builtinsNs mb) (hbu : ∀ x : Str, x ≠ "__name__" → mb x = bootBuiltins x) (hnl : h.NoLimit) : BOk (base w h mg mb) := ⟨hg, hb, hbu, hnl⟩
theorem tab_ok (hg : h.Ns mainGlobals mg) (hu : DObj (u b3lo) L3) (hy : ∀ b o, (HF w.params u).get? b = some o → h.get? b = some o) : TabOk (base w h mg mb) := by
  refine ⟨?_, ?_, ?_⟩
  · obtain ⟨n, hS⟩ := set_ok (prog := pw) (w := w) (hy _ _ (b1_at w.params u)) (b1_ex w.params u) (b1_sh w.params u) (b1_keys w.params u) (b1_fit w.params u)
    exact ⟨54, n, (mg_is hg hy _).trans (n_b1_set w.params), hS⟩
  · have hget : (HF w.params u).get? 65 = some (u b3lo) := by
      obtain ⟨es, ep, e, _⟩ := hu
      have e' := b3_get w.params u
      rw [show u 65 = u b3lo from rfl] at e'
      rw [e] at e' ⊢
      unfold Heap.get?
      rw [e']
    obtain ⟨f, hM, hf⟩ := b3_ok (prog := pw) (w := w) (hy _ _ hget) hu b3_size
    exact ⟨65, f, (mg_is hg hy _).trans (n_b3_exceptions w.params), rfl, hM, hf⟩
  · obtain ⟨f, hM, hf⟩ := tok_ok (prog := pw) (w := w) (hy _ _ (tk_at w.params u)) (tk_ex w.params u) (tk_is w.params u) (tk_sh w u) (tk_keys w.params u)
    exact ⟨111, f, (mg_is hg hy _).trans (n_EXACT_TOKEN_TYPES w.params), rfl, hM, hf⟩
theorem gl_ok (hg : h.Ns mainGlobals mg) (hy : ∀ b o, (HF w.params u).get? b = some o → h.get? b = some o) : GlOk (base w h mg mb) G := by
  refine gl_of (es := (e3_12 w.params).toArray) (addrs := addrs) (fun n => mg_is hg hy n) rfl (glb w.params) (bare w.params) fun f a ha => ?_
  match f, ha with

  | 0, ha => cases ha; exact ⟨_, _, hy _ _ (f0_at w.params u), rfl⟩
  | 1, ha => cases ha; exact ⟨_, _, hy _ _ (f1_at w.params u), rfl⟩
  | 2, ha => cases ha; exact ⟨_, _, hy _ _ (f2_at w.params u), rfl⟩
  | 3, ha => cases ha; exact ⟨_, _, hy _ _ (f3_at w.params u), rfl⟩
  | 4, ha => cases ha; exact ⟨_, _, hy _ _ (f4_at w.params u), rfl⟩
  | 5, ha => cases ha; exact ⟨_, _, hy _ _ (f5_at w.params u), rfl⟩
  | 6, ha => cases ha; exact ⟨_, _, hy _ _ (f6_at w.params u), rfl⟩
  | 7, ha => cases ha; exact ⟨_, _, hy _ _ (f7_at w.params u), rfl⟩
  | 8, ha => cases ha; exact ⟨_, _, hy _ _ (f8_at w.params u), rfl⟩
  | 9, ha => cases ha; exact ⟨_, _, hy _ _ (f9_at w.params u), rfl⟩
  | 10, ha => cases ha; exact ⟨_, _, hy _ _ (f10_at w.params u), rfl⟩
  | 11, ha => cases ha; exact ⟨_, _, hy _ _ (f11_at w.params u), rfl⟩
  | 12, ha => cases ha; exact ⟨_, _, hy _ _ (f12_at w.params u), rfl⟩
  | 13, ha => cases ha; exact ⟨_, _, hy _ _ (f13_at w.params u), rfl⟩
  | 14, ha => cases ha; exact ⟨_, _, hy _ _ (f14_at w.params u), rfl⟩
  | 15, ha => cases ha; exact ⟨_, _, hy _ _ (f15_at w.params u), rfl⟩
  | 16, ha => cases ha; exact ⟨_, _, hy _ _ (f16_at w.params u), rfl⟩
  | 17, ha => cases ha; exact ⟨_, _, hy _ _ (f17_at w.params u), rfl⟩
  | 18, ha => cases ha; exact ⟨_, _, hy _ _ (f18_at w.params u), rfl⟩
  | 19, ha => cases ha; exact ⟨_, _, hy _ _ (f19_at w.params u), rfl⟩
  | 20, ha => cases ha; exact ⟨_, _, hy _ _ (f20_at w.params u), rfl⟩
  | n + 21, ha => exact absurd ha (by simp [addrs])
theorem fn_ok (hg : h.Ns mainGlobals mg) (hb : h.Ns builtinsNs mb) (hbu : ∀ x : Str, x ≠ "__name__" → mb x = bootBuiltins x) (hnl : h.NoLimit) (hu : DObj (u b3lo) L3) (hy : ∀ b o, (HF w.params u).get? b = some o → h.get? b = some o) :
    ∀ (f : Nat) (fn : Fn) (a : Addr), W2.fns[f]? = some fn → (base w h mg mb).at' f = some a → ∃ fd cx ps body, FnOk (base w h mg mb) fd a cx ps fn body := fun f fn a hf ha => by
  have hB := base_ok (w := w) hg hb hbu hnl
  have hT := tab_ok (w := w) (mb := mb) hg hu hy
  have hG := gl_ok (w := w) (mb := mb) hg hy
  match f, hf, ha with
  | 0, hf, ha => cases hf; cases ha; exact fnOk_of hB hT hG ⟨_, hy _ _ (f0_at w.params u), rfl⟩ (codeB_ok (f0_code w.params u) hy) rfl rfl rfl f0_fn f0_p (bind_of1 f0_ps f0_b)
  | 1, hf, ha => cases hf; cases ha; exact fnOk_of hB hT hG ⟨_, hy _ _ (f1_at w.params u), rfl⟩ (codeB_ok (f1_code w.params u) hy) rfl rfl rfl f1_fn f1_p (bind_of1 f1_ps f1_b)
  | 2, hf, ha => cases hf; cases ha; exact fnOk_of hB hT hG ⟨_, hy _ _ (f2_at w.params u), rfl⟩ (codeB_ok (f2_code w.params u) hy) rfl rfl rfl f2_fn f2_p (bind_of1 f2_ps f2_b)
  | 3, hf, ha => cases hf; cases ha; exact fnOk_of hB hT hG ⟨_, hy _ _ (f3_at w.params u), rfl⟩ (codeB_ok (f3_code w.params u) hy) rfl rfl rfl f3_fn f3_p (bind_of1 f3_ps f3_b)
  | 4, hf, ha => cases hf; cases ha; exact fnOk_of hB hT hG ⟨_, hy _ _ (f4_at w.params u), rfl⟩ (codeB_ok (f4_code w.params u) hy) rfl rfl rfl f4_fn f4_p (bind_of1 f4_ps f4_b)
  | 5, hf, ha => cases hf; cases ha; exact fnOk_of hB hT hG ⟨_, hy _ _ (f5_at w.params u), rfl⟩ (codeB_ok (f5_code w.params u) hy) rfl rfl rfl f5_fn f5_p (bind_of1 f5_ps f5_b)
  | 6, hf, ha => cases hf; cases ha; exact fnOk_of hB hT hG ⟨_, hy _ _ (f6_at w.params u), rfl⟩ (codeB_ok (f6_code w.params u) hy) rfl rfl rfl f6_fn f6_p (bind_of1 f6_ps f6_b)
  | 7, hf, ha => cases hf; cases ha; exact fnOk_of hB hT hG ⟨_, hy _ _ (f7_at w.params u), rfl⟩ (codeB_ok (f7_code w.params u) hy) rfl rfl rfl f7_fn f7_p (bind_of1 f7_ps f7_b)
  | 8, hf, ha => cases hf; cases ha; exact fnOk_of hB hT hG ⟨_, hy _ _ (f8_at w.params u), rfl⟩ (codeB_ok (f8_code w.params u) hy) rfl rfl rfl f8_fn f8_p (bind_of1 f8_ps f8_b)
  | 9, hf, ha => cases hf; cases ha; exact fnOk_of hB hT hG ⟨_, hy _ _ (f9_at w.params u), rfl⟩ (codeB_ok (f9_code w.params u) hy) rfl rfl rfl f9_fn f9_p (bind_of2 f9_ps f9_b)
  | 10, hf, ha => cases hf; cases ha; exact fnOk_of hB hT hG ⟨_, hy _ _ (f10_at w.params u), rfl⟩ (codeB_ok (f10_code w.params u) hy) rfl rfl rfl f10_fn f10_p (bind_of1 f10_ps f10_b)
  | 11, hf, ha => cases hf; cases ha; exact fnOk_of hB hT hG ⟨_, hy _ _ (f11_at w.params u), rfl⟩ (codeB_ok (f11_code w.params u) hy) rfl rfl rfl f11_fn f11_p (bind_of3 f11_ps f11_b)
  | 12, hf, ha => cases hf; cases ha; exact fnOk_of hB hT hG ⟨_, hy _ _ (f12_at w.params u), rfl⟩ (codeB_ok (f12_code w.params u) hy) rfl rfl rfl f12_fn f12_p (bind_of3 f12_ps f12_b)
  | 13, hf, ha => cases hf; cases ha; exact fnOk_of hB hT hG ⟨_, hy _ _ (f13_at w.params u), rfl⟩ (codeB_ok (f13_code w.params u) hy) rfl rfl rfl f13_fn f13_p (bind_of1 f13_ps f13_b)
  | 14, hf, ha => cases hf; cases ha; exact fnOk_of hB hT hG ⟨_, hy _ _ (f14_at w.params u), rfl⟩ (codeB_ok (f14_code w.params u) hy) rfl rfl rfl f14_fn f14_p (bind_of2 f14_ps f14_b)
  | 15, hf, ha => cases hf; cases ha; exact fnOk_of hB hT hG ⟨_, hy _ _ (f15_at w.params u), rfl⟩ (codeB_ok (f15_code w.params u) hy) rfl rfl rfl f15_fn f15_p (bind_of1 f15_ps f15_b)
  | 16, hf, ha => cases hf; cases ha; exact fnOk_of hB hT hG ⟨_, hy _ _ (f16_at w.params u), rfl⟩ (codeB_ok (f16_code w.params u) hy) rfl rfl rfl f16_fn f16_p (bind_of2 f16_ps f16_b)
  | 17, hf, ha => cases hf; cases ha; exact fnOk_of hB hT hG ⟨_, hy _ _ (f17_at w.params u), rfl⟩ (codeB_ok (f17_code w.params u) hy) rfl rfl rfl f17_fn f17_p (bind_of1 f17_ps f17_b)
  | 18, hf, ha => cases hf; cases ha; exact fnOk_of hB hT hG ⟨_, hy _ _ (f18_at w.params u), rfl⟩ (codeB_ok (f18_code w.params u) hy) rfl rfl rfl f18_fn f18_p (bind_of3 f18_ps f18_b)
  | 19, hf, ha => cases hf; cases ha; exact fnOk_of hB hT hG ⟨_, hy _ _ (f19_at w.params u), rfl⟩ (codeB_ok (f19_code w.params u) hy) rfl rfl rfl f19_fn f19_p (bind_of2 f19_ps f19_b)
  | 20, hf, ha => cases hf; cases ha; exact fnOk_of hB hT hG ⟨_, hy _ _ (f20_at w.params u), rfl⟩ (codeB_ok (f20_code w.params u) hy) rfl rfl rfl f20_fn f20_p (bind_of1 f20_ps f20_b)
  | n + 21, hf, _ => exact absurd hf (by simp [W2.fns])
end P2
end
end Mine
end

section
set_option Elab.async false
set_option linter.unusedVariables false
set_option linter.unusedSimpArgs false
namespace Mine
namespace W2
theorem pred_ok {k d : Nat} (h : k < d) : ∃ e, d = e + 1 := ⟨d - 1, (Nat.succ_pred_eq_of_pos (Nat.zero_lt_of_lt h)).symm⟩
theorem pred2_ok {k d : Nat} (h : k + 1 < d) : ∃ e, d = e + 2 := ⟨d - 2, (Nat.sub_add_cancel (Nat.le_trans (Nat.succ_le_succ (Nat.succ_le_succ (Nat.zero_le k))) h)).symm⟩
theorem lt_l {a b d : Nat} (h : a + b + 1 < d + 1) : a < d := Nat.lt_of_le_of_lt (Nat.le_add_right a b) (Nat.lt_of_succ_lt_succ h)
theorem lt_r {a b d : Nat} (h : a + b + 1 < d + 1) : b < d := Nat.lt_of_le_of_lt (Nat.le_add_left b a) (Nat.lt_of_succ_lt_succ h)
theorem lt_l1 {a b d : Nat} (h : a + b + 1 + 1 < d + 1) : a + 1 < d := Nat.lt_of_le_of_lt (Nat.succ_le_succ (Nat.le_add_right a b)) (Nat.lt_of_succ_lt_succ h)
theorem lt_r1 {a b d : Nat} (h : a + b + 1 + 1 < d + 1) : b + 1 < d := Nat.lt_of_le_of_lt (Nat.succ_le_succ (Nat.le_add_left b a)) (Nat.lt_of_succ_lt_succ h)
theorem mx_l {a b d : Nat} (h : Nat.max a b + 1 < d + 1) : a < d := Nat.lt_of_le_of_lt (Nat.le_max_left a b) (Nat.lt_of_succ_lt_succ h)
theorem mx_r {a b d : Nat} (h : Nat.max a b + 1 < d + 1) : b < d := Nat.lt_of_le_of_lt (Nat.le_max_right a b) (Nat.lt_of_succ_lt_succ h)
theorem fns_0 : fns[0]? = some fn0 := rfl
theorem fns_1 : fns[1]? = some fn1 := rfl
theorem fns_2 : fns[2]? = some fn2 := rfl
theorem fns_3 : fns[3]? = some fn3 := rfl
theorem fns_4 : fns[4]? = some fn4 := rfl
theorem fns_5 : fns[5]? = some fn5 := rfl
theorem fns_6 : fns[6]? = some fn6 := rfl
theorem fns_7 : fns[7]? = some fn7 := rfl
theorem fns_8 : fns[8]? = some fn8 := rfl
theorem fns_9 : fns[9]? = some fn9 := rfl
theorem fns_10 : fns[10]? = some fn10 := rfl
theorem fns_11 : fns[11]? = some fn11 := rfl
theorem fns_12 : fns[12]? = some fn12 := rfl
theorem fns_13 : fns[13]? = some fn13 := rfl
theorem fns_14 : fns[14]? = some fn14 := rfl
theorem fns_15 : fns[15]? = some fn15 := rfl
theorem fns_16 : fns[16]? = some fn16 := rfl
theorem fns_17 : fns[17]? = some fn17 := rfl
theorem fns_18 : fns[18]? = some fn18 := rfl
theorem fns_19 : fns[19]? = some fn19 := rfl
theorem fns_20 : fns[20]? = some fn20 := rfl

section
variable (T : Tabs) (d : Nat) (σ : Store)
theorem isTerm (x : Int) : callD T fns (d + 1) 3 [.int x] σ = some (.bool (decide (x < 256)), σ) :=
  (callD_own fns_3 rfl rfl (exs_ret (v := .bool (decide (x < 256))) (σ' := []) rfl)).trans rfl
theorem isNon (x : Int) : callD T fns (d + 1) 4 [.int x] σ = some (.bool (decide (256 ≤ x)), σ) :=
  (callD_own fns_4 rfl rfl (exs_ret (v := .bool (decide (256 ≤ x))) (σ' := []) rfl)).trans rfl
theorem isEof (x : Int) : callD T fns (d + 1) 5 [.int x] σ = some (.bool (x == 0), σ) :=
  (callD_own fns_5 rfl rfl (exs_ret (v := .bool (x == 0)) (σ' := []) rfl)).trans rfl
theorem inB1_ok (c : Nat) : callD T fns (d + 1) 1 [.str [c]] σ = some (.bool (T.b1.contains (c : Int)), σ) :=
  (callD_own fns_1 rfl rfl (exs_ret (v := .bool (T.b1.contains (c : Int))) (σ' := []) rfl)).trans rfl
/-- a letter folded -/
noncomputable def fold1 (T : Tabs) (c : Nat) : List Nat := match T.b3.lookup (c : Int) with
  | some l => l
  | none => [lowA c]
theorem map_ok (c : Nat) (h : T.b3.lookup (c : Int) = none → c < 128) : callD T fns (d + 1) 2 [.str [c]] σ = some (.str (fold1 T c), σ) := by
  unfold fold1
  cases hl : T.b3.lookup (c : Int) with
  | some l =>
    refine (callD_own (v := .str l) (σ' := []) (ρ' := [some (.str [c]), some (.str l)]) fns_2 rfl rfl ?_).trans rfl
    have g : ev T (callD T fns d) [some (.str [c]), none] [] (Ex.un (Uop.getB3) (Ex.un (Uop.ord) (Ex.var 0))) = some (.str l, []) := by
      show some (optV (T.b3.lookup (c : Int)), ([] : Store)) = _
      rw [hl]; rfl
    exact (exs_next (ex_set g)).trans ((exs_stop ((exs_ite (t := true) rfl).trans (exs_ret rfl))))
  | none =>
    refine (callD_own (v := .str [lowA c]) (σ' := []) (ρ' := [some (.str [c]), some .none]) fns_2 rfl rfl ?_).trans rfl
    have g : ev T (callD T fns d) [some (.str [c]), none] [] (Ex.un (Uop.getB3) (Ex.un (Uop.ord) (Ex.var 0))) = some (.none, []) := by
      show some (optV (T.b3.lookup (c : Int)), ([] : Store)) = _
      rw [hl]; rfl
    have g2 : ev T (callD T fns d) [some (.str [c]), some .none] [] (Ex.un (Uop.lower) (Ex.var 0)) = some (.str [lowA c], []) := by
      show (if ([c].all (· < 128)) = true then some (V.str ([c].map lowA), ([] : Store)) else none) = _
      rw [if_pos (by rw [List.all_cons, decide_eq_true (h hl)]; rfl)]; rfl
    exact (exs_next (ex_set g)).trans ((exs_next ((exs_ite (t := false) rfl).trans exs_nil)).trans (exs_ret g2))
/-- a name in quotation marks -/
noncomputable def quotedS (l : List Nat) : List Nat := [34] ++ dblQ l ++ [34]
theorem dblQ_len : ∀ l : List Nat, (dblQ l).length ≤ 2 * l.length
  | [] => Nat.le_refl _
  | c :: r => by
    have := dblQ_len r
    simp only [dblQ]
    split <;> simp only [List.length_cons] <;> (first | lia | omega)
theorem quoted_ok (l : List Nat) (hl : l.length ≤ 1000) : callD T fns (d + 1) 10 [.str l] σ = some (.str (quotedS l), σ) := by
  have h1 := dblQ_len l
  have hL : LIM = 16777216 := rfl
  have hd : evU T .dbl (.str l) [] = some (.str (dblQ l), []) := by
    show (if 3 * l.length + 2 ≤ LIM then some (V.str (dblQ l), []) else none) = _
    rw [if_pos (by (first | lia | omega))]
  have ha : evB .add (.str [34]) (.str (dblQ l)) [] = some (.str ([34] ++ dblQ l), []) := evB_add_str (by simp only [List.length_cons, List.length_nil]; (first | lia | omega))
  have hb : evB .add (.str ([34] ++ dblQ l)) (.str [34]) [] = some (.str ([34] ++ dblQ l ++ [34]), []) := evB_add_str (by simp only [List.length_append, List.length_cons, List.length_nil]; (first | lia | omega))
  refine (callD_own (v := .str (quotedS l)) (σ' := []) (ρ' := [some (.str l)]) fns_10 rfl rfl (exs_ret ?_)).trans rfl
  exact (ev_bin2 ((ev_bin2 (x := .str [34]) (σ₁ := []) (by simp [ev]) ((ev_un2 (x := .str l) (σ₁ := []) (by simp [ev])).trans hd)).trans ha) (by simp [ev])).trans hb
end

/-! trees -/
set_option genInjectivity false
inductive Tr where
  | leaf (k : Nat) | app (a b : Tr) | dfn (x : Nat) (a b : Tr)
noncomputable def Tr.v : Tr → V
  | leaf k => .int k
  | app a b => .tup [a.v, b.v]
  | dfn x a b => .tup [.int x, a.v, b.v]
noncomputable def Tr.sz : Tr → Nat
  | leaf _ => 0
  | app a b => a.sz + b.sz + 1
  | dfn _ a b => a.sz + b.sz + 1
theorem Tr.noL : ∀ t : Tr, noLst t.v = true
  | leaf k => rfl
  | app a b => by simp [Tr.v, noLst, noLsts, a.noL, b.noL]
  | dfn x a b => by simp [Tr.v, noLst, noLsts, a.noL, b.noL]

section
variable (T : Tabs)
theorem item2 {C : Calls} {ρ : REnv} {σ : Store} {i : Nat} {l : List V} {v : V} {k : Nat} (h : ρ[i]? = some (some (.tup l))) (hk : l[k]? = some v) : ev T C ρ σ (Ex.bin (Bop.item) (Ex.var i) (Ex.int k)) = some (v, σ) := by
  have hlt := (List.getElem?_eq_some_iff.mp hk).1
  exact (ev_bin2 (x := .tup l) (y := .int k) (σ₁ := σ) (σ₂ := σ) (by simp only [ev, h]) (by simp only [ev])).trans (evB_item_tup (place_nat' hlt) hk)
/-- the free names -/
noncomputable def Tr.free : Tr → List Nat
  | leaf k => [k]
  | app a b => a.free ++ b.free
  | dfn x a b => b.free.filter (· != x) ++ a.free
theorem Tr.free_len : ∀ t : Tr, t.free.length ≤ t.sz + 1
  | leaf k => Nat.le_refl _
  | app a b => by have := a.free_len; have := b.free_len; simp only [free, sz, List.length_append]; (first | lia | omega)
  | dfn x a b => by
    have := a.free_len
    have := b.free_len
    have := List.length_filter_le (· != x) b.free
    simp only [free, sz, List.length_append]; (first | lia | omega)
theorem call1 {C : Calls} {ρ : REnv} {σ σ₁ : Store} {f : Nat} {e : Ex} {x : V} {r : V × Store} (h : ev T C ρ σ e = some (x, σ₁)) (hC : C f [x] σ₁ = some r) : ev T C ρ σ (Ex.call f (Exs.cons e Exs.nil)) = some r := by
  simp only [ev, evs, h, hC]
theorem call2 {C : Calls} {ρ : REnv} {σ σ₁ σ₂ : Store} {f : Nat} {e e' : Ex} {x y : V} {r : V × Store} (h : ev T C ρ σ e = some (x, σ₁)) (h' : ev T C ρ σ₁ e' = some (y, σ₂)) (hC : C f [x, y] σ₂ = some r) : ev T C ρ σ (Ex.call f (Exs.cons e (Exs.cons e' Exs.nil))) = some r := by
  simp only [ev, evs, h, h', hC]
theorem call3 {C : Calls} {ρ : REnv} {σ σ₁ σ₂ σ₃ : Store} {f : Nat} {e e' e'' : Ex} {x y z : V} {r : V × Store} (h : ev T C ρ σ e = some (x, σ₁)) (h' : ev T C ρ σ₁ e' = some (y, σ₂)) (h'' : ev T C ρ σ₂ e'' = some (z, σ₃)) (hC : C f [x, y, z] σ₃ = some r) : ev T C ρ σ (Ex.call f (Exs.cons e (Exs.cons e' (Exs.cons e'' Exs.nil)))) = some r := by
  simp only [ev, evs, h, h', h'', hC]
theorem ev_var {C : Calls} {ρ : REnv} {σ : Store} {i : Nat} {v : V} (h : ρ[i]? = some (some v)) : ev T C ρ σ (.var i) = some (v, σ) := by
  simp only [ev, h]
theorem notTup_ok {C : Calls} {ρ : REnv} {σ : Store} {i : Nat} {l : List V} (h : ρ[i]? = some (some (.tup l))) : ev T C ρ σ (Ex.not (Ex.un (Uop.isTup) (Ex.var i))) = some (.bool false, σ) := by
  simp only [ev, h]; rfl
theorem notTup_int {C : Calls} {ρ : REnv} {σ : Store} {i : Nat} {k : Int} (h : ρ[i]? = some (some (.int k))) : ev T C ρ σ (Ex.not (Ex.un (Uop.isTup) (Ex.var i))) = some (.bool true, σ) := by
  simp only [ev, h]; rfl
theorem len2_ok {C : Calls} {ρ : REnv} {σ : Store} {i : Nat} {l : List V} {b : Bool} (h : ρ[i]? = some (some (.tup l))) (hb : decide (l.length = 2) = b) : ev T C ρ σ (Ex.bin (Bop.eq) (Ex.un (Uop.len) (Ex.var i)) (Ex.int 2)) = some (.bool b, σ) := by
  subst hb
  have e : ((l.length : Int) == 2) = decide (l.length = 2) := by
    rw [Bool.eq_iff_iff, beq_iff_eq, decide_eq_true_iff]; (first | lia | omega)
  refine (ev_bin2 ((ev_un2 (ev_var T h)).trans (show evU T .len (.tup l) σ = some (.int (l.length : Int), σ) from rfl)) (by rw [ev])).trans ?_
  show (some ((l.length : Int) == 2)).map (fun r => (V.bool r, σ)) = _
  rw [e]; rfl
theorem skip {C : Calls} {ρ : REnv} {σ : Store} {c : Ex} {a : Sts} {r : Sts} (h : ev T C ρ σ c = some (.bool false, σ)) : exs T C ρ σ (.cons (.ite c a .nil) r) = exs T C ρ σ r := by
  refine exs_next ((exs_ite h).trans ?_)
  exact exs_nil
theorem take {C : Calls} {ρ : REnv} {σ σ' : Store} {c e : Ex} {r b b' : Sts} {v : V} (h : ev T C ρ σ c = some (.bool true, σ)) (he : ev T C ρ σ e = some (v, σ')) : exs T C ρ σ (.cons (.ite c (.cons (.ret e) b) b') r) = some (.ret v, ρ, σ') := by
  exact exs_stop ((exs_ite h).trans (exs_ret he))
theorem free_ok (t : Tr) : ∀ (d : Nat), t.sz < d → t.sz ≤ 1000 → ∀ σ, callD T fns d 8 [t.v] σ = some (.lst σ.length, σ ++ [t.free.map fun k : Nat => V.int k]) := by
  have hL : LIM = 16777216 := rfl
  induction t with
  | leaf k =>
    intro d hd hs σ
    obtain ⟨d, rfl⟩ := pred_ok hd
    refine (callD_own (v := .lst 0) (σ' := [[.int k]]) (ρ' := [some (.int k)]) fns_8 rfl rfl (take T (notTup_int T rfl) ?_)).trans (giveBack_lst rfl rfl)
    simp [ev, evs, LIM, Tr.v]
  | app a b iha ihb =>
    intro d hd hs σ
    obtain ⟨d, rfl⟩ := pred_ok hd
    simp only [Tr.sz] at hd hs
    have ha := iha d (lt_l hd) (by (first | lia | omega)) []
    have hb := ihb d (lt_r hd) (by (first | lia | omega)) [a.free.map fun k : Nat => V.int k]
    have la := a.free_len
    have lb := b.free_len
    refine (callD_own (v := .lst 2) (σ' := [a.free.map fun k : Nat => V.int k, b.free.map fun k : Nat => V.int k, (a.free.map fun k : Nat => V.int k) ++ b.free.map fun k : Nat => V.int k]) (ρ' := [some (.tup [a.v, b.v])]) fns_8 rfl (by simp [noLsts, Tr.noL]) ((skip T (notTup_ok T rfl)).trans (take T (len2_ok T rfl rfl) ?_))).trans ?_
    · exact (ev_bin2 (call1 T (item2 T (k := 0) rfl rfl) ha) (call1 T (item2 T (k := 1) rfl rfl) hb)).trans (evB_add_lst (σ := [_, _]) rfl rfl (by simp only [List.length_map]; (first | lia | omega)))
    · rw [giveBack_lst rfl]
      · simp [Tr.free]
      · have : ∀ l : List Nat, noLsts (l.map fun k : Nat => V.int k) = true := fun l => by
          induction l with
          | nil => rfl
          | cons k l ih => simp [noLsts, noLst, ih]
        rw [← List.map_append]; exact this _
  | dfn x a b iha ihb =>
    intro d hd hs σ
    obtain ⟨d, rfl⟩ := pred_ok hd
    simp only [Tr.sz] at hd hs
    have hb := ihb d (lt_r hd) (by (first | lia | omega)) []
    have la := a.free_len
    have lb := b.free_len
    have lf := List.length_filter_le (· != x) b.free
    have hc : ev T (callD T fns d) [some (.tup [.int x, a.v, b.v])] [] (Ex.compIf (Ex.call 8 (Exs.cons (Ex.bin (Bop.item) (Ex.var 0) (Ex.int 2)) (Exs.nil))) (Ex.bin (Bop.ne) (Ex.var 1) (Ex.bin (Bop.item) (Ex.var 0) (Ex.int 0))) (Ex.var 1)) = some (.lst 1, [b.free.map fun k : Nat => V.int k, (b.free.filter (· != x)).map fun k : Nat => V.int k]) := by
      have hv : ∀ k : Nat, ([some (V.tup [.int x, a.v, b.v])] ++ [some (V.int k)])[1]? = some (some (.int k)) := fun k => rfl
      have hstep : ∀ y ∈ b.free.map fun k : Nat => V.int k, cIf T (callD T fns d) [some (.tup [.int x, a.v, b.v])] (Ex.bin (Bop.ne) (Ex.var 1) (Ex.bin (Bop.item) (Ex.var 0) (Ex.int 0))) (Ex.var 1) y [b.free.map fun k : Nat => V.int k] = some ((fun y : V => if y matches .int _ then (if intOf y != (x : Int) then some y else none) else none) y, [b.free.map fun k : Nat => V.int k]) := by
        intro y hy
        obtain ⟨k, _, rfl⟩ := List.mem_map.mp hy
        have hcond : ev T (callD T fns d) ([some (V.tup [.int x, a.v, b.v])] ++ [some (V.int k)]) [b.free.map fun k : Nat => V.int k] (Ex.bin (Bop.ne) (Ex.var 1) (Ex.bin (Bop.item) (Ex.var 0) (Ex.int 0))) = some (.bool ((k : Int) != (x : Int)), [b.free.map fun k : Nat => V.int k]) :=
          (ev_bin2 (ev_var T (hv k)) (item2 T (k := 0) rfl rfl)).trans rfl
        cases hb : ((k : Int) != (x : Int)) with
        | true => rw [hb] at hcond; rw [cIf_true hcond (ev_var T (hv k))]; simp [intOf, hb]
        | false => rw [hb] at hcond; rw [cIf_false hcond]; simp [intOf, hb]
      have hloop := comp_live (n := 0) (xs := b.free.map fun k : Nat => V.int k) rfl _ hstep (by rw [List.length_map]; have : TURNS = 100000 := rfl; (first | lia | omega))
      have hfm : ∀ l : List Nat, (l.map fun k : Nat => V.int k).filterMap (fun y : V => if y matches .int _ then (if intOf y != (x : Int) then some y else none) else none) = (l.filter (· != x)).map fun k : Nat => V.int k := fun l => by
        induction l with
        | nil => rfl
        | cons k l ih =>
          rw [List.map_cons, List.filterMap_cons, List.filter_cons, ih]
          have e : ((k : Int) != (x : Int)) = (k != x) := by
            rw [Bool.eq_iff_iff, bne_iff_ne, bne_iff_ne]; (first | lia | omega)
          cases hb : (k != x) with
          | true => simp [intOf, e, hb]
          | false => simp [intOf, e, hb]
      rw [hfm] at hloop
      exact ev_compIf_intro (call1 T (item2 T (k := 2) rfl rfl) hb) rfl hloop (by rw [List.length_map]; (first | lia | omega))
    have ha := iha d (lt_l hd) (by (first | lia | omega)) [b.free.map fun k : Nat => V.int k, (b.free.filter (· != x)).map fun k : Nat => V.int k]
    refine (callD_own (v := .lst 3) (σ' := [b.free.map fun k : Nat => V.int k, (b.free.filter (· != x)).map fun k : Nat => V.int k, a.free.map fun k : Nat => V.int k, ((b.free.filter (· != x)).map fun k : Nat => V.int k) ++ a.free.map fun k : Nat => V.int k]) (ρ' := [some (.tup [.int x, a.v, b.v])]) fns_8 rfl (by simp [noLsts, noLst, Tr.noL]) ((skip T (notTup_ok T rfl)).trans ((skip T (len2_ok T rfl rfl)).trans (exs_ret ?_)))).trans ?_
    · exact (ev_bin2 hc (call1 T (item2 T (k := 1) rfl rfl) ha)).trans (evB_add_lst (σ := [_, _, _]) rfl rfl (by simp only [List.length_map]; (first | lia | omega)))
    · rw [giveBack_lst rfl]
      · simp [Tr.free]
      · have : ∀ l : List Nat, noLsts (l.map fun k : Nat => V.int k) = true := fun l => by
          induction l with
          | nil => rfl
          | cons k l ih => simp [noLsts, noLst, ih]
        rw [← List.map_append]; exact this _
end
end W2
end Mine
end

section
set_option Elab.async false
set_option linter.unusedVariables false
set_option linter.unusedSimpArgs false
namespace Mine
namespace W2
section
variable (T : Tabs) {C : Calls} {ρ : REnv} {σ σ₁ σ₂ σ₃ : Store}
theorem tup2 {e e' : Ex} {x y : V} (h : ev T C ρ σ e = some (x, σ₁)) (h' : ev T C ρ σ₁ e' = some (y, σ₂)) : ev T C ρ σ (Ex.tup (Exs.cons e (Exs.cons e' Exs.nil))) = some (.tup [x, y], σ₂) := by
  have hL : (2 : Nat) ≤ LIM := by decide
  simp only [ev, evs, h, h', List.length_cons, List.length_nil, if_pos hL]
theorem tup3 {e e' e'' : Ex} {x y z : V} (h : ev T C ρ σ e = some (x, σ₁)) (h' : ev T C ρ σ₁ e' = some (y, σ₂)) (h'' : ev T C ρ σ₂ e'' = some (z, σ₃)) : ev T C ρ σ (Ex.tup (Exs.cons e (Exs.cons e' (Exs.cons e'' Exs.nil)))) = some (.tup [x, y, z], σ₃) := by
  have hL : (3 : Nat) ≤ LIM := by decide
  simp only [ev, evs, h, h', h'', List.length_cons, List.length_nil, if_pos hL]
theorem list1 {e : Ex} {x : V} (h : ev T C ρ σ e = some (x, σ₁)) : ev T C ρ σ (Ex.list (Exs.cons e Exs.nil)) = some (.lst σ₁.length, σ₁ ++ [[x]]) := by
  have hL : (1 : Nat) ≤ LIM := by decide
  simp only [ev, evs, h, List.length_cons, List.length_nil, if_pos hL]
theorem ite_yes {c a b : Ex} {r : V × Store} (hc : ev T C ρ σ c = some (.bool true, σ₁)) (ha : ev T C ρ σ₁ a = some r) : ev T C ρ σ (.ite c a b) = some r := by rw [ev, hc]; exact ha
theorem ite_no {c a b : Ex} {r : V × Store} (hc : ev T C ρ σ c = some (.bool false, σ₁)) (hb : ev T C ρ σ₁ b = some r) : ev T C ρ σ (.ite c a b) = some r := by rw [ev, hc]; exact hb
theorem list0 : ev T C ρ σ (Ex.list Exs.nil) = some (.lst σ.length, σ ++ [[]]) := by
  have hL : (0 : Nat) ≤ LIM := by decide
  simp only [ev, evs, List.length_nil, if_pos hL]
theorem ev_int {i : Int} : ev T C ρ σ (Ex.int i) = some (.int i, σ) := by rw [ev]
theorem ev_str {l : List Nat} : ev T C ρ σ (Ex.str l) = some (.str l, σ) := by rw [ev]
theorem ex_setItem {i n : Nat} {k e : Ex} {v : V} {j : Nat} {xs : List V} (h : ev T C ρ σ e = some (v, σ₁)) (hi : ρ[i]? = some (some (.lst n))) (hk : ev T C ρ σ₁ k = some (.int j, σ₂)) (hx : σ₂[n]? = some xs) (hj : j < xs.length) : ex T C ρ σ (.setItem i k e) = some (.next, ρ, σ₂.set n (xs.set j v)) := by
  rw [ex, h]
  simp only [hi, hk, hx, Int.toNat_natCast]
  rw [if_pos ⟨Int.natCast_nonneg j, hj⟩]
theorem set_self' {σ : Store} {n : Nat} {xs : List V} (h : σ[n]? = some xs) : σ.set n xs = σ := by
  apply List.ext_getElem?
  intro i
  rw [List.getElem?_set]
  by_cases e : n = i
  · subst e
    have := (List.getElem?_eq_some_iff.mp h).1
    simp [this, (List.getElem?_eq_some_iff.mp h).2]
  · simp [e]
end

/-- the value of a tree whose names are known -/
noncomputable def Tr.val : Tr → List V → V
  | leaf k, ks => ks.getD k .none
  | app a b, ks => .tup [a.val ks, b.val ks]
  | dfn x a b, ks => b.val (ks.set x (a.val ks))
noncomputable def Tr.ok : Tr → Prop
  | leaf k => k < 3
  | app a b => a.ok ∧ b.ok
  | dfn x a b => x < 3 ∧ a.ok ∧ b.ok
theorem at_app {σ ν : Store} {n : Nat} {xs : List V} (h : σ[n]? = some xs) : (σ ++ ν)[n]? = some xs := by
  rw [List.getElem?_append_left (List.getElem?_eq_some_iff.mp h).1]; exact h
theorem value_ok (T : Tabs) (t : Tr) : ∀ (d : Nat), t.sz < d → t.ok → ∀ (σ : Store) (n : Nat) (ks : List V), σ[n]? = some ks → ks.length = 3 → ∃ ν, callD T fns d 9 [t.v, .lst n] σ = some (t.val ks, σ ++ ν) := by
  induction t with
  | leaf k =>
    intro d hd hk σ n ks hn hl
    obtain ⟨d, rfl⟩ := pred_ok hd
    have hk' : k < ks.length := by rw [hl]; exact hk
    refine ⟨[], (callD_in (ρ' := [some (.int k), some (.lst n), none]) fns_9 rfl rfl (take T (notTup_int T rfl) (σ' := σ) ((ev_bin2 (ev_var T rfl) (ev_var T rfl)).trans (evB_item_lst hn (place_nat' hk') (List.getElem?_eq_getElem hk'))))).trans ?_⟩
    rw [Tr.val, List.getD_eq_getElem?_getD, List.getElem?_eq_getElem hk', List.append_nil]; rfl
  | app a b iha ihb =>
    intro d hd hk σ n ks hn hl
    obtain ⟨d, rfl⟩ := pred_ok hd
    simp only [Tr.sz] at hd
    obtain ⟨ν₁, h1⟩ := iha d (lt_l hd) hk.1 σ n ks hn hl
    obtain ⟨ν₂, h2⟩ := ihb d (lt_r hd) hk.2 (σ ++ ν₁) n ks (at_app hn) hl
    refine ⟨ν₁ ++ ν₂, ?_⟩
    rw [← List.append_assoc]
    exact callD_in (ρ' := [some (.tup [a.v, b.v]), some (.lst n), none]) fns_9 rfl (by simp [noLsts, noLst]) ((skip T (notTup_ok T rfl)).trans (take T (len2_ok T rfl rfl) (tup2 T (call2 T (item2 T (k := 0) rfl rfl) (ev_var T rfl) h1) (call2 T (item2 T (k := 1) rfl rfl) (ev_var T rfl) h2))))
  | dfn x a b iha ihb =>
    intro d hd hk σ n ks hn hl
    obtain ⟨d, rfl⟩ := pred_ok hd
    simp only [Tr.sz] at hd
    obtain ⟨hx, ha, hb⟩ := hk
    obtain ⟨ν₁, h1⟩ := iha d (lt_l hd) ha (σ ++ [ks]) n ks (at_app hn) hl
    have e1 : (σ ++ [ks] ++ ν₁)[σ.length]? = some ks := at_app (by simp)
    have e2 : (σ ++ [ks] ++ ν₁).set σ.length (ks.set x (a.val ks)) = σ ++ [ks.set x (a.val ks)] ++ ν₁ := by simp
    obtain ⟨ν₂, h2⟩ := ihb d (lt_r hd) hb (σ ++ [ks.set x (a.val ks)] ++ ν₁) σ.length (ks.set x (a.val ks)) (at_app (by simp)) (by rw [List.length_set, hl])
    refine ⟨[ks.set x (a.val ks)] ++ ν₁ ++ ν₂, ?_⟩
    rw [← List.append_assoc, ← List.append_assoc]
    refine callD_in (ρ' := [some (.tup [.int x, a.v, b.v]), some (.lst n), some (.lst σ.length)]) fns_9 rfl (by simp [noLsts, noLst]) ((skip T (notTup_ok T rfl)).trans ((skip T (len2_ok T rfl rfl)).trans ((exs_next (ex_set (v := .lst σ.length) (σ' := σ ++ [ks]) ((ev_un2 (ev_var T rfl)).trans (evU_list hn)))).trans ((exs_next (ex_setItem T (n := σ.length) (xs := ks) (call2 T (item2 T (k := 1) rfl rfl) (ev_var T rfl) h1) rfl (item2 T (k := 0) rfl rfl) e1 (by rw [hl]; exact hx))).trans (exs_ret ?_)))))
    rw [e2]
    exact call2 T (item2 T (k := 2) rfl rfl) (ev_var T rfl) h2

/-! terms of operators -/
inductive Cm where
  | atom (i : Int) | app (a b : Cm)
noncomputable def Cm.v : Cm → V
  | atom i => .int i
  | app a b => .tup [a.v, b.v]
noncomputable def Cm.dp : Cm → Nat
  | atom _ => 0
  | app a b => Nat.max a.dp b.dp + 1
theorem Cm.noL : ∀ t : Cm, noLst t.v = true
  | atom k => rfl
  | app a b => by simp [Cm.v, noLst, noLsts, a.noL, b.noL]
/-- without a symbol -/
noncomputable def Cm.wo (s : Int) : Cm → Option Cm
  | atom i => if i = s then some (atom 16) else none
  | app a b => match a.wo s with
    | none => match b.wo s with
      | none => none
      | some r => some (app (app (atom 17) a) r)
    | some l => match b.wo s with
      | none => some (app (app (atom 47) l) b)
      | some r => some (app (app (atom 46) l) r)
noncomputable def optC : Option Cm → V
  | none => .none
  | some t => t.v
theorem optC_noL : ∀ o : Option Cm, noLst (optC o) = true
  | none => rfl
  | some t => t.noL
theorem isNone_ok (o : Option Cm) (σ : Store) : evB .is (optC o) .none σ = some (.bool o.isNone, σ) := by
  cases o with
  | none => rfl
  | some t => cases t <;> rfl
theorem giveC (o : Option Cm) (σ' σ : Store) : giveBack (optC o) σ' σ = some (optC o, σ) := by
  cases o with
  | none => rfl
  | some t =>
    cases t with
    | atom i => rfl
    | app a b => exact giveBack_tup (Cm.app a b).noL
theorem without_ok (T : Tabs) (s : Int) (t : Cm) : ∀ (d : Nat), t.dp < d → ∀ σ, callD T fns d 16 [.int s, t.v] σ = some (optC (t.wo s), σ) := by
  induction t with
  | atom i =>
    intro d hd σ
    obtain ⟨d, rfl⟩ := pred_ok hd
    refine (callD_own (v := optC (Cm.wo s (.atom i))) (σ' := []) (ρ' := [some (.int s), some (.int i), none, none]) fns_16 rfl rfl (take T (notTup_int T rfl) ?_)).trans (giveC _ _ _)
    have hc : ev T (callD T fns d) [some (.int s), some (.int i), none, none] [] (Ex.bin (Bop.eq) (Ex.var 1) (Ex.var 0)) = some (.bool (i == s), []) := (ev_bin2 (ev_var T rfl) (ev_var T rfl)).trans rfl
    simp only [Cm.v] at hc ⊢
    by_cases h : i = s
    · subst h
      rw [show (i == i) = true by simp] at hc
      rw [Cm.wo, if_pos rfl]
      exact ite_yes T hc (ev_int T)
    · have e : (i == s) = false := by simpa using h
      rw [e] at hc
      rw [Cm.wo, if_neg h]
      exact ite_no T hc (by rw [ev]; rfl)
  | app a b iha ihb =>
    intro d hd σ
    obtain ⟨d, rfl⟩ := pred_ok hd
    simp only [Cm.dp] at hd
    have hm1 : a.dp ≤ Nat.max a.dp b.dp := Nat.le_max_left _ _
    have hm2 : b.dp ≤ Nat.max a.dp b.dp := Nat.le_max_right _ _
    have ha := iha d (mx_l hd) []
    have hb := ihb d (mx_r hd) []
    have hargs : noLsts [V.int s, (Cm.app a b).v] = true := by simp [noLsts, noLst, Cm.noL]
    have nn : ∀ (x y : Option Cm), ev T (callD T fns d) [some (.int s), some (.tup [a.v, b.v]), some (optC x), some (optC y)] [] (Ex.bin (Bop.is) (Ex.var 2) (Ex.none)) = some (.bool x.isNone, []) := fun x y =>
      (ev_bin2 (ev_var T rfl) (by rw [ev])).trans (isNone_ok x [])
    have nn3 : ∀ (x y : Option Cm), ev T (callD T fns d) [some (.int s), some (.tup [a.v, b.v]), some (optC x), some (optC y)] [] (Ex.bin (Bop.is) (Ex.var 3) (Ex.none)) = some (.bool y.isNone, []) := fun x y =>
      (ev_bin2 (ev_var T rfl) (by rw [ev])).trans (isNone_ok y [])
    refine (callD_own (v := optC (Cm.wo s (.app a b))) (σ' := []) (ρ' := [some (.int s), some (.tup [a.v, b.v]), some (optC (a.wo s)), some (optC (b.wo s))]) fns_16 rfl hargs ((skip T (notTup_ok T rfl)).trans ((exs_next (ex_set (call2 T (ev_var T rfl) (item2 T (k := 0) rfl rfl) ha))).trans ((exs_next (ex_set (call2 T (ev_var T rfl) (item2 T (k := 1) rfl rfl) hb))).trans ?_)))).trans (giveC _ _ _)
    rw [Cm.wo]
    show exs T (callD T fns d) [some (.int s), some (.tup [a.v, b.v]), some (optC (a.wo s)), some (optC (b.wo s))] [] _ = _
    generalize a.wo s = x
    generalize b.wo s = y
    have hand : ev T (callD T fns d) [some (.int s), some (.tup [a.v, b.v]), some (optC x), some (optC y)] [] (Ex.and (Ex.bin (Bop.is) (Ex.var 2) (Ex.none)) (Ex.bin (Bop.is) (Ex.var 3) (Ex.none))) = some (.bool (x.isNone && y.isNone), []) := by
      rw [ev, nn]
      cases x with
      | none => simp only [Option.isNone_none, nn3]; rfl
      | some _ => rfl
    cases x with
    | none =>
      cases y with
      | none => exact take T hand (by rw [ev]; rfl)
      | some r => exact (skip T hand).trans (take T (nn _ _) (tup2 T (tup2 T (ev_int T) (item2 T (k := 0) rfl rfl)) (ev_var T rfl)))
    | some l =>
      cases y with
      | none => exact (skip T hand).trans ((skip T (nn _ _)).trans (take T (nn3 _ _) (tup2 T (tup2 T (ev_int T) (ev_var T rfl)) (item2 T (k := 1) rfl rfl))))
      | some r => exact (skip T hand).trans ((skip T (nn _ _)).trans ((skip T (nn3 _ _)).trans (exs_ret (tup2 T (tup2 T (ev_int T) (ev_var T rfl)) (ev_var T rfl)))))

/-! trees as they are read -/
set_option genInjectivity false
inductive Pt where
  | atom (i : Int) | app (a b : Pt) | arr (x : Int) (b : Pt)
noncomputable def Pt.v : Pt → V
  | atom i => .int i
  | app a b => .tup [a.v, b.v]
  | arr x b => .tup [.int 51, .int x, b.v]
theorem Pt.noL : ∀ t : Pt, noLst t.v = true
  | atom k => rfl
  | app a b => by simp [Pt.v, noLst, noLsts, a.noL, b.noL]
  | arr x b => by simp [Pt.v, noLst, noLsts, b.noL]
/-- without names -/
noncomputable def Pt.bare : Pt → Cm
  | atom i => .atom i
  | app a b => .app a.bare b.bare
  | arr x b => match b.bare.wo x with
    | none => .app (.atom 35) b.bare
    | some h => h
/-- how deep the calls go -/
noncomputable def Pt.nd : Pt → Nat
  | atom _ => 0
  | app a b => Nat.max a.nd b.nd + 1
  | arr x b => Nat.max b.nd b.bare.dp + 1
theorem giveCm (t : Cm) (σ' σ : Store) : giveBack t.v σ' σ = some (t.v, σ) := giveC (some t) σ' σ
theorem bare_ok (T : Tabs) (t : Pt) : ∀ (d : Nat), t.nd < d → ∀ σ, callD T fns d 17 [t.v] σ = some (t.bare.v, σ) := by
  induction t with
  | atom i =>
    intro d hd σ
    obtain ⟨d, rfl⟩ := pred_ok hd
    exact (callD_own (σ' := []) (ρ' := [some (.int i), none, none]) fns_17 rfl rfl (take T (notTup_int T rfl) (ev_var T rfl))).trans rfl
  | app a b iha ihb =>
    intro d hd σ
    obtain ⟨d, rfl⟩ := pred_ok hd
    simp only [Pt.nd] at hd
    have hm1 : a.nd ≤ Nat.max a.nd b.nd := Nat.le_max_left _ _
    have hm2 : b.nd ≤ Nat.max a.nd b.nd := Nat.le_max_right _ _
    have ha := iha d (mx_l hd) []
    have hb := ihb d (mx_r hd) []
    exact (callD_own (σ' := []) (ρ' := [some (.tup [a.v, b.v]), none, none]) fns_17 rfl (by simp [noLsts, Pt.noL]) ((skip T (notTup_ok T rfl)).trans (take T (len2_ok T rfl rfl) (tup2 T (call1 T (item2 T (k := 0) rfl rfl) ha) (call1 T (item2 T (k := 1) rfl rfl) hb))))).trans (giveCm (.app a.bare b.bare) _ _)
  | arr x b ih =>
    intro d hd σ
    obtain ⟨d, rfl⟩ := pred_ok hd
    simp only [Pt.nd] at hd
    have hm1 : b.nd ≤ Nat.max b.nd b.bare.dp := Nat.le_max_left _ _
    have hm2 : b.bare.dp ≤ Nat.max b.nd b.bare.dp := Nat.le_max_right _ _
    have hb := ih d (mx_l hd) []
    have hw := without_ok T x b.bare d (by (first | lia | omega)) []
    refine (callD_own (v := (Pt.arr x b).bare.v) (σ' := []) (ρ' := [some (.tup [.int 51, .int x, b.v]), some b.bare.v, some (optC (b.bare.wo x))]) fns_17 rfl (by simp [noLsts, Pt.noL]) ((skip T (notTup_ok T rfl)).trans ((skip T (len2_ok T rfl rfl)).trans ((exs_next (ex_set (call1 T (item2 T (k := 2) rfl rfl) hb))).trans ((exs_next (ex_set (call2 T (item2 T (k := 1) rfl rfl) (ev_var T rfl) hw))).trans (exs_ret ?_)))))).trans (giveCm _ _ _)
    show ev T (callD T fns d) [some (.tup [.int 51, .int x, b.v]), some b.bare.v, some (optC (b.bare.wo x))] [] _ = _
    rw [Pt.bare]
    generalize b.bare.wo x = y
    have hc : ev T (callD T fns d) [some (.tup [.int 51, .int x, b.v]), some b.bare.v, some (optC y)] [] (Ex.bin (Bop.is) (Ex.var 2) (Ex.none)) = some (.bool y.isNone, []) :=
      (ev_bin2 (ev_var T rfl) (by rw [ev])).trans (isNone_ok y [])
    rw [ev, hc]
    cases y with
    | none => exact tup2 T (ev_int T) (ev_var T rfl)
    | some h => exact ev_var T rfl
end W2
end Mine
end

section
set_option Elab.async false
set_option linter.unusedVariables false
set_option linter.unusedSimpArgs false
namespace Mine
namespace W2
noncomputable abbrev strL (l : List (List Nat)) : List V := l.map V.str
theorem app_str {σ : Store} {p : Nat} {ps : List (List Nat)} {x : List Nat} (h : σ[p]? = some (strL ps)) (hl : ps.length < 1000000) : evB .append (.lst p) (.str x) σ = some (.none, σ.set p (strL (ps ++ [x]))) := by
  have hL : LIM = 16777216 := rfl
  rw [evB_append h (by rw [List.length_map]; (first | lia | omega)), strL, strL, List.map_append]; rfl
theorem get_set {σ : Store} {p : Nat} {xs ys : List V} (h : σ[p]? = some xs) : (σ.set p ys)[p]? = some ys :=
  List.getElem?_set_self (List.getElem?_eq_some_iff.mp h).1
theorem get_set_ne {σ : Store} {n p : Nat} {xs ys : List V} (hne : n ≠ p) (h : σ[n]? = some xs) : (σ.set p ys)[n]? = some xs := by
  rw [List.getElem?_set_ne (Ne.symm hne)]; exact h

/-! a term's signs -/
noncomputable def opS (i : Int) : List Nat := (([(16, [42]), (17, [47]), (35, [42, 42]), (46, [42, 42, 61]), (47, [47, 47])] : List (Int × List Nat)).lookup i).getD []
noncomputable def nameS (l : List Nat) : List Nat := quotedS (joinL [8288] (l.map fun c => [c]))
noncomputable def Cm.signs (N : List (List Nat)) : Cm → List (List Nat)
  | atom i => if i < 256 then [opS i] else [nameS (N.getD (i - 256).toNat [])]
  | app a b => [64] :: (a.signs N ++ b.signs N)
/-- the atoms are operators or names -/
noncomputable def Cm.okA (k : Nat) : Cm → Prop
  | atom i => i = 16 ∨ i = 17 ∨ i = 35 ∨ i = 46 ∨ i = 47 ∨ ∃ j : Nat, j < k ∧ i = 256 + (j : Int)
  | app a b => a.okA k ∧ b.okA k
noncomputable def Cm.cnt : Cm → Nat
  | atom _ => 1
  | app a b => a.cnt + b.cnt + 1
theorem Cm.signs_len (N : List (List Nat)) : ∀ t : Cm, (t.signs N).length = t.cnt
  | atom i => by unfold signs; split <;> rfl
  | app a b => by simp only [signs, cnt, List.length_cons, List.length_append, a.signs_len, b.signs_len]
theorem joinL_len (s : Nat) : ∀ l : List Nat, (joinL [s] (l.map fun c => [c])).length ≤ 2 * l.length
  | [] => Nat.le_refl _
  | [c] => by simp [joinL]
  | c :: e :: r => by
    have := joinL_len s (e :: r)
    simp only [List.map_cons, joinL, List.length_append, List.length_cons, List.length_nil] at this ⊢
    (first | lia | omega)
theorem join_str {σ : Store} {s l : List Nat} (h : l.length + l.length * s.length ≤ LIM) : evB .join (.str s) (.str l) σ = some (.str (joinL s (l.map fun c => [c])), σ) := by
  refine Eq.trans (b := orE (if l.length + l.length * s.length ≤ LIM then some (V.str (joinL s (l.map fun c => [c])), σ) else none) none) rfl ?_
  rw [if_pos h]; rfl
theorem signs_ok (T : Tabs) (N : List (List Nat)) (hN : ∀ x ∈ N, x.length ≤ 100) (t : Cm) : ∀ (d : Nat), t.dp + 1 < d → t.okA N.length → ∀ (σ : Store) (n p : Nat) (ps : List (List Nat)), σ[n]? = some (strL N) → σ[p]? = some (strL ps) → n ≠ p → ps.length + t.cnt < 1000000 →
    callD T fns d 18 [t.v, .lst n, .lst p] σ = some (.lst p, σ.set p (strL (ps ++ t.signs N))) := by
  induction t with
  | atom i =>
    intro d hd ho σ n p ps hn hp hne hl
    obtain ⟨d, rfl⟩ := pred2_ok hd
    have hL : LIM = 16777216 := rfl
    have hlp : ps.length < 1000000 := by (first | lia | omega)
    have hnt : ev T (callD T fns (d + 1)) [some (.int i), some (.lst n), some (.lst p)] σ (Ex.un (Uop.isTup) (Ex.var 0)) = some (.bool false, σ) := (ev_un2 (ev_var T rfl)).trans rfl
    have hterm : ev T (callD T fns (d + 1)) [some (.int i), some (.lst n), some (.lst p)] σ (Ex.bin (Bop.is) (Ex.call 3 (Exs.cons (Ex.var 0) (Exs.nil))) (Ex.bool true)) = some (.bool (decide (i < 256)), σ) :=
      (ev_bin2 (call1 T (ev_var T rfl) (isTerm T d σ i)) (by rw [ev])).trans (by show (some ((decide (i < 256)) == true)).map (fun r => (V.bool r, σ)) = _; cases decide (i < 256) <;> rfl)
    refine callD_in (ρ' := [some (.int i), some (.lst n), some (.lst p)]) fns_18 rfl rfl ?_
    refine (exs_next (ρ' := [some (.int i), some (.lst n), some (.lst p)]) (σ' := σ.set p (strL (ps ++ Cm.signs N (.atom i)))) ?_).trans (exs_ret (ev_var T rfl))
    refine (exs_ite hnt).trans ((exs_next (σ' := σ.set p (strL (ps ++ Cm.signs N (.atom i)))) ((exs_ite hterm).trans ?_)).trans exs_nil)
    by_cases hi : i < 256
    · rw [decide_eq_true hi]
      have hop : ev T (callD T fns (d + 1)) [some (.int i), some (.lst n), some (.lst p)] σ (Ex.un (Uop.dict [(16, [42]), (17, [47]), (35, [42, 42]), (46, [42, 42, 61]), (47, [47, 47])]) (Ex.var 0)) = some (.str (opS i), σ) := by
        refine (ev_un2 (ev_var T rfl)).trans ?_
        rcases ho with rfl | rfl | rfl | rfl | rfl | ⟨j, _, rfl⟩ <;> first | rfl | (exfalso; (first | lia | omega))
      have hs : Cm.signs N (.atom i) = [opS i] := by rw [Cm.signs, if_pos hi]
      rw [hs]
      exact (exs_next (ex_expr ((ev_bin2 (ev_var T rfl) hop).trans (app_str hp hlp)))).trans exs_nil
    · rw [decide_eq_false hi]
      obtain ⟨j, hj, rfl⟩ : ∃ j : Nat, j < N.length ∧ i = 256 + (j : Int) := by
        rcases ho with rfl | rfl | rfl | rfl | rfl | h <;> first | exact h | (exfalso; (first | lia | omega))
      have e1 : ((256 + (j : Int)) - 256).toNat = j := by (first | lia | omega)
      have hget : (strL N)[j]? = some (.str (N.getD j [])) := by
        rw [strL, List.getElem?_map, List.getElem?_eq_getElem hj, List.getD_eq_getElem?_getD, List.getElem?_eq_getElem hj]; rfl
      have hlen : (N.getD j []).length ≤ 100 := by
        rw [List.getD_eq_getElem?_getD, List.getElem?_eq_getElem hj]; exact hN _ (List.getElem_mem hj)
      have hjl := joinL_len 8288 (N.getD j [])
      have hsub : ev T (callD T fns (d + 1)) [some (.int (256 + (j : Int))), some (.lst n), some (.lst p)] σ (Ex.bin (Bop.sub) (Ex.var 0) (Ex.int 256)) = some (.int (j : Int), σ) :=
        (ev_bin2 (ev_var T rfl) (ev_int T)).trans (by
          show some (V.int (256 + (j : Int) - 256), σ) = _
          rw [show (256 + (j : Int) - 256) = (j : Int) by (first | lia | omega)])
      have hitem := (ev_bin2 (ev_var T (C := callD T fns (d + 1)) (ρ := [some (.int (256 + (j : Int))), some (.lst n), some (.lst p)]) (i := 1) rfl) hsub).trans (evB_item_lst hn (place_nat' (by rw [List.length_map]; exact hj)) hget)
      have hjoin := (ev_bin2 (ev_str T (C := callD T fns (d + 1)) (ρ := [some (.int (256 + (j : Int))), some (.lst n), some (.lst p)]) (l := [8288])) hitem).trans (join_str (by simp only [List.length_cons, List.length_nil]; (first | lia | omega)))
      have hq := call1 T hjoin (quoted_ok T d σ _ (by (first | lia | omega)))
      have hs : Cm.signs N (.atom (256 + (j : Int))) = [nameS (N.getD j [])] := by rw [Cm.signs, if_neg hi, e1]
      rw [hs]
      exact (exs_next (ex_expr ((ev_bin2 (ev_var T rfl) hq).trans (app_str hp hlp)))).trans exs_nil
  | app a b iha ihb =>
    intro d hd ho σ n p ps hn hp hne hl
    obtain ⟨d, rfl⟩ := pred_ok hd
    simp only [Cm.dp] at hd
    simp only [Cm.cnt] at hl
    have hm1 : a.dp ≤ Nat.max a.dp b.dp := Nat.le_max_left _ _
    have hm2 : b.dp ≤ Nat.max a.dp b.dp := Nat.le_max_right _ _
    have la := a.signs_len N
    have ht : ev T (callD T fns d) [some (.tup [a.v, b.v]), some (.lst n), some (.lst p)] σ (Ex.un (Uop.isTup) (Ex.var 0)) = some (.bool true, σ) := (ev_un2 (ev_var T rfl)).trans rfl
    have h1 : σ.set p (strL (ps ++ [[64]])) = σ.set p (strL (ps ++ [[64]])) := rfl
    have ha := iha d (by (first | lia | omega)) ho.1 (σ.set p (strL (ps ++ [[64]]))) n p (ps ++ [[64]]) (get_set_ne hne hn) (get_set hp) hne (by simp only [List.length_append, List.length_cons, List.length_nil]; (first | lia | omega))
    rw [List.set_set] at ha
    have hb := ihb d (by (first | lia | omega)) ho.2 (σ.set p (strL (ps ++ [[64]] ++ a.signs N))) n p (ps ++ [[64]] ++ a.signs N) (get_set_ne hne hn) (get_set hp) hne (by simp only [List.length_append, List.length_cons, List.length_nil]; (first | lia | omega))
    rw [List.set_set] at hb
    have hs : ps ++ Cm.signs N (.app a b) = ps ++ [[64]] ++ a.signs N ++ b.signs N := by simp [Cm.signs]
    rw [hs]
    refine callD_in (ρ' := [some (.tup [a.v, b.v]), some (.lst n), some (.lst p)]) fns_18 rfl (by simp [noLsts, noLst]) ?_
    refine (exs_next (ρ' := [some (.tup [a.v, b.v]), some (.lst n), some (.lst p)]) (σ' := σ.set p (strL (ps ++ [[64]] ++ a.signs N ++ b.signs N))) ?_).trans (exs_ret (ev_var T rfl))
    refine (exs_ite ht).trans ?_
    exact (exs_next (ex_expr ((ev_bin2 (ev_var T rfl) (ev_str T)).trans (app_str hp (by (first | lia | omega)))))).trans ((exs_next (ex_expr (call3 T (item2 T (k := 0) rfl rfl) (ev_var T rfl) (ev_var T rfl) ha))).trans ((exs_next (ex_expr (call3 T (item2 T (k := 1) rfl rfl) (ev_var T rfl) (ev_var T rfl) hb))).trans exs_nil))
end W2
end Mine
end

section
set_option Elab.async false
set_option linter.unusedVariables false
set_option linter.unusedSimpArgs false
namespace Mine
namespace W2
noncomputable def letters : List (List Nat) := [[107, 109, 112], [75, 77, 80], [119818, 119820, 119823]]
noncomputable def ends0 : List (List Nat) := [[34], [34, 34], [42, 42], [83, 83], [383, 84], [64]]
noncomputable def ends1 : List (List Nat) := [[173, 34], [34, 8203, 34], [42, 8288, 42], [223], [64262], [64, 65279]]
noncomputable def spelledS (k e s : Nat) : List Nat := [(letters.getD (s % 3) []).getD k 0] ++ (if s / 3 % 2 = 0 then ends0 else ends1).getD e []
theorem getD_some {α : Type} {l : List α} {k : Nat} {d : α} (h : k < l.length) : l[k]? = some (l.getD k d) := by
  rw [List.getD_eq_getElem?_getD, List.getElem?_eq_getElem h]; rfl
theorem spelled_ok (T : Tabs) (d : Nat) (σ : Store) {k e : Nat} (s : Nat) (hk : k < 3) (he : e < 6) : callD T fns (d + 1) 11 [.int k, .int e, .int s] σ = some (.str (spelledS k e s), σ) := by
  have hs : s % 3 < 3 := Nat.mod_lt _ (by decide)
  have hl : ∀ l ∈ letters, l.length = 3 := by decide
  have hE : ∀ l ∈ ends0 ++ ends1, l.length ≤ 3 := by decide
  have hrow : (letters.getD (s % 3) []).length = 3 := by
    rw [List.getD_eq_getElem?_getD, List.getElem?_eq_getElem (show s % 3 < letters.length from hs)]
    exact hl _ (List.getElem_mem _)
  have t1 : ∀ ρ : REnv, ev T (callD T fns d) ρ [] (Ex.tup (Exs.cons (Ex.str [107, 109, 112]) (Exs.cons (Ex.str [75, 77, 80]) (Exs.cons (Ex.str [119818, 119820, 119823]) (Exs.nil))))) = some (.tup (strL letters), []) := fun ρ => by simp [ev, evs, LIM, letters]
  have t2 : ∀ ρ : REnv, ev T (callD T fns d) ρ [] (Ex.tup (Exs.cons (Ex.str [34]) (Exs.cons (Ex.str [34, 34]) (Exs.cons (Ex.str [42, 42]) (Exs.cons (Ex.str [83, 83]) (Exs.cons (Ex.str [383, 84]) (Exs.cons (Ex.str [64]) (Exs.nil)))))))) = some (.tup (strL ends0), []) := fun ρ => by simp [ev, evs, LIM, ends0]
  have t3 : ∀ ρ : REnv, ev T (callD T fns d) ρ [] (Ex.tup (Exs.cons (Ex.str [173, 34]) (Exs.cons (Ex.str [34, 8203, 34]) (Exs.cons (Ex.str [42, 8288, 42]) (Exs.cons (Ex.str [223]) (Exs.cons (Ex.str [64262]) (Exs.cons (Ex.str [64, 65279]) (Exs.nil)))))))) = some (.tup (strL ends1), []) := fun ρ => by simp [ev, evs, LIM, ends1]
  have hm : ev T (callD T fns d) [some (.int k), some (.int e), some (.int s), none] [] (Ex.bin (Bop.mod) (Ex.var 2) (Ex.int 3)) = some (.int ((s % 3 : Nat) : Int), []) :=
    (ev_bin2 (ev_var T rfl) (ev_int T)).trans (evB_modN s 3 (by decide))
  have h1 := (ev_bin2 (t1 _) hm).trans (evB_item_tup (place_nat' (by rw [List.length_map]; exact hs)) (v := .str (letters.getD (s % 3) [])) (by rw [strL, List.getElem?_map, getD_some (d := []) (show s % 3 < letters.length from hs)]; rfl))
  have h2 := (ev_bin2 h1 (ev_var T (i := 0) rfl)).trans (evB_item_str (place_nat' (by rw [hrow]; exact hk)) (getD_some (d := 0) (by rw [hrow]; exact hk)))
  generalize hc : (letters.getD (s % 3) []).getD k 0 = c at h2
  have hm2 : ev T (callD T fns d) [some (.int k), some (.int e), some (.int s), some (.str [c])] [] (Ex.bin (Bop.eq) (Ex.bin (Bop.mod) (Ex.bin (Bop.fdiv) (Ex.var 2) (Ex.int 3)) (Ex.int 2)) (Ex.int 0)) = some (.bool (((s / 3 % 2 : Nat) : Int) == 0), []) :=
    (ev_bin2 ((ev_bin2 ((ev_bin2 (ev_var T rfl) (ev_int T)).trans (evB_fdivN s 3 (by decide) (by decide))) (ev_int T)).trans (evB_modN _ 2 (by decide))) (ev_int T)).trans (by show (some (((s / 3 % 2 : Nat) : Int) == 0)).map (fun r => (V.bool r, ([] : Store))) = _; simp)
  have e0 : ∀ {L : List (List Nat)}, L.length = 6 → (∀ l ∈ L, l.length ≤ 3) → ∀ {x : Ex}, (∀ ρ : REnv, ev T (callD T fns d) ρ [] x = some (.tup (strL L), [])) → ev T (callD T fns d) [some (.int k), some (.int e), some (.int s), some (.str [c])] [] (Ex.bin (Bop.add) (Ex.var 3) (Ex.bin (Bop.item) x (Ex.var 1))) = some (.str ([c] ++ L.getD e []), []) := by
    intro L hL6 hL3 x hx
    have he' : e < L.length := by rw [hL6]; exact he
    have hg := (ev_bin2 (hx [some (.int k), some (.int e), some (.int s), some (.str [c])]) (ev_var T (i := 1) rfl)).trans (evB_item_tup (place_nat' (by rw [List.length_map]; exact he')) (v := .str (L.getD e [])) (by rw [strL, List.getElem?_map, getD_some (d := []) he']; rfl))
    have hlen : (L.getD e []).length ≤ 3 := by
      rw [List.getD_eq_getElem?_getD, List.getElem?_eq_getElem he']; exact hL3 _ (List.getElem_mem _)
    have hLim : LIM = 16777216 := rfl
    exact (ev_bin2 (ev_var T rfl) hg).trans (evB_add_str (by simp only [List.length_cons, List.length_nil]; (first | lia | omega)))
  refine (callD_own (v := .str (spelledS k e s)) (σ' := []) (ρ' := [some (.int k), some (.int e), some (.int s), some (.str [c])]) fns_11 rfl rfl ((exs_next (ex_set h2)).trans ?_)).trans rfl
  show exs T (callD T fns d) [some (.int k), some (.int e), some (.int s), some (.str [c])] [] _ = _
  unfold spelledS
  rw [hc]
  by_cases hb : s / 3 % 2 = 0
  · rw [hb] at hm2
    rw [if_pos hb]
    exact take T hm2 (e0 rfl (by decide) t2)
  · rw [if_neg hb]
    rw [show (((s / 3 % 2 : Nat) : Int) == 0) = false by rw [beq_eq_false_iff_ne]; (first | lia | omega)] at hm2
    exact (skip T hm2).trans (exs_ret (e0 rfl (by decide) t3))
theorem spelledS_len (k e s : Nat) : (spelledS k e s).length ≤ 4 := by
  have hE : ∀ l ∈ ends0 ++ ends1, l.length ≤ 3 := by decide
  have h : ∀ L : List (List Nat), (∀ l ∈ L, l.length ≤ 3) → (L.getD e []).length ≤ 3 := fun L hL => by
    rw [List.getD_eq_getElem?_getD]
    cases hg : L[e]? with
    | none => simp
    | some l => exact hL _ (List.mem_of_getElem? hg)
  unfold spelledS
  rw [List.length_append, List.length_cons, List.length_nil]
  split
  · have := h ends0 (by decide); (first | lia | omega)
  · have := h ends1 (by decide); (first | lia | omega)

/-! the pieces of a program -/
noncomputable def Tr.cnt : Tr → Nat
  | leaf _ => 1
  | app a b => 1 + a.cnt + b.cnt
  | dfn _ a b => 3 + b.cnt + a.cnt
noncomputable def leafP (R : List Nat) (k n : Nat) : List Nat := quotedS (spelledS k (R.getD k 0 / 3 % 6) (R.sum + n))
noncomputable def Tr.pcs (R : List Nat) : Tr → Nat → List (List Nat)
  | leaf k, n => [leafP R k n]
  | app a b, n => [64] :: (a.pcs R (n + 1) ++ b.pcs R (n + 1 + a.cnt))
  | dfn x a b, n => [64] :: [45, 62] :: (leafP R x (n + 2) :: (b.pcs R (n + 3) ++ a.pcs R (n + 3 + b.cnt)))
theorem Tr.pcs_len (R : List Nat) : ∀ (t : Tr) (n : Nat), (t.pcs R n).length = t.cnt
  | leaf _, _ => rfl
  | app a b, n => by simp only [pcs, cnt, List.length_cons, List.length_append, a.pcs_len, b.pcs_len]; (first | lia | omega)
  | dfn x a b, n => by simp only [pcs, cnt, List.length_cons, List.length_append, a.pcs_len, b.pcs_len]; (first | lia | omega)
noncomputable abbrev intL (l : List Nat) : List V := l.map fun k : Nat => V.int k
theorem isIntB_eq (m a : Int) : isIntB m (.int a) = decide ((a.natAbs : Int) < m) := rfl
theorem isIntB_nat {x : Nat} (h : x < 1000000000) : isIntB 1000000000 (.int (x : Int)) = true := by
  rw [isIntB_eq, decide_eq_true_iff, Int.natAbs_natCast]
  (first | lia | omega)
theorem sum_ok {T : Tabs} {σ : Store} {r : Nat} {R : List Nat} (h : σ[r]? = some (intL R)) (hl : R.length ≤ 1000) (hb : ∀ x ∈ R, x < 1000000000) : evU T .sum (.lst r) σ = some (.int (R.sum : Nat), σ) := by
  have hall : (intL R).all (isIntB 1000000000) = true := by
    rw [List.all_map, List.all_eq_true]
    intro x hx
    rw [Function.comp_apply]
    exact isIntB_nat (hb x hx)
  have hs : ∀ l : List Nat, ((intL l).map intOf).sum = ((l.sum : Nat) : Int) := fun l => by
    induction l with
    | nil => rfl
    | cons a l ih => simp only [intL, List.map_cons, List.sum_cons, intOf] at ih ⊢; rw [ih]; (first | lia | omega)
  refine Eq.trans (b := uLst σ (fun _ xs => if xs.all (isIntB 1000000000) ∧ xs.length ≤ 1000 then some (.int (xs.map intOf).sum, σ) else none) (.lst r)) rfl ?_
  rw [uLst_of h, if_pos ⟨hall, by rw [List.length_map]; exact hl⟩, hs]
/-- the row -/
structure RowOk (R : List Nat) : Prop where
  len : R.length = 11
  small : ∀ x ∈ R, x < 1000000000
theorem leafP_ok (T : Tabs) {R : List Nat} (hR : RowOk R) (d : Nat) {k : Nat} (hk : k < 3) {σ : Store} {r p : Nat} {ps : List (List Nat)} (hr : σ[r]? = some (intL R)) (hp : σ[p]? = some (strL ps)) (hl : ps.length < 1000000) :
    callD T fns (d + 2) 12 [.int (k : Int), .lst r, .lst p] σ = some (.lst p, σ.set p (strL (ps ++ [leafP R k ps.length]))) := by
  have hR1 := hR.len
  have hi : (intL R)[k]? = some (.int (R.getD k 0 : Nat)) := by rw [intL, List.getElem?_map, getD_some (d := 0) (by (first | lia | omega))]; rfl
  have he : R.getD k 0 / 3 % 6 < 6 := Nat.mod_lt _ (by decide)
  have h1 : ev T (callD T fns (d + 1)) [some (.int (k : Int)), some (.lst r), some (.lst p)] σ (Ex.bin (Bop.mod) (Ex.bin (Bop.fdiv) (Ex.bin (Bop.item) (Ex.var 1) (Ex.var 0)) (Ex.int 3)) (Ex.int 6)) = some (.int ((R.getD k 0 / 3 % 6 : Nat) : Int), σ) :=
    (ev_bin2 ((ev_bin2 ((ev_bin2 (ev_var T rfl) (ev_var T rfl)).trans (evB_item_lst hr (place_nat' (by rw [List.length_map]; (first | lia | omega))) hi)) (ev_int T)).trans (evB_fdivN _ 3 (by decide) (by decide))) (ev_int T)).trans (evB_modN _ 6 (by decide))
  have h2 : ev T (callD T fns (d + 1)) [some (.int (k : Int)), some (.lst r), some (.lst p)] σ (Ex.bin (Bop.add) (Ex.un (Uop.sum) (Ex.var 1)) (Ex.un (Uop.len) (Ex.var 2))) = some (.int ((R.sum + ps.length : Nat) : Int), σ) := by
    have hlen : evU T .len (.lst p) σ = some (.int ((ps.length : Nat) : Int), σ) := by rw [evU_len_lst hp, List.length_map]
    exact (ev_bin2 ((ev_un2 (ev_var T rfl)).trans (sum_ok hr (by (first | lia | omega)) hR.small)) ((ev_un2 (ev_var T rfl)).trans hlen)).trans (evB_addN _ _)
  have h3 := call3 T (ev_var T (C := callD T fns (d + 1)) (ρ := [some (.int (k : Int)), some (.lst r), some (.lst p)]) (σ := σ) (i := 0) rfl) h1 h2 (spelled_ok T d σ (R.sum + ps.length) hk he)
  have h4 := call1 T h3 (quoted_ok T d σ _ (by have := spelledS_len k (R.getD k 0 / 3 % 6) (R.sum + ps.length); (first | lia | omega)))
  refine callD_in (ρ' := [some (.int (k : Int)), some (.lst r), some (.lst p)]) fns_12 rfl rfl ?_
  refine (exs_next (ρ' := [some (.int (k : Int)), some (.lst r), some (.lst p)]) (σ' := σ.set p (strL (ps ++ [leafP R k ps.length]))) ?_).trans (exs_ret (ev_var T rfl))
  refine (exs_ite (notTup_int T rfl)).trans ?_
  exact (exs_next (ex_expr ((ev_bin2 (ev_var T rfl) h4).trans (app_str hp hl)))).trans exs_nil
theorem pieces_ok (T : Tabs) {R : List Nat} (hR : RowOk R) (t : Tr) : ∀ (d : Nat), t.sz + 1 < d → t.ok → ∀ (σ : Store) (r p : Nat) (ps : List (List Nat)), σ[r]? = some (intL R) → σ[p]? = some (strL ps) → r ≠ p → ps.length + t.cnt < 1000000 →
    callD T fns d 12 [t.v, .lst r, .lst p] σ = some (.lst p, σ.set p (strL (ps ++ t.pcs R ps.length))) := by
  induction t with
  | leaf k =>
    intro d hd hk σ r p ps hr hp hne hl
    obtain ⟨d, rfl⟩ := pred2_ok hd
    exact leafP_ok T hR d hk hr hp (by (first | lia | omega))
  | app a b iha ihb =>
    intro d hd hk σ r p ps hr hp hne hl
    obtain ⟨d, rfl⟩ := pred_ok hd
    simp only [Tr.sz] at hd
    simp only [Tr.cnt] at hl
    have la := a.pcs_len R (ps.length + 1)
    have ha := iha d (lt_l1 hd) hk.1 (σ.set p (strL (ps ++ [[64]]))) r p (ps ++ [[64]]) (get_set_ne hne hr) (get_set hp) hne (by simp only [List.length_append, List.length_cons, List.length_nil]; (first | lia | omega))
    rw [List.set_set, show (ps ++ [[64]] : List (List Nat)).length = ps.length + 1 from by simp] at ha
    have hb := ihb d (lt_r1 hd) hk.2 (σ.set p (strL (ps ++ [[64]] ++ a.pcs R (ps.length + 1)))) r p (ps ++ [[64]] ++ a.pcs R (ps.length + 1)) (get_set_ne hne hr) (get_set hp) hne (by simp only [List.length_append, List.length_cons, List.length_nil]; (first | lia | omega))
    rw [List.set_set, show (ps ++ [[64]] ++ a.pcs R (ps.length + 1) : List (List Nat)).length = ps.length + 1 + a.cnt from by simp only [List.length_append, List.length_cons, List.length_nil]; (first | lia | omega)] at hb
    have hs : ps ++ Tr.pcs R (.app a b) ps.length = ps ++ [[64]] ++ a.pcs R (ps.length + 1) ++ b.pcs R (ps.length + 1 + a.cnt) := by simp [Tr.pcs]
    rw [hs]
    refine callD_in (ρ' := [some (.tup [a.v, b.v]), some (.lst r), some (.lst p)]) fns_12 rfl (by simp [noLsts, noLst]) ?_
    refine (exs_next (ρ' := [some (.tup [a.v, b.v]), some (.lst r), some (.lst p)]) (σ' := σ.set p (strL (ps ++ [[64]] ++ a.pcs R (ps.length + 1) ++ b.pcs R (ps.length + 1 + a.cnt)))) ?_).trans (exs_ret (ev_var T rfl))
    refine (exs_ite (notTup_ok T rfl)).trans ((exs_next ((exs_ite (len2_ok T rfl rfl)).trans ?_)).trans exs_nil)
    exact (exs_next (ex_expr ((ev_bin2 (ev_var T rfl) (ev_str T)).trans (app_str hp (by (first | lia | omega)))))).trans ((exs_next (ex_expr (call3 T (item2 T (k := 0) rfl rfl) (ev_var T rfl) (ev_var T rfl) ha))).trans ((exs_next (ex_expr (call3 T (item2 T (k := 1) rfl rfl) (ev_var T rfl) (ev_var T rfl) hb))).trans exs_nil))
  | dfn x a b iha ihb =>
    intro d hd hk σ r p ps hr hp hne hl
    simp only [Tr.sz] at hd
    obtain ⟨d, rfl⟩ : ∃ e, d = e + 3 := ⟨d - 3, by (first | lia | omega)⟩
    simp only [Tr.cnt] at hl
    obtain ⟨hx, hka, hkb⟩ := hk
    have lb := b.pcs_len R (ps.length + 3)
    have h0 := app_str (x := [45, 62]) (get_set (ys := strL (ps ++ [[64]])) hp) (by simp only [List.length_append, List.length_cons, List.length_nil]; (first | lia | omega))
    rw [List.set_set] at h0
    have h1 := leafP_ok T hR d hx (σ := σ.set p (strL (ps ++ [[64]] ++ [[45, 62]]))) (ps := ps ++ [[64]] ++ [[45, 62]]) (get_set_ne hne hr) (get_set hp) (by simp only [List.length_append, List.length_cons, List.length_nil]; (first | lia | omega))
    rw [List.set_set, show (ps ++ [[64]] ++ [[45, 62]] : List (List Nat)).length = ps.length + 2 from by simp] at h1
    have hb := ihb (d + 2) (by (first | lia | omega)) hkb (σ.set p (strL (ps ++ [[64]] ++ [[45, 62]] ++ [leafP R x (ps.length + 2)]))) r p (ps ++ [[64]] ++ [[45, 62]] ++ [leafP R x (ps.length + 2)]) (get_set_ne hne hr) (get_set hp) hne (by simp only [List.length_append, List.length_cons, List.length_nil]; (first | lia | omega))
    rw [List.set_set, show (ps ++ [[64]] ++ [[45, 62]] ++ [leafP R x (ps.length + 2)] : List (List Nat)).length = ps.length + 3 from by simp] at hb
    have ha := iha (d + 2) (by (first | lia | omega)) hka (σ.set p (strL (ps ++ [[64]] ++ [[45, 62]] ++ [leafP R x (ps.length + 2)] ++ b.pcs R (ps.length + 3)))) r p (ps ++ [[64]] ++ [[45, 62]] ++ [leafP R x (ps.length + 2)] ++ b.pcs R (ps.length + 3)) (get_set_ne hne hr) (get_set hp) hne (by simp only [List.length_append, List.length_cons, List.length_nil]; (first | lia | omega))
    rw [List.set_set, show (ps ++ [[64]] ++ [[45, 62]] ++ [leafP R x (ps.length + 2)] ++ b.pcs R (ps.length + 3) : List (List Nat)).length = ps.length + 3 + b.cnt from by simp only [List.length_append, List.length_cons, List.length_nil]; (first | lia | omega)] at ha
    have hs : ps ++ Tr.pcs R (.dfn x a b) ps.length = ps ++ [[64]] ++ [[45, 62]] ++ [leafP R x (ps.length + 2)] ++ b.pcs R (ps.length + 3) ++ a.pcs R (ps.length + 3 + b.cnt) := by simp [Tr.pcs]
    rw [hs]
    generalize (b.pcs R (ps.length + 3)) = B at *
    generalize (a.pcs R (ps.length + 3 + b.cnt)) = A' at *
    refine callD_in (ρ' := [some (.tup [.int x, a.v, b.v]), some (.lst r), some (.lst p)]) fns_12 rfl (by simp [noLsts, noLst]) ?_
    refine (exs_next (ρ' := [some (.tup [.int x, a.v, b.v]), some (.lst r), some (.lst p)]) (σ' := σ.set p (strL (ps ++ [[64]] ++ [[45, 62]] ++ [leafP R x (ps.length + 2)] ++ B ++ A'))) ?_).trans (exs_ret (ev_var T rfl))
    refine (exs_ite (notTup_ok T rfl)).trans ((exs_next ((exs_ite (len2_ok T rfl rfl)).trans ?_)).trans exs_nil)
    exact (exs_next (ex_expr ((ev_bin2 (ev_var T rfl) (ev_str T)).trans (app_str hp (by (first | lia | omega)))))).trans ((exs_next (ex_expr ((ev_bin2 (ev_var T rfl) (ev_str T)).trans h0))).trans ((exs_next (ex_expr (call3 T (item2 T (k := 0) rfl rfl) (ev_var T rfl) (ev_var T rfl) h1))).trans ((exs_next (ex_expr (call3 T (item2 T (k := 2) rfl rfl) (ev_var T rfl) (ev_var T rfl) hb))).trans ((exs_next (ex_expr (call3 T (item2 T (k := 1) rfl rfl) (ev_var T rfl) (ev_var T rfl) ha))).trans exs_nil))))
end W2
end Mine
end

section
set_option Elab.async false
set_option linter.unusedVariables false
set_option linter.unusedSimpArgs false
namespace Mine
namespace W2
/-! the line -/
noncomputable def lineF : Nat → List (List Nat) → List Nat
  | _, [] => []
  | k, p :: ps => p ++ [65024 + k % 16] ++ lineF (k + 1) ps
theorem lineF_snoc : ∀ (ps : List (List Nat)) (k : Nat) (p : List Nat), lineF k (ps ++ [p]) = lineF k ps ++ (p ++ [65024 + (k + ps.length) % 16])
  | [], k, p => by simp [lineF]
  | q :: ps, k, p => by
    simp only [List.cons_append, lineF, lineF_snoc ps (k + 1) p, List.append_assoc, List.length_cons]
    rw [show k + 1 + ps.length = k + (ps.length + 1) by (first | lia | omega)]
theorem lineF_len : ∀ (ps : List (List Nat)) (k : Nat), (∀ x ∈ ps, x.length ≤ 1000) → (lineF k ps).length ≤ 1001 * ps.length
  | [], k, h => Nat.le_refl _
  | p :: ps, k, h => by
    have h1 := lineF_len ps (k + 1) fun x hx => h x (List.mem_cons_of_mem _ hx)
    have h2 := h p List.mem_cons_self
    simp only [lineF, List.length_append, List.length_cons, List.length_nil]; (first | lia | omega)
theorem add65 {σ : Store} (k : Nat) : evB .add (.int 65024) (.int (k : Int)) σ = some (.int ((65024 + k : Nat) : Int), σ) := by
  have e : (65024 : Int) + (k : Int) = ((65024 + k : Nat) : Int) := by (first | lia | omega)
  show some (V.int (65024 + (k : Int)), σ) = _
  rw [e]
theorem line_ok (T : Tabs) (d : Nat) {σ : Store} {p : Nat} {ps : List (List Nat)} (hp : σ[p]? = some (strL ps)) (h1 : ∀ x ∈ ps, x.length ≤ 1000) (h2 : ps.length ≤ 10000) : callD T fns (d + 1) 13 [.lst p] σ = some (.str (lineF 0 ps), σ) := by
  have hLim : LIM = 16777216 := rfl
  have hr : ∀ x2 : Option V, ev T (callD T fns d) [some (.lst p), some (.str []), x2] σ (Ex.un (Uop.range) (Ex.un (Uop.len) (Ex.var 0))) = some (.rng 0 1 ps.length, σ) := fun x2 => by
    refine (ev_un2 ((ev_un2 (ev_var T rfl)).trans (evU_len_lst hp))).trans ?_
    rw [List.length_map, evU_range (by (first | lia | omega))]
  obtain ⟨ρ', σ', hl, x2, rfl, hσ⟩ := for_range (n := ps.length) (f := fun v ρ σ => exs T (callD T fns d) (ρ.set 2 (some v)) σ (Sts.cons (St.aug 1 (Bop.add) (Ex.bin (Bop.add) (Ex.bin (Bop.item) (Ex.var 0) (Ex.var 2)) (Ex.un (Uop.chr) (Ex.bin (Bop.add) (Ex.int 65024) (Ex.bin (Bop.mod) (Ex.var 2) (Ex.int 16)))))) (Sts.nil)))
    (fun m ρ τ => ∃ x2, ρ = [some (.lst p), some (.str (lineF 0 (ps.take m))), x2] ∧ τ = σ) (ρ := [some (.lst p), some (.str []), none]) (σ := σ) ⟨none, rfl, rfl⟩ (fun m ρ τ hm hI => by
      obtain ⟨x2, rfl, rfl⟩ := hI
      have hi : (strL ps)[m]? = some (.str (ps[m])) := by rw [strL, List.getElem?_map, List.getElem?_eq_getElem hm]; rfl
      have e1 := (ev_bin2 (T := T) (C := callD T fns d) (ev_var T (ρ := [some (.lst p), some (.str (lineF 0 (ps.take m))), some (.int (m : Int))]) (i := 0) rfl) (ev_var T (i := 2) rfl)).trans (evB_item_lst hp (place_nat' (by rw [List.length_map]; exact hm)) hi)
      have e2 : ev T (callD T fns d) [some (.lst p), some (.str (lineF 0 (ps.take m))), some (.int (m : Int))] τ (Ex.un (Uop.chr) (Ex.bin (Bop.add) (Ex.int 65024) (Ex.bin (Bop.mod) (Ex.var 2) (Ex.int 16)))) = some (.str [65024 + m % 16], τ) := by
        exact (ev_un2 ((ev_bin2 (ev_int T) ((ev_bin2 (ev_var T rfl) (ev_int T)).trans (evB_modN m 16 (by decide)))).trans (add65 (m % 16)))).trans (evU_chrN (by (first | lia | omega)))
      have hpm := h1 _ (List.getElem_mem hm)
      have e3 := (ev_bin2 e1 e2).trans (evB_add_str (by simp only [List.length_cons, List.length_nil]; (first | lia | omega)))
      have hlen := lineF_len (ps.take m) 0 fun x hx => h1 x (List.mem_of_mem_take hx)
      rw [List.length_take] at hlen
      refine ⟨_, _, (exs_next (ρ' := [some (.lst p), some (.str (lineF 0 (ps.take m) ++ (ps[m] ++ [65024 + m % 16]))), some (.int (m : Int))]) (σ' := τ) ?_).trans exs_nil, some (.int (m : Int)), ?_, rfl⟩
      · have ha := evAug_str (σ := τ) (a := lineF 0 (ps.take m)) (b := ps[m] ++ [65024 + m % 16]) (by simp only [List.length_append, List.length_cons, List.length_nil]; (first | lia | omega))
        show ex T (callD T fns d) [some (.lst p), some (.str (lineF 0 (ps.take m))), some (.int (m : Int))] τ _ = _
        rw [ex]
        simp only [List.getElem?_cons_zero, List.getElem?_cons_succ, e3, ha, List.set_cons_zero, List.set_cons_succ]
      · rw [List.take_succ_eq_append_getElem hm, lineF_snoc, List.length_take, Nat.zero_add, Nat.min_eq_left (Nat.le_of_lt hm)])
  subst hσ
  rw [List.take_length] at hl
  exact callD_in (ρ' := [some (.lst p), some (.str (lineF 0 ps)), x2]) fns_13 rfl rfl ((exs_next (ex_set (v := .str []) (σ' := σ') (by rw [ev]))).trans ((exs_next (ex_for (hr none) rfl hl)).trans (exs_ret (ev_var T rfl))))

/-! a quoted name read -/
noncomputable def bodyQ : Sts := Sts.cons (St.set 4 (Ex.bin (Bop.item) (Ex.var 0) (Ex.var 2))) (Sts.cons (St.set 2 (Ex.bin (Bop.add) (Ex.var 2) (Ex.int 1))) (Sts.cons (St.ite (Ex.bin (Bop.eq) (Ex.var 4) (Ex.str [34])) (Sts.cons (St.ite (Ex.or (Ex.bin (Bop.ge) (Ex.var 2) (Ex.var 3)) (Ex.bin (Bop.ne) (Ex.bin (Bop.item) (Ex.var 0) (Ex.var 2)) (Ex.str [34]))) (Sts.cons (St.brk) (Sts.nil)) (Sts.nil)) (Sts.cons (St.set 2 (Ex.bin (Bop.add) (Ex.var 2) (Ex.int 1))) (Sts.nil))) (Sts.nil)) (Sts.cons (St.set 1 (Ex.bin (Bop.add) (Ex.var 1) (Ex.var 4))) (Sts.nil))))
theorem item_at {σ : Store} {l : List Nat} {k c : Nat} (h : l[k]? = some c) : evB .item (.str l) (.int (k : Int)) σ = some (.str [c], σ) :=
  evB_item_str (place_nat' (List.getElem?_eq_some_iff.mp h).1) h
section
variable (T : Tabs) (C : Calls)
theorem eq_quote {ρ : REnv} {σ : Store} {c : Nat} (h : ρ[4]? = some (some (.str [c]))) : ev T C ρ σ (Ex.bin (Bop.eq) (Ex.var 4) (Ex.str [34])) = some (.bool (decide (c = 34)), σ) := by
  have e : ([c] == [34]) = decide (c = 34) := by
    rw [Bool.eq_iff_iff, beq_iff_eq, decide_eq_true_iff]; simp
  exact (ev_bin2 (ev_var T h) (ev_str T)).trans (by show (some ([c] == [34])).map (fun r => (V.bool r, σ)) = _; rw [e]; rfl)
theorem inc_ok {ρ : REnv} {σ : Store} {i : Nat} (h : ρ[2]? = some (some (.int (i : Int)))) : ev T C ρ σ (Ex.bin (Bop.add) (Ex.var 2) (Ex.int 1)) = some (.int ((i + 1 : Nat) : Int), σ) :=
  (ev_bin2 (ev_var T h) (ev_int T)).trans (evB_addN i 1)
/-- a turn at a plain sign -/
theorem turnP {R D : List Nat} {i n c : Nat} (hc : R[i]? = some c) (hne : c ≠ 34) (hD : D.length + 1 ≤ LIM) (x4 : Option V) (σ : Store) :
    exs T C [some (.str R), some (.str D), some (.int (i : Int)), some (.int (n : Int)), x4] σ bodyQ = some (.next, [some (.str R), some (.str (D ++ [c])), some (.int ((i + 1 : Nat) : Int)), some (.int (n : Int)), some (.str [c])], σ) := by
  refine (exs_next (ρ' := [some (.str R), some (.str D), some (.int (i : Int)), some (.int (n : Int)), some (.str [c])]) (σ' := σ) (ex_set ((ev_bin2 (ev_var T rfl) (ev_var T rfl)).trans (item_at hc)))).trans ?_
  refine (exs_next (ρ' := [some (.str R), some (.str D), some (.int ((i + 1 : Nat) : Int)), some (.int (n : Int)), some (.str [c])]) (σ' := σ) (ex_set (inc_ok T C rfl))).trans ?_
  refine (exs_next (ρ' := [some (.str R), some (.str D), some (.int ((i + 1 : Nat) : Int)), some (.int (n : Int)), some (.str [c])]) (σ' := σ) ((exs_ite (eq_quote T C rfl)).trans ?_)).trans ?_
  · rw [decide_eq_false hne]
    exact exs_nil
  · exact (exs_next (ρ' := [some (.str R), some (.str (D ++ [c])), some (.int ((i + 1 : Nat) : Int)), some (.int (n : Int)), some (.str [c])]) (σ' := σ) (ex_set ((ev_bin2 (ev_var T rfl) (ev_var T rfl)).trans (evB_add_str hD)))).trans exs_nil
theorem or_ok {R : List Nat} {ρ : REnv} {σ : Store} {i n c : Nat} (h0 : ρ[0]? = some (some (.str R))) (h2 : ρ[2]? = some (some (.int (i : Int)))) (h3 : ρ[3]? = some (some (.int (n : Int)))) (hi : i < n) (hc : R[i]? = some c) :
    ev T C ρ σ (Ex.or (Ex.bin (Bop.ge) (Ex.var 2) (Ex.var 3)) (Ex.bin (Bop.ne) (Ex.bin (Bop.item) (Ex.var 0) (Ex.var 2)) (Ex.str [34]))) = some (.bool (decide (c ≠ 34)), σ) := by
  have e1 : ev T C ρ σ (Ex.bin (Bop.ge) (Ex.var 2) (Ex.var 3)) = some (.bool false, σ) := by
    refine (ev_bin2 (ev_var T h2) (ev_var T h3)).trans ?_
    show some (V.bool (decide ((n : Int) ≤ (i : Int))), σ) = _
    rw [decide_eq_false (by (first | lia | omega))]
  have e : ([c] != [34]) = decide (c ≠ 34) := by
    rw [Bool.eq_iff_iff, bne_iff_ne, decide_eq_true_iff]; simp
  have e2 : ev T C ρ σ (Ex.bin (Bop.ne) (Ex.bin (Bop.item) (Ex.var 0) (Ex.var 2)) (Ex.str [34])) = some (.bool (decide (c ≠ 34)), σ) :=
    (ev_bin2 ((ev_bin2 (ev_var T h0) (ev_var T h2)).trans (item_at hc)) (ev_str T)).trans (by
      show some (V.bool ([c] != [34]), σ) = _
      rw [e])
  rw [ev, e1]
  simp only [e2]
/-- a turn at a doubled quotation mark -/
theorem turnD {R D : List Nat} {i n : Nat} (hc : R[i]? = some 34) (hc2 : R[i + 1]? = some 34) (hn : R.length = n) (hD : D.length + 1 ≤ LIM) (x4 : Option V) (σ : Store) :
    exs T C [some (.str R), some (.str D), some (.int (i : Int)), some (.int (n : Int)), x4] σ bodyQ = some (.next, [some (.str R), some (.str (D ++ [34])), some (.int ((i + 2 : Nat) : Int)), some (.int (n : Int)), some (.str [34])], σ) := by
  have hlt : i + 1 < n := by rw [← hn]; exact (List.getElem?_eq_some_iff.mp hc2).1
  refine (exs_next (ρ' := [some (.str R), some (.str D), some (.int (i : Int)), some (.int (n : Int)), some (.str [34])]) (σ' := σ) (ex_set ((ev_bin2 (ev_var T rfl) (ev_var T rfl)).trans (item_at hc)))).trans ?_
  refine (exs_next (ρ' := [some (.str R), some (.str D), some (.int ((i + 1 : Nat) : Int)), some (.int (n : Int)), some (.str [34])]) (σ' := σ) (ex_set (inc_ok T C rfl))).trans ?_
  refine (exs_next (ρ' := [some (.str R), some (.str D), some (.int ((i + 2 : Nat) : Int)), some (.int (n : Int)), some (.str [34])]) (σ' := σ) ((exs_ite (eq_quote T C rfl)).trans ?_)).trans ?_
  · rw [decide_eq_true rfl]
    exact (exs_next ((exs_ite (or_ok T C rfl rfl rfl hlt hc2)).trans exs_nil)).trans ((exs_next (ρ' := [some (.str R), some (.str D), some (.int ((i + 2 : Nat) : Int)), some (.int (n : Int)), some (.str [34])]) (σ' := σ) (ex_set (inc_ok T C (i := i + 1) rfl))).trans exs_nil)
  · exact (exs_next (ρ' := [some (.str R), some (.str (D ++ [34])), some (.int ((i + 2 : Nat) : Int)), some (.int (n : Int)), some (.str [34])]) (σ' := σ) (ex_set ((ev_bin2 (ev_var T rfl) (ev_var T rfl)).trans (evB_add_str hD)))).trans exs_nil
/-- a turn at the end -/
theorem turnE {R D : List Nat} {i n s : Nat} (hc : R[i]? = some 34) (hc2 : R[i + 1]? = some s) (hs : s ≠ 34) (hn : R.length = n) (x4 : Option V) (σ : Store) :
    exs T C [some (.str R), some (.str D), some (.int (i : Int)), some (.int (n : Int)), x4] σ bodyQ = some (.brk, [some (.str R), some (.str D), some (.int ((i + 1 : Nat) : Int)), some (.int (n : Int)), some (.str [34])], σ) := by
  have hlt : i + 1 < n := by rw [← hn]; exact (List.getElem?_eq_some_iff.mp hc2).1
  refine (exs_next (ρ' := [some (.str R), some (.str D), some (.int (i : Int)), some (.int (n : Int)), some (.str [34])]) (σ' := σ) (ex_set ((ev_bin2 (ev_var T rfl) (ev_var T rfl)).trans (item_at hc)))).trans ?_
  refine (exs_next (ρ' := [some (.str R), some (.str D), some (.int ((i + 1 : Nat) : Int)), some (.int (n : Int)), some (.str [34])]) (σ' := σ) (ex_set (inc_ok T C rfl))).trans (exs_brk ((exs_ite (eq_quote T C rfl)).trans ?_))
  rw [decide_eq_true rfl]
  refine exs_brk ((exs_ite (or_ok T C rfl rfl rfl hlt hc2)).trans ?_)
  rw [decide_eq_true hs]
  rfl
theorem condQ {R D : List Nat} {i n : Nat} (hi : i < n) (x4 : Option V) (σ : Store) : condF T C (Ex.bin (Bop.lt) (Ex.var 2) (Ex.var 3)) [some (.str R), some (.str D), some (.int (i : Int)), some (.int (n : Int)), x4] σ = some (true, σ) := by
  refine cond_ok ((ev_bin2 (ev_var T rfl) (ev_var T rfl)).trans ?_)
  show some (V.bool (decide ((i : Int) < (n : Int))), σ) = _
  rw [decide_eq_true (by (first | lia | omega))]
theorem loopQ {R rest : List Nat} {n s : Nat} (hn : R.length = n) (hs : s ≠ 34) (σ : Store) : ∀ (rem pre D : List Nat) (k : Nat) (x4 : Option V), R = pre ++ dblQ rem ++ [34, s] ++ rest → rem.length < k → D.length + rem.length ≤ 10000 →
    ∃ i x4', exWhile (condF T C (Ex.bin (Bop.lt) (Ex.var 2) (Ex.var 3))) (fun ρ σ => exs T C ρ σ bodyQ) k [some (.str R), some (.str D), some (.int (pre.length : Int)), some (.int (n : Int)), x4] σ = some (.next, [some (.str R), some (.str (D ++ rem)), some (.int (i : Int)), some (.int (n : Int)), x4'], σ)
  | rem, pre, D, 0, x4, hR, hk, hD => absurd hk (Nat.not_lt_zero _)
  | [], pre, D, k + 1, x4, hR, hk, hD => by
    have h1 : R[pre.length]? = some 34 := by rw [hR]; simp [dblQ]
    have h2 : R[pre.length + 1]? = some s := by rw [hR]; simp [dblQ, List.getElem?_append_right]
    have hlt : pre.length < n := by rw [← hn]; exact (List.getElem?_eq_some_iff.mp h1).1
    rw [List.append_nil]
    exact ⟨_, _, while_brk (condQ T C hlt x4 σ) (turnE T C h1 h2 hs hn x4 σ)⟩
  | c :: rem, pre, D, k + 1, x4, hR, hk, hD => by
    have hLim : LIM = 16777216 := rfl
    simp only [List.length_cons] at hk hD
    by_cases hc : c = 34
    · subst hc
      have e : dblQ (34 :: rem) = 34 :: 34 :: dblQ rem := by simp [dblQ]
      rw [e] at hR
      have h1 : R[pre.length]? = some 34 := by rw [hR]; simp
      have h2 : R[pre.length + 1]? = some 34 := by rw [hR]; simp [List.getElem?_append_right]
      have hlt : pre.length < n := by rw [← hn]; exact (List.getElem?_eq_some_iff.mp h1).1
      obtain ⟨i, x4', h⟩ := loopQ (rest := rest) hn hs σ rem (pre ++ [34, 34]) (D ++ [34]) k (some (.str [34])) (by rw [hR]; simp) (by (first | lia | omega)) (by simp only [List.length_append, List.length_cons, List.length_nil]; (first | lia | omega))
      refine ⟨i, x4', (while_next (condQ T C hlt x4 σ) (turnD T C h1 h2 hn (by (first | lia | omega)) x4 σ)).trans ?_⟩
      rw [show (pre ++ [34, 34] : List Nat).length = pre.length + 2 from by simp, List.append_assoc] at h
      exact h
    · have e : dblQ (c :: rem) = c :: dblQ rem := by simp [dblQ, hc]
      rw [e] at hR
      have h1 : R[pre.length]? = some c := by rw [hR]; simp
      have hlt : pre.length < n := by rw [← hn]; exact (List.getElem?_eq_some_iff.mp h1).1
      obtain ⟨i, x4', h⟩ := loopQ (rest := rest) hn hs σ rem (pre ++ [c]) (D ++ [c]) k (some (.str [c])) (by rw [hR]; simp) (by (first | lia | omega)) (by simp only [List.length_append, List.length_cons, List.length_nil]; (first | lia | omega))
      refine ⟨i, x4', (while_next (condQ T C hlt x4 σ) (turnP T C h1 hc (by (first | lia | omega)) x4 σ)).trans ?_⟩
      rw [show (pre ++ [c] : List Nat).length = pre.length + 1 from by simp, List.append_assoc] at h
      exact h
end
theorem parse_ok (T : Tabs) (d : Nat) (σ : Store) {raw rest : List Nat} {s : Nat} (hs : s ≠ 34) (hl : raw.length ≤ 1000) (hr : rest.length ≤ 10000000) :
    callD T fns (d + 1) 0 [.str ([50, 53, 55, 32] ++ (quotedS raw ++ s :: rest))] σ = some (.str raw, σ) := by
  generalize hR : ([50, 53, 55, 32] ++ (quotedS raw ++ s :: rest) : List Nat) = R
  have hR2 : R = [50, 53, 55, 32, 34] ++ dblQ raw ++ [34, s] ++ rest := by rw [← hR]; simp [quotedS]
  obtain ⟨i, x4, h⟩ := loopQ T (callD T fns d) (R := R) (rest := rest) (n := R.length) rfl hs [] raw [50, 53, 55, 32, 34] [] TURNS none hR2 (by show raw.length < 100000; (first | lia | omega)) (by simp only [List.length_nil]; (first | lia | omega))
  have c1 : cut R 0 (clip 3 R.length) = [50, 53, 55] := by
    have : 3 ≤ R.length := by rw [hR2]; simp only [List.length_append, List.length_cons]; (first | lia | omega)
    have e : clip 3 R.length = 3 := by unfold clip; rw [if_pos (by decide)]; exact Nat.min_eq_left this
    rw [e, hR2]; rfl
  have c2 : cut R (clip 3 R.length) (clip 5 R.length) = [32, 34] := by
    have : 5 ≤ R.length := by rw [hR2]; simp only [List.length_append, List.length_cons]; (first | lia | omega)
    have e : clip 3 R.length = 3 := by unfold clip; rw [if_pos (by decide)]; exact Nat.min_eq_left (by show 3 ≤ _; (first | lia | omega))
    have e5 : clip 5 R.length = 5 := by unfold clip; rw [if_pos (by decide)]; exact Nat.min_eq_left this
    rw [e, e5, hR2]; rfl
  have e1 : ev T (callD T fns d) [some (.str R), none, none, none, none] [] (Ex.bin (Bop.ne) (Ex.bin (Bop.sliceT) (Ex.var 0) (Ex.int 3)) (Ex.str [50, 53, 55])) = some (.bool false, []) :=
    (ev_bin2 ((ev_bin2 (ev_var T rfl) (ev_int T)).trans evB_sliceT_str) (ev_str T)).trans (by rw [c1]; rfl)
  have e2 : ev T (callD T fns d) [some (.str R), none, none, none, none] [] (Ex.bin (Bop.ne) (Ex.slice (Ex.var 0) (Ex.int 3) (Ex.int 5)) (Ex.str [32, 34])) = some (.bool false, []) := by
    have hsl : ev T (callD T fns d) [some (.str R), none, none, none, none] [] (Ex.slice (Ex.var 0) (Ex.int 3) (Ex.int 5)) = some (.str [32, 34], []) := by
      simp only [ev, List.getElem?_cons_zero, c2]
    exact (ev_bin2 hsl (ev_str T)).trans rfl
  rw [List.nil_append] at h
  refine (callD_own (v := .str raw) (σ' := []) (ρ' := [some (.str R), some (.str raw), some (.int (i : Int)), some (.int (R.length : Int)), x4]) fns_0 rfl rfl ?_).trans rfl
  refine (exs_next ((exs_ite e1).trans exs_nil)).trans ((exs_next ((exs_ite e2).trans exs_nil)).trans ?_)
  refine (exs_next (ρ' := [some (.str R), some (.str []), none, none, none]) (σ' := []) (ex_set (ev_str T))).trans ?_
  refine (exs_next (ρ' := [some (.str R), some (.str []), some (.int 5), none, none]) (σ' := []) (ex_set (ev_int T))).trans ?_
  refine (exs_next (ρ' := [some (.str R), some (.str []), some (.int 5), some (.int (R.length : Int)), none]) (σ' := []) (ex_set ((ev_un2 (ev_var T rfl)).trans rfl))).trans ?_
  exact (exs_next (ex_while.trans h)).trans (exs_ret (ev_var T rfl))
end W2
end Mine
end

section
set_option Elab.async false
set_option linter.unusedVariables false
set_option linter.unusedSimpArgs false
namespace Mine
namespace W2
noncomputable def b1W : List Int := [65024, 65025, 65026, 65027, 65028, 65029, 6150, 65030, 65031, 65032, 65033, 6155, 6156, 6157, 8203, 8204, 8205, 65034, 65035, 65036, 65037, 65038, 65039, 173, 847, 8288, 65279]
noncomputable def tokW : List (List Nat × Int) := [([33], 54), ([33, 61], 28), ([37], 24), ([37, 61], 40), ([38], 19), ([38, 61], 41), ([40], 7), ([41], 8), ([42], 16), ([42, 42], 35), ([42, 42, 61], 46), ([42, 61], 38), ([43], 14), ([43, 61], 36), ([44], 12), ([45], 15), ([45, 61], 37), ([45, 62], 51), ([46], 23), ([46, 46, 46], 52), ([47], 17), ([47, 47], 47), ([47, 47, 61], 48), ([47, 61], 39), ([58], 11), ([58, 61], 53), ([59], 13), ([60], 20), ([60, 60], 33), ([60, 60, 61], 44), ([60, 61], 29), ([61], 22), ([61, 61], 27), ([62], 21), ([62, 61], 30), ([62, 62], 34), ([62, 62, 61], 45), ([64], 49), ([64, 61], 50), ([91], 9), ([93], 10), ([94], 32), ([94, 61], 43), ([123], 25), ([124], 18), ([124, 61], 42), ([125], 26), ([126], 31)]

/-! pieces of a line -/
set_option genInjectivity false
inductive Pc where
  | op (c : Nat) (t : List Nat) | nm (raw pl : List Nat)
noncomputable def Pc.txt : Pc → List Nat
  | op _ t => t
  | nm raw _ => quotedS raw
noncomputable def ops : List (List Nat × Nat) := [([64], 49), ([45, 62], 51), ([42], 16), ([47], 17), ([42, 42], 35), ([42, 42, 61], 46), ([47, 47], 47)]
noncomputable def foldS (T : Tabs) (raw : List Nat) : List Nat := joinL [] (raw.filterMap fun (c : Nat) => if T.b1.contains (c : Int) then none else some (fold1 T c))
noncomputable def Pc.ok (T : Tabs) : Pc → Prop
  | op c t => (t, c) ∈ ops
  | nm raw pl => raw.length ≤ 200 ∧ pl.length ≤ 200 ∧ foldS T raw = pl ∧ ∀ c ∈ raw, T.b1.contains (c : Int) = false → T.b3.lookup (c : Int) = none → c < 128
noncomputable def addN (N : List (List Nat)) (pl : List Nat) : List (List Nat) := if pl ∈ N then N else N ++ [pl]
noncomputable def namesF : List (List Nat) → List Pc → List (List Nat)
  | N, [] => N
  | N, .op _ _ :: ps => namesF N ps
  | N, .nm _ pl :: ps => namesF (addN N pl) ps
noncomputable def toksF : List (List Nat) → List Pc → List Nat
  | _, [] => []
  | N, .op c _ :: ps => c :: toksF N ps
  | N, .nm _ pl :: ps => (256 + (addN N pl).idxOf pl) :: toksF (addN N pl) ps
theorem mem_addN (N : List (List Nat)) (pl : List Nat) : pl ∈ addN N pl := by
  unfold addN
  split
  · assumption
  · simp
theorem tok_none : ∀ (l : List Nat), (∃ c ∈ l, 128 ≤ c) → tokW.lookup l = none := by
  have hsmall : ∀ p ∈ tokW, ∀ c ∈ p.1, c < 128 := by decide
  intro l ⟨c, hc, h128⟩
  have key : ∀ (L : List (List Nat × Int)), (∀ p ∈ L, ∀ c ∈ p.1, c < 128) → L.lookup l = none := by
    intro L
    induction L with
    | nil => intro _; rfl
    | cons p L ih =>
      intro hL
      obtain ⟨k, v⟩ := p
      rw [List.lookup_cons]
      have hne : (l == k) = false := by
        rw [beq_eq_false_iff_ne]
        intro e
        subst e
        have := hL _ List.mem_cons_self c hc
        (first | lia | omega)
      rw [hne]
      exact ih fun p hp => hL p (List.mem_cons_of_mem _ hp)
  exact key _ hsmall
theorem ops_tok : ∀ p ∈ ops, tokW.lookup p.1 = some ((p.2 : Nat) : Int) ∧ 1 ≤ p.1.length ∧ p.1.length ≤ 3 ∧ p.1.head? ≠ some 34 ∧ (∀ c, p.1.head? = some c → b1W.contains (c : Int) = false) := by
  intro p hp
  simp only [ops, List.mem_cons, List.not_mem_nil, or_false] at hp
  rcases hp with rfl | rfl | rfl | rfl | rfl | rfl | rfl <;> refine ⟨by decide, by decide, by decide, by decide, fun c hc => ?_⟩ <;> (simp at hc; subst hc; decide)
theorem sep_b1 (k : Nat) : b1W.contains ((65024 + k % 16 : Nat) : Int) = true := by
  have h : ∀ j, j < 16 → b1W.contains ((65024 + j : Nat) : Int) = true := by decide
  exact h _ (Nat.mod_lt _ (by decide))
/-- what else stands in the store -/
noncomputable def Fr (n r : Nat) (τ τ' : Store) : Prop := τ.length ≤ τ'.length ∧ ∀ i, i < τ.length → i ≠ n → i ≠ r → τ'[i]? = τ[i]?
theorem Fr.refl (n r : Nat) (τ : Store) : Fr n r τ τ := ⟨Nat.le_refl _, fun _ _ _ _ => rfl⟩
theorem Fr.trans {n r : Nat} {a b c : Store} (h : Fr n r a b) (h' : Fr n r b c) : Fr n r a c :=
  ⟨Nat.le_trans h.1 h'.1, fun i hi h1 h2 => (h'.2 i (Nat.lt_of_lt_of_le hi h.1) h1 h2).trans (h.2 i hi h1 h2)⟩
theorem Fr.setN {n r : Nat} {a b : Store} (h : Fr n r a b) (x : List V) : Fr n r a (b.set n x) :=
  ⟨by rw [List.length_set]; exact h.1, fun i hi h1 h2 => by rw [List.getElem?_set_ne (Ne.symm h1)]; exact h.2 i hi h1 h2⟩
theorem Fr.setR {n r : Nat} {a b : Store} (h : Fr n r a b) (x : List V) : Fr n r a (b.set r x) :=
  ⟨by rw [List.length_set]; exact h.1, fun i hi h1 h2 => by rw [List.getElem?_set_ne (Ne.symm h2)]; exact h.2 i hi h1 h2⟩
theorem Fr.app {n r : Nat} {a b : Store} (h : Fr n r a b) (x : Store) : Fr n r a (b ++ x) :=
  ⟨by rw [List.length_append]; have := h.1; (first | lia | omega), fun i hi h1 h2 => by rw [List.getElem?_append_left (Nat.lt_of_lt_of_le hi h.1)]; exact h.2 i hi h1 h2⟩

section
variable (b3 : List (Int × List Nat)) (d : Nat)
noncomputable abbrev TT (b3 : List (Int × List Nat)) : Tabs := ⟨b1W, b3, tokW⟩
noncomputable abbrev CC (b3 : List (Int × List Nat)) (d : Nat) : Calls := callD (TT b3) fns (d + 1)
noncomputable def condR1 : Ex := Ex.bin (Bop.is) (Ex.call 1 (Exs.cons (Ex.bin (Bop.item) (Ex.var 0) (Ex.int 0)) (Exs.nil))) (Ex.bool true)
noncomputable def condR2 : Ex := Ex.bin (Bop.eq) (Ex.bin (Bop.item) (Ex.var 0) (Ex.int 0)) (Ex.str [34])
noncomputable def sepR : Sts := Sts.cons (St.set 0 (Ex.bin (Bop.sliceF) (Ex.var 0) (Ex.int 1))) (Sts.nil)
noncomputable def foldE : Ex := Ex.compIf (Ex.var 3) (Ex.bin (Bop.is) (Ex.call 1 (Exs.cons (Ex.var 6) (Exs.nil))) (Ex.bool false)) (Ex.call 2 (Exs.cons (Ex.var 6) (Exs.nil)))
noncomputable def nameR : Sts := Sts.cons (St.set 3 (Ex.call 0 (Exs.cons (Ex.bin (Bop.add) (Ex.str [50, 53, 55, 32]) (Ex.var 0)) (Exs.nil)))) (Sts.cons (St.set 0 (Ex.bin (Bop.sliceF) (Ex.var 0) (Ex.un (Uop.len) (Ex.call 10 (Exs.cons (Ex.var 3) (Exs.nil)))))) (Sts.cons (St.set 4 (Ex.bin (Bop.join) (Ex.str []) foldE)) (Sts.cons (St.ite (Ex.bin (Bop.notin) (Ex.var 4) (Ex.var 1)) (Sts.cons (St.expr (Ex.bin (Bop.append) (Ex.var 1) (Ex.var 4))) (Sts.nil)) (Sts.nil)) (Sts.cons (St.expr (Ex.bin (Bop.append) (Ex.var 2) (Ex.bin (Bop.add) (Ex.int 256) (Ex.bin (Bop.index) (Ex.var 1) (Ex.var 4))))) (Sts.nil)))))
noncomputable def lookR : Sts := Sts.cons (St.ite (Ex.un (Uop.inTok) (Ex.bin (Bop.sliceT) (Ex.var 0) (Ex.var 5))) (Sts.cons (St.brk) (Sts.nil)) (Sts.nil)) (Sts.nil)
noncomputable def opR : Sts := Sts.cons (St.forIn 5 (Ex.tup (Exs.cons (Ex.int 3) (Exs.cons (Ex.int 2) (Exs.cons (Ex.int 1) (Exs.nil))))) lookR) (Sts.cons (St.expr (Ex.bin (Bop.append) (Ex.var 2) (Ex.un (Uop.tok) (Ex.bin (Bop.sliceT) (Ex.var 0) (Ex.var 5))))) (Sts.cons (St.set 0 (Ex.bin (Bop.sliceF) (Ex.var 0) (Ex.var 5))) (Sts.nil)))
noncomputable def bodyR : Sts := Sts.cons (St.ite condR1 sepR (Sts.cons (St.ite condR2 nameR opR) Sts.nil)) Sts.nil
theorem cut_from {l : List Nat} {k : Nat} (h : k ≤ l.length) : cut l (clip (k : Int) l.length) l.length = l.drop k := by
  have e : clip (k : Int) l.length = k := by unfold clip; rw [if_pos (Int.natCast_nonneg k), Int.toNat_natCast]; exact Nat.min_eq_left h
  rw [e, cut, List.take_of_length_le (by rw [List.length_drop]; (first | lia | omega))]
theorem cut_to {l : List Nat} (k : Nat) : cut l 0 (clip (k : Int) l.length) = l.take k := by
  have e : clip (k : Int) l.length = min k l.length := by unfold clip; rw [if_pos (Int.natCast_nonneg k), Int.toNat_natCast]; first | done | rfl
  rw [e, cut, List.drop_zero, Nat.sub_zero]
  rcases Nat.le_total k l.length with h | h
  · rw [Nat.min_eq_left h]
  · rw [Nat.min_eq_right h, List.take_of_length_le (Nat.le_refl _), List.take_of_length_le h]
theorem first_ok {c : Nat} {txt : List Nat} {r : REnv} {σ : Store} : ev (TT b3) (CC b3 d) (some (.str (c :: txt)) :: r) σ (Ex.bin (Bop.item) (Ex.var 0) (Ex.int 0)) = some (.str [c], σ) :=
  (ev_bin2 (ev_var (TT b3) rfl) (ev_int (TT b3))).trans (item_at (k := 0) rfl)
theorem condR1_ok {c : Nat} {txt : List Nat} {r : REnv} {σ : Store} {b : Bool} (hb : b1W.contains (c : Int) = b) : ev (TT b3) (CC b3 d) (some (.str (c :: txt)) :: r) σ condR1 = some (.bool b, σ) := by
  subst hb
  refine (ev_bin2 (call1 (TT b3) (first_ok b3 d) (inB1_ok (TT b3) d σ c)) (by rw [ev])).trans ?_
  show (some ((b1W.contains (c : Int)) == true)).map (fun r => (V.bool r, σ)) = _
  cases b1W.contains (c : Int) <;> rfl
theorem condR2_ok {c : Nat} {txt : List Nat} {r : REnv} {σ : Store} : ev (TT b3) (CC b3 d) (some (.str (c :: txt)) :: r) σ condR2 = some (.bool (decide (c = 34)), σ) := by
  have e : ([c] == [34]) = decide (c = 34) := by
    rw [Bool.eq_iff_iff, beq_iff_eq, decide_eq_true_iff]; simp
  refine (ev_bin2 (first_ok b3 d) (ev_str (TT b3))).trans ?_
  show (eqV σ (.str [c]) (.str [34])).map (fun r => (V.bool r, σ)) = _
  rw [eqV_str, e]; rfl
/-- a turn at a sign between pieces -/
theorem turnSep {c : Nat} {txt : List Nat} {r : REnv} {σ : Store} (hb : b1W.contains (c : Int) = true) : exs (TT b3) (CC b3 d) (some (.str (c :: txt)) :: r) σ bodyR = some (.next, some (.str txt) :: r, σ) := by
  refine (exs_next (ρ' := some (.str txt) :: r) (σ' := σ) ((exs_ite (condR1_ok b3 d hb)).trans ?_)).trans exs_nil
  refine (exs_next (ρ' := some (.str txt) :: r) (σ' := σ) (ex_set ((ev_bin2 (ev_var (TT b3) rfl) (ev_int (TT b3))).trans (evB_sliceF_str.trans ?_)))).trans exs_nil
  rw [show (1 : Int) = ((1 : Nat) : Int) from rfl, cut_from (by simp)]
  first | done | rfl
/-- the longest entry -/
theorem lookR_ok {t rest : List Nat} {s : Nat} {c : Nat} (ht : (t, c) ∈ ops) (hs : 128 ≤ s) (x1 x2 x3 x4 x5 : Option V) (σ : Store) :
    ex (TT b3) (CC b3 d) [some (.str (t ++ s :: rest)), x1, x2, x3, x4, x5] σ (St.forIn 5 (Ex.tup (Exs.cons (Ex.int 3) (Exs.cons (Ex.int 2) (Exs.cons (Ex.int 1) (Exs.nil))))) lookR) = some (.next, [some (.str (t ++ s :: rest)), x1, x2, x3, x4, some (.int (t.length : Int))], σ) := by
  obtain ⟨h1, h2, h3, _, _⟩ := ops_tok _ ht
  have hsrc : ev (TT b3) (CC b3 d) [some (.str (t ++ s :: rest)), x1, x2, x3, x4, x5] σ (Ex.tup (Exs.cons (Ex.int 3) (Exs.cons (Ex.int 2) (Exs.cons (Ex.int 1) (Exs.nil))))) = some (.tup [.int 3, .int 2, .int 1], σ) := tup3 (TT b3) (ev_int _) (ev_int _) (ev_int _)
  have hcond : ∀ (k : Nat) (x5 : Option V), ev (TT b3) (CC b3 d) [some (.str (t ++ s :: rest)), x1, x2, x3, x4, some (.int (k : Int))] σ (Ex.un (Uop.inTok) (Ex.bin (Bop.sliceT) (Ex.var 0) (Ex.var 5))) = some (.bool (tokW.lookup ((t ++ s :: rest).take k)).isSome, σ) := fun k x5 => by
    refine (ev_un2 ((ev_bin2 (ev_var (TT b3) rfl) (ev_var (TT b3) rfl)).trans evB_sliceT_str)).trans ?_
    rw [cut_to]; rfl
  have hmiss : ∀ k : Nat, t.length < k → (tokW.lookup ((t ++ s :: rest).take k)).isSome = false := fun k hk => by
    rw [tok_none]
    · rfl
    · refine ⟨s, ?_, hs⟩
      rw [List.take_append]
      refine List.mem_append_right _ ?_
      rw [show k - t.length = (k - t.length - 1) + 1 by (first | lia | omega), List.take_succ_cons]
      exact List.mem_cons_self
  have hhit : (tokW.lookup ((t ++ s :: rest).take t.length)).isSome = true := by
    rw [List.take_left', h1]; rfl
    rfl
  have miss : ∀ (k : Nat) (x5 : Option V), t.length < k → exs (TT b3) (CC b3 d) [some (.str (t ++ s :: rest)), x1, x2, x3, x4, some (.int (k : Int))] σ lookR = some (.next, [some (.str (t ++ s :: rest)), x1, x2, x3, x4, some (.int (k : Int))], σ) := fun k x5 hk => by
    have h := hcond k x5
    rw [hmiss k hk] at h
    exact (exs_next ((exs_ite h).trans exs_nil)).trans exs_nil
  have hit : ∀ (x5 : Option V), exs (TT b3) (CC b3 d) [some (.str (t ++ s :: rest)), x1, x2, x3, x4, some (.int (t.length : Int))] σ lookR = some (.brk, [some (.str (t ++ s :: rest)), x1, x2, x3, x4, some (.int (t.length : Int))], σ) := fun x5 => by
    have h := hcond t.length x5
    rw [hhit] at h
    exact exs_brk ((exs_ite h).trans rfl)
  refine ex_for hsrc (Z := .fix [.int 3, .int 2, .int 1]) rfl ?_
  show exLoop (.fix [V.int 3, .int 2, .int 1]) (fun v ρ σ => exs (TT b3) (CC b3 d) (ρ.set 5 (some v)) σ lookR) 4 0 _ σ = _
  have go : ∀ (k j : Nat) (i : Nat) (x5 : Option V), [V.int 3, .int 2, .int 1][j]? = some (.int (i : Int)) → t.length < i → exLoop (.fix [V.int 3, .int 2, .int 1]) (fun v ρ σ => exs (TT b3) (CC b3 d) (ρ.set 5 (some v)) σ lookR) (k + 1) j [some (.str (t ++ s :: rest)), x1, x2, x3, x4, x5] σ = exLoop (.fix [V.int 3, .int 2, .int 1]) (fun v ρ σ => exs (TT b3) (CC b3 d) (ρ.set 5 (some v)) σ lookR) k (j + 1) [some (.str (t ++ s :: rest)), x1, x2, x3, x4, some (.int (i : Int))] σ := fun k j i x5 hj hi => by
    rw [exLoop]
    simp only [Src.get, hj]
    have := miss i x5 hi
    simp only [List.set_cons_succ, List.set_cons_zero, this]
  have stop : ∀ (k j : Nat) (x5 : Option V), [V.int 3, .int 2, .int 1][j]? = some (.int (t.length : Int)) → exLoop (.fix [V.int 3, .int 2, .int 1]) (fun v ρ σ => exs (TT b3) (CC b3 d) (ρ.set 5 (some v)) σ lookR) (k + 1) j [some (.str (t ++ s :: rest)), x1, x2, x3, x4, x5] σ = some (.next, [some (.str (t ++ s :: rest)), x1, x2, x3, x4, some (.int (t.length : Int))], σ) := fun k j x5 hj => by
    rw [exLoop]
    simp only [Src.get, hj]
    simp only [List.set_cons_succ, List.set_cons_zero, hit x5]
  rcases (show t.length = 1 ∨ t.length = 2 ∨ t.length = 3 by simp only at h2 h3; (first | lia | omega)) with e | e | e
  · rw [go 3 0 3 _ rfl (by (first | lia | omega)), go 2 1 2 _ rfl (by (first | lia | omega))]
    exact stop 1 2 _ (by rw [e]; rfl)
  · rw [go 3 0 3 _ rfl (by (first | lia | omega))]
    exact stop 2 1 _ (by rw [e]; rfl)
  · exact stop 3 0 _ (by rw [e]; rfl)
theorem app_int {σ : Store} {p : Nat} {ps : List Nat} {x : Nat} (h : σ[p]? = some (intL ps)) (hl : ps.length < 1000000) : evB .append (.lst p) (.int (x : Int)) σ = some (.none, σ.set p (intL (ps ++ [x]))) := by
  have hL : LIM = 16777216 := rfl
  rw [evB_append h (by rw [List.length_map]; (first | lia | omega)), intL, intL, List.map_append]; rfl
/-- a turn at an operator -/
theorem turnOp {t rest : List Nat} {s c : Nat} (ht : (t, c) ∈ ops) (hs : 128 ≤ s) (n r : Nat) (x3 x4 x5 : Option V) {σ : Store} {acc : List Nat} (hr : σ[r]? = some (intL acc)) (hl : acc.length < 1000000) :
    exs (TT b3) (CC b3 d) [some (.str (t ++ s :: rest)), some (.lst n), some (.lst r), x3, x4, x5] σ bodyR = some (.next, [some (.str (s :: rest)), some (.lst n), some (.lst r), x3, x4, some (.int (t.length : Int))], σ.set r (intL (acc ++ [c]))) := by
  obtain ⟨h1, h2, h3, h4, h5⟩ := ops_tok _ ht
  simp only at h1 h2 h3 h4 h5
  obtain ⟨a, t', rfl⟩ : ∃ a t', t = a :: t' := by
    cases t with
    | nil => exact absurd h2 (by decide)
    | cons a t' => exact ⟨a, t', rfl⟩
  have ha : a ≠ 34 := fun e => h4 (by rw [e]; rfl)
  have c1 := condR1_ok b3 d (txt := t' ++ s :: rest) (r := [some (.lst n), some (.lst r), x3, x4, x5]) (σ := σ) (h5 a rfl)
  have c2 := condR2_ok b3 d (c := a) (txt := t' ++ s :: rest) (r := [some (.lst n), some (.lst r), x3, x4, x5]) (σ := σ)
  rw [decide_eq_false ha] at c2
  refine (exs_next (ρ' := [some (.str (s :: rest)), some (.lst n), some (.lst r), x3, x4, some (.int ((a :: t').length : Int))]) (σ' := σ.set r (intL (acc ++ [c]))) ((exs_ite c1).trans ((exs_next ((exs_ite c2).trans ?_)).trans exs_nil))).trans exs_nil
  refine (exs_next (lookR_ok b3 d ht hs (some (.lst n)) (some (.lst r)) x3 x4 x5 σ)).trans ?_
  have htok : ev (TT b3) (CC b3 d) [some (.str (a :: t' ++ s :: rest)), some (.lst n), some (.lst r), x3, x4, some (.int ((a :: t').length : Int))] σ (Ex.un (Uop.tok) (Ex.bin (Bop.sliceT) (Ex.var 0) (Ex.var 5))) = some (.int (c : Int), σ) := by
    refine (ev_un2 ((ev_bin2 (ev_var (TT b3) rfl) (ev_var (TT b3) rfl)).trans evB_sliceT_str)).trans ?_
    rw [cut_to]
    show (tokW.lookup ((a :: t' ++ s :: rest).take (a :: t').length)).map (fun i => (V.int i, σ)) = _
    rw [List.take_left', h1]; rfl
    rfl
  refine (exs_next (ex_expr ((ev_bin2 (ev_var (TT b3) rfl) htok).trans (app_int hr hl)))).trans ?_
  refine (exs_next (ρ' := [some (.str (s :: rest)), some (.lst n), some (.lst r), x3, x4, some (.int ((a :: t').length : Int))]) (σ' := σ.set r (intL (acc ++ [c]))) (ex_set ((ev_bin2 (ev_var (TT b3) rfl) (ev_var (TT b3) rfl)).trans (evB_sliceF_str.trans ?_)))).trans exs_nil
  rw [cut_from (by rw [List.length_append]; (first | lia | omega)), List.drop_left' rfl]
end
end W2
end Mine
end

section
set_option Elab.async false
set_option linter.unusedVariables false
set_option linter.unusedSimpArgs false
namespace Mine
namespace W2
theorem at_last {σ : Store} {x : List V} : (σ ++ [x])[σ.length]? = some x := by simp
theorem joinL_nil : ∀ L : List (List Nat), (joinL [] L).length = (L.map List.length).sum
  | [] => rfl
  | [x] => by simp [joinL]
  | x :: y :: r => by
    have := joinL_nil (y :: r)
    simp only [joinL, List.length_append, List.map_cons, List.sum_cons, List.length_nil] at this ⊢
    (first | lia | omega)
section
variable (b3 : List (Int × List Nat)) (d : Nat)
theorem isFalse_ok {ρ : REnv} {σ : Store} {c : Nat} (h : ρ[6]? = some (some (.str [c]))) : ev (TT b3) (CC b3 d) ρ σ (Ex.bin (Bop.is) (Ex.call 1 (Exs.cons (Ex.var 6) (Exs.nil))) (Ex.bool false)) = some (.bool (!b1W.contains (c : Int)), σ) := by
  refine (ev_bin2 (call1 (TT b3) (ev_var (TT b3) h) (inB1_ok (TT b3) d σ c)) (by rw [ev])).trans ?_
  show (some ((b1W.contains (c : Int)) == false)).map (fun r => (V.bool r, σ)) = _
  cases b1W.contains (c : Int) <;> rfl
/-- the folding of a name -/
theorem fold_ok {raw pl : List Nat} (hok : Pc.ok (TT b3) (.nm raw pl)) (x0 x1 x2 x4 x5 : Option V) (σ : Store) :
    ∃ junk, ev (TT b3) (CC b3 d) [x0, x1, x2, some (.str raw), x4, x5] σ (Ex.bin (Bop.join) (Ex.str []) foldE) = some (.str pl, σ ++ [junk]) := by
  obtain ⟨h1, h2, h3, h4⟩ := hok
  have hLim : LIM = 16777216 := rfl
  have step : ∀ c ∈ raw, cIf (TT b3) (CC b3 d) [x0, x1, x2, some (.str raw), x4, x5] (Ex.bin (Bop.is) (Ex.call 1 (Exs.cons (Ex.var 6) (Exs.nil))) (Ex.bool false)) (Ex.call 2 (Exs.cons (Ex.var 6) (Exs.nil))) (.str [c]) σ = some ((fun c : Nat => if b1W.contains (c : Int) then none else some (V.str (fold1 (TT b3) c))) c, σ) := fun c hc => by
    have hcond := isFalse_ok b3 d (ρ := [x0, x1, x2, some (.str raw), x4, x5] ++ [some (.str [c])]) (σ := σ) (c := c) rfl
    cases hb : b1W.contains (c : Int) with
    | true =>
      rw [hb] at hcond
      rw [cIf_false hcond]
      dsimp only
      rw [hb]
      rfl
    | false =>
      rw [hb] at hcond
      rw [cIf_true hcond (call1 (TT b3) (ev_var (TT b3) rfl) (map_ok (TT b3) d σ c (h4 c hc hb)))]
      dsimp only
      rw [hb]
      rfl
  have hloop := comp_str (l := raw) (σ := σ) _ step
  have hfm : ∀ l : List Nat, l.filterMap (fun c : Nat => if b1W.contains (c : Int) then none else some (V.str (fold1 (TT b3) c))) = strL (l.filterMap fun c : Nat => if b1W.contains (c : Int) then none else some (fold1 (TT b3) c)) := fun l => by
    induction l with
    | nil => rfl
    | cons c l ih =>
      rw [List.filterMap_cons, List.filterMap_cons, ih]
      cases hb : b1W.contains (c : Int) with
      | true => rfl
      | false => rfl
  rw [hfm] at hloop
  have hlen : (strL (raw.filterMap fun c : Nat => if b1W.contains (c : Int) then none else some (fold1 (TT b3) c))).length ≤ raw.length := by
    rw [List.length_map]; exact List.length_filterMap_le _ _
  have hcomp := ev_compIf_intro (T := TT b3) (C := CC b3 d) (ρ := [x0, x1, x2, some (.str raw), x4, x5]) (σ := σ) (src := .var 3) (ev_var (TT b3) rfl) rfl hloop (by (first | lia | omega))
  have hj : evB .join (.str []) (.lst σ.length) (σ ++ [strL (raw.filterMap fun c : Nat => if b1W.contains (c : Int) then none else some (fold1 (TT b3) c))]) = some (.str pl, σ ++ [strL (raw.filterMap fun c : Nat => if b1W.contains (c : Int) then none else some (fold1 (TT b3) c))]) := by
    have e := evB_join (σ := σ ++ [strL (raw.filterMap fun c : Nat => if b1W.contains (c : Int) then none else some (fold1 (TT b3) c))]) (n := σ.length) (sep := []) at_last (strs_all _) (by
      rw [strs_map, ← joinL_nil, List.length_nil, Nat.mul_zero, Nat.add_zero]
      have : (joinL [] (raw.filterMap fun c : Nat => if b1W.contains (c : Int) then none else some (fold1 (TT b3) c))) = pl := h3
      rw [this]; (first | lia | omega))
    rw [e, strs_map]
    exact congrArg (fun x => some (V.str x, _)) h3
  exact ⟨_, (ev_bin2 (ev_str (TT b3)) hcomp).trans hj⟩
/-- a turn at a name -/
theorem turnNm {raw pl rest : List Nat} {s : Nat} (hok : Pc.ok (TT b3) (.nm raw pl)) (hs : 128 ≤ s) {n r : Nat} (hnr : n ≠ r) (x3 x4 x5 : Option V) {τ : Store} {N : List (List Nat)} {acc : List Nat} (hn : τ[n]? = some (strL N)) (hr : τ[r]? = some (intL acc)) (hl : acc.length < 1000000) (hN : N.length < 1000000) (hlen : rest.length ≤ 10000000) :
    ∃ x3' x4' τ', exs (TT b3) (CC b3 d) [some (.str (quotedS raw ++ s :: rest)), some (.lst n), some (.lst r), x3, x4, x5] τ bodyR = some (.next, [some (.str (s :: rest)), some (.lst n), some (.lst r), x3', x4', x5], τ') ∧
      τ'[n]? = some (strL (addN N pl)) ∧ τ'[r]? = some (intL (acc ++ [256 + (addN N pl).idxOf pl])) ∧ Fr n r τ τ' := by
  obtain ⟨h1, h2, h3, h4⟩ := hok
  have hLim : LIM = 16777216 := rfl
  have hq := dblQ_len raw
  have hql : (quotedS raw).length ≤ 500 := by simp only [quotedS, List.length_append, List.length_cons, List.length_nil]; (first | lia | omega)
  have e0 : quotedS raw ++ s :: rest = 34 :: (dblQ raw ++ [34] ++ s :: rest) := by simp [quotedS]
  have c1 := condR1_ok b3 d (c := 34) (txt := dblQ raw ++ [34] ++ s :: rest) (r := [some (.lst n), some (.lst r), x3, x4, x5]) (σ := τ) (b := false) (by decide)
  have c2 := condR2_ok b3 d (c := 34) (txt := dblQ raw ++ [34] ++ s :: rest) (r := [some (.lst n), some (.lst r), x3, x4, x5]) (σ := τ)
  rw [decide_eq_true rfl] at c2
  rw [← e0] at c1 c2
  obtain ⟨junk, hj⟩ := fold_ok b3 d (raw := raw) (pl := pl) ⟨h1, h2, h3, h4⟩ (some (.str (s :: rest))) (some (.lst n)) (some (.lst r)) x4 x5 τ
  have hn1 : (τ ++ [junk])[n]? = some (strL N) := at_app hn
  have hr1 : (τ ++ [junk])[r]? = some (intL acc) := at_app hr
  have hparse : ev (TT b3) (CC b3 d) [some (.str (quotedS raw ++ s :: rest)), some (.lst n), some (.lst r), x3, x4, x5] τ (Ex.call 0 (Exs.cons (Ex.bin (Bop.add) (Ex.str [50, 53, 55, 32]) (Ex.var 0)) (Exs.nil))) = some (.str raw, τ) :=
    call1 (TT b3) ((ev_bin2 (ev_str (TT b3)) (ev_var (TT b3) rfl)).trans (evB_add_str (by simp only [List.length_append, List.length_cons, List.length_nil]; (first | lia | omega)))) (parse_ok (TT b3) d τ (by (first | lia | omega)) (by (first | lia | omega)) hlen)
  have hcut : ev (TT b3) (CC b3 d) [some (.str (quotedS raw ++ s :: rest)), some (.lst n), some (.lst r), some (.str raw), x4, x5] τ (Ex.bin (Bop.sliceF) (Ex.var 0) (Ex.un (Uop.len) (Ex.call 10 (Exs.cons (Ex.var 3) (Exs.nil))))) = some (.str (s :: rest), τ) := by
    refine (ev_bin2 (ev_var (TT b3) rfl) ((ev_un2 (call1 (TT b3) (ev_var (TT b3) rfl) (quoted_ok (TT b3) d τ raw (by (first | lia | omega))))).trans rfl)).trans (evB_sliceF_str.trans ?_)
    rw [cut_from (by rw [List.length_append]; (first | lia | omega)), List.drop_left' rfl]
  have hnot : ev (TT b3) (CC b3 d) [some (.str (s :: rest)), some (.lst n), some (.lst r), some (.str raw), some (.str pl), x5] (τ ++ [junk]) (Ex.bin (Bop.notin) (Ex.var 4) (Ex.var 1)) = some (.bool (!decide (pl ∈ N)), τ ++ [junk]) :=
    (ev_bin2 (ev_var (TT b3) rfl) (ev_var (TT b3) rfl)).trans (evB_notin_str hn1)
  have hadd : ex (TT b3) (CC b3 d) [some (.str (s :: rest)), some (.lst n), some (.lst r), some (.str raw), some (.str pl), x5] (τ ++ [junk]) (St.ite (Ex.bin (Bop.notin) (Ex.var 4) (Ex.var 1)) (Sts.cons (St.expr (Ex.bin (Bop.append) (Ex.var 1) (Ex.var 4))) (Sts.nil)) (Sts.nil)) = some (.next, [some (.str (s :: rest)), some (.lst n), some (.lst r), some (.str raw), some (.str pl), x5], (τ ++ [junk]).set n (strL (addN N pl))) := by
    refine (exs_ite hnot).trans ?_
    unfold addN
    by_cases hm : pl ∈ N
    · rw [decide_eq_true hm, if_pos hm, set_self' hn1]
      exact exs_nil
    · rw [decide_eq_false hm, if_neg hm]
      exact (exs_next (ex_expr ((ev_bin2 (ev_var (TT b3) rfl) (ev_var (TT b3) rfl)).trans (app_str hn1 hN)))).trans exs_nil
  have hn2 : ((τ ++ [junk]).set n (strL (addN N pl)))[n]? = some (strL (addN N pl)) := get_set hn1
  have hr2 : ((τ ++ [junk]).set n (strL (addN N pl)))[r]? = some (intL acc) := get_set_ne (Ne.symm hnr) hr1
  have hidx : ev (TT b3) (CC b3 d) [some (.str (s :: rest)), some (.lst n), some (.lst r), some (.str raw), some (.str pl), x5] ((τ ++ [junk]).set n (strL (addN N pl))) (Ex.bin (Bop.add) (Ex.int 256) (Ex.bin (Bop.index) (Ex.var 1) (Ex.var 4))) = some (.int ((256 + (addN N pl).idxOf pl : Nat) : Int), (τ ++ [junk]).set n (strL (addN N pl))) :=
    (ev_bin2 (ev_int (TT b3)) ((ev_bin2 (ev_var (TT b3) rfl) (ev_var (TT b3) rfl)).trans (evB_index hn2 (mem_addN N pl)))).trans (evB_addN 256 _)
  refine ⟨some (.str raw), some (.str pl), ((τ ++ [junk]).set n (strL (addN N pl))).set r (intL (acc ++ [256 + (addN N pl).idxOf pl])), ?_, get_set_ne hnr hn2, get_set hr2, (((Fr.refl n r τ).app [junk]).setN _).setR _⟩
  refine (exs_next (ρ' := [some (.str (s :: rest)), some (.lst n), some (.lst r), some (.str raw), some (.str pl), x5]) (σ' := ((τ ++ [junk]).set n (strL (addN N pl))).set r (intL (acc ++ [256 + (addN N pl).idxOf pl]))) ((exs_ite c1).trans ((exs_next ((exs_ite c2).trans ?_)).trans exs_nil))).trans exs_nil
  refine (exs_next (ρ' := [some (.str (quotedS raw ++ s :: rest)), some (.lst n), some (.lst r), some (.str raw), x4, x5]) (σ' := τ) (ex_set hparse)).trans ?_
  refine (exs_next (ρ' := [some (.str (s :: rest)), some (.lst n), some (.lst r), some (.str raw), x4, x5]) (σ' := τ) (ex_set hcut)).trans ?_
  refine (exs_next (ρ' := [some (.str (s :: rest)), some (.lst n), some (.lst r), some (.str raw), some (.str pl), x5]) (σ' := τ ++ [junk]) (ex_set hj)).trans ?_
  refine (exs_next hadd).trans ?_
  exact (exs_next (ex_expr ((ev_bin2 (ev_var (TT b3) rfl) hidx).trans (app_int hr2 hl)))).trans exs_nil
noncomputable def condR : Ex := Ex.bin (Bop.ne) (Ex.var 0) (Ex.str [])
theorem condR_ok {txt : List Nat} {r : REnv} {σ : Store} {b : Bool} (hb : (txt != []) = b) : condF (TT b3) (CC b3 d) condR (some (.str txt) :: r) σ = some (b, σ) := by
  subst hb
  refine cond_ok ((ev_bin2 (ev_var (TT b3) rfl) (ev_str (TT b3))).trans ?_)
  rfl
theorem sep_big (k : Nat) : 128 ≤ 65024 + k % 16 := by (first | lia | omega)
theorem namesF_len : ∀ (ps : List Pc) (N : List (List Nat)), (namesF N ps).length ≤ N.length + ps.length
  | [], N => Nat.le_refl _
  | .op _ _ :: ps, N => by have := namesF_len ps N; simp only [namesF, List.length_cons]; (first | lia | omega)
  | .nm _ pl :: ps, N => by
    have := namesF_len ps (addN N pl)
    have h : (addN N pl).length ≤ N.length + 1 := by unfold addN; split <;> simp
    simp only [namesF, List.length_cons]; (first | lia | omega)
theorem txt_len {p : Pc} (h : p.ok (TT b3)) : p.txt.length ≤ 1000 := by
  cases p with
  | op c t => have := ops_tok _ h; simp only [Pc.txt] at this ⊢; (first | lia | omega)
  | nm raw pl =>
    have := dblQ_len raw
    have := h.1
    simp only [Pc.txt, quotedS, List.length_append, List.length_cons, List.length_nil]; (first | lia | omega)
noncomputable def ReadR (n r : Nat) (ps : List Pc) (k fuel : Nat) (N : List (List Nat)) (acc : List Nat) (x3 x4 x5 : Option V) (τ : Store) : Prop :=
    ∃ x3' x4' x5' τ', exWhile (condF (TT b3) (CC b3 d) condR) (fun ρ σ => exs (TT b3) (CC b3 d) ρ σ bodyR) fuel [some (.str (lineF k (ps.map Pc.txt))), some (.lst n), some (.lst r), x3, x4, x5] τ = some (.next, [some (.str []), some (.lst n), some (.lst r), x3', x4', x5'], τ') ∧
      τ'[n]? = some (strL (namesF N ps)) ∧ τ'[r]? = some (intL (acc ++ toksF N ps)) ∧ Fr n r τ τ'
/-- the reader's turns -/
theorem readLoop {n r : Nat} (hnr : n ≠ r) : ∀ (ps : List Pc) (k fuel : Nat) (N : List (List Nat)) (acc : List Nat) (x3 x4 x5 : Option V) (τ : Store), (∀ p ∈ ps, p.ok (TT b3)) → ps.length ≤ 5000 → 2 * ps.length < fuel → τ[n]? = some (strL N) → τ[r]? = some (intL acc) → acc.length + ps.length < 1000000 → N.length + ps.length < 1000000 →
    ReadR b3 d n r ps k fuel N acc x3 x4 x5 τ
  | [], k, 0, N, acc, x3, x4, x5, τ, hok, hp, hf, hn, hr, ha, hN => absurd hf (Nat.not_lt_zero _)
  | [], k, fuel + 1, N, acc, x3, x4, x5, τ, hok, hp, hf, hn, hr, ha, hN => ⟨x3, x4, x5, τ, while_end (condR_ok b3 d rfl), hn, by rw [toksF, List.append_nil]; exact hr, Fr.refl n r τ⟩
  | p :: ps, k, 0, N, acc, x3, x4, x5, τ, hok, hp, hf, hn, hr, ha, hN => absurd hf (Nat.not_lt_zero _)
  | p :: ps, k, 1, N, acc, x3, x4, x5, τ, hok, hp, hf, hn, hr, ha, hN => by simp only [List.length_cons] at hf; (first | lia | omega)
  | p :: ps, k, fuel + 2, N, acc, x3, x4, x5, τ, hok, hp, hf, hn, hr, ha, hN => by
    simp only [List.length_cons] at hp hf ha hN
    have hokp := hok p List.mem_cons_self
    have hoks : ∀ q ∈ ps, q.ok (TT b3) := fun q hq => hok q (List.mem_cons_of_mem _ hq)
    have hline : lineF k ((p :: ps).map Pc.txt) = p.txt ++ (65024 + k % 16) :: lineF (k + 1) (ps.map Pc.txt) := by simp [lineF]
    have hll : (lineF (k + 1) (ps.map Pc.txt)).length ≤ 10000000 := by
      have := lineF_len (ps.map Pc.txt) (k + 1) (fun x hx => by
        obtain ⟨q, hq, rfl⟩ := List.mem_map.mp hx
        exact txt_len b3 (hoks q hq))
      rw [List.length_map] at this
      (first | lia | omega)
    have hne : ((p.txt ++ (65024 + k % 16) :: lineF (k + 1) (ps.map Pc.txt)) != []) = true := by rw [bne_iff_ne]; simp
    have hne2 : (((65024 + k % 16) :: lineF (k + 1) (ps.map Pc.txt)) != []) = true := by rw [bne_iff_ne]; simp
    unfold ReadR
    rw [hline]
    cases p with
    | op c t =>
      have h1 := turnOp b3 d (rest := lineF (k + 1) (ps.map Pc.txt)) hokp (sep_big k) n r x3 x4 x5 hr (by (first | lia | omega))
      obtain ⟨x3', x4', x5', τ', g1, g2, g3, g4⟩ := readLoop hnr ps (k + 1) fuel N (acc ++ [c]) x3 x4 (some (.int (t.length : Int))) (τ.set r (intL (acc ++ [c]))) hoks (by (first | lia | omega)) (by (first | lia | omega)) (get_set_ne hnr hn) (get_set hr) (by simp only [List.length_append, List.length_cons, List.length_nil]; (first | lia | omega)) (by (first | lia | omega))
      refine ⟨x3', x4', x5', τ', ?_, g2, ?_, ((Fr.refl n r τ).setR _).trans g4⟩
      · exact (while_next (condR_ok b3 d hne) h1).trans ((while_next (condR_ok b3 d hne2) (turnSep b3 d (sep_b1 k))).trans g1)
      · rw [g3, toksF, List.append_assoc]; rfl
    | nm raw pl =>
      obtain ⟨y3, y4, τ₁, h1, hn1, hr1, hf1⟩ := turnNm b3 d (rest := lineF (k + 1) (ps.map Pc.txt)) hokp (sep_big k) hnr x3 x4 x5 hn hr (by (first | lia | omega)) (by (first | lia | omega)) hll
      have hal : (addN N pl).length ≤ N.length + 1 := by unfold addN; split <;> simp
      obtain ⟨x3', x4', x5', τ', g1, g2, g3, g4⟩ := readLoop hnr ps (k + 1) fuel (addN N pl) (acc ++ [256 + (addN N pl).idxOf pl]) y3 y4 x5 τ₁ hoks (by (first | lia | omega)) (by (first | lia | omega)) hn1 hr1 (by simp only [List.length_append, List.length_cons, List.length_nil]; (first | lia | omega)) (by (first | lia | omega))
      refine ⟨x3', x4', x5', τ', ?_, g2, ?_, hf1.trans g4⟩
      · exact (while_next (condR_ok b3 d hne) h1).trans ((while_next (condR_ok b3 d hne2) (turnSep b3 d (sep_b1 k))).trans g1)
      · rw [g3, toksF, List.append_assoc]; rfl
theorem read_ok {ps : List Pc} (hok : ∀ p ∈ ps, p.ok (TT b3)) (hp : ps.length ≤ 5000) {σ : Store} {n : Nat} {N : List (List Nat)} (hn : σ[n]? = some (strL N)) (hN : N.length ≤ 5000) :
    ∃ m τ, callD (TT b3) fns (d + 2) 14 [.str (lineF 0 (ps.map Pc.txt)), .lst n] σ = some (.lst m, τ) ∧ τ[m]? = some (intL (toksF N ps ++ [0])) ∧ τ[n]? = some (strL (namesF N ps)) ∧ σ.length ≤ m ∧ σ.length ≤ τ.length ∧ ∀ i, i < σ.length → i ≠ n → τ[i]? = σ[i]? := by
  have hLim : LIM = 16777216 := rfl
  have hlt : n < σ.length := (List.getElem?_eq_some_iff.mp hn).1
  have hnr : n ≠ σ.length := by (first | lia | omega)
  obtain ⟨x3, x4, x5, τ, g1, g2, g3, g4⟩ := readLoop b3 d hnr ps 0 TURNS N [] none none none (σ ++ [[]]) hok hp (by show 2 * ps.length < 100000; (first | lia | omega)) (at_app hn) (by simp) (by simp only [List.length_nil]; (first | lia | omega)) (by (first | lia | omega))
  rw [List.nil_append] at g3
  have htl : (toksF N ps).length = ps.length := by
    have h : ∀ (ps : List Pc) (N : List (List Nat)), (toksF N ps).length = ps.length := fun ps => by
      induction ps with
      | nil => intro N; rfl
      | cons p ps ih => intro N; cases p <;> simp [toksF, ih]
    exact h ps N
  have hret : ev (TT b3) (CC b3 d) [some (.str []), some (.lst n), some (.lst σ.length), x3, x4, x5] τ (Ex.bin (Bop.add) (Ex.var 2) (Ex.list (Exs.cons (Ex.int 0) (Exs.nil)))) = some (.lst (τ.length + 1), τ ++ [[.int 0]] ++ [intL (toksF N ps ++ [0])]) := by
    have e := evB_add_lst (σ := τ ++ [[V.int 0]]) (n := σ.length) (m := τ.length) (xs := intL (toksF N ps)) (ys := [.int 0]) (at_app g3) (by simp) (by rw [List.length_map, htl]; simp only [List.length_cons, List.length_nil]; (first | lia | omega))
    refine (ev_bin2 (ev_var (TT b3) rfl) (list1 (TT b3) (ev_int (TT b3)))).trans (e.trans ?_)
    rw [List.length_append, intL, intL, List.map_append]; rfl
  have hl2 : σ.length + 1 ≤ τ.length := by have := g4.1; simpa using this
  refine ⟨τ.length + 1, τ ++ [[.int 0]] ++ [intL (toksF N ps ++ [0])], ?_, by simp, at_app (at_app g2), by (first | lia | omega), by simp only [List.length_append]; (first | lia | omega), fun i hi h1 => ?_⟩
  · refine callD_in (ρ' := [some (.str []), some (.lst n), some (.lst σ.length), x3, x4, x5]) fns_14 rfl rfl ?_
    refine (exs_next (ρ' := [some (.str (lineF 0 (ps.map Pc.txt))), some (.lst n), some (.lst σ.length), none, none, none]) (σ' := σ ++ [[]]) (ex_set (list0 (TT b3)))).trans ?_
    exact (exs_next (ex_while.trans g1)).trans (exs_ret hret)
  · have e := g4.2 i (by rw [List.length_append]; (first | lia | omega)) h1 (by (first | lia | omega))
    rw [List.getElem?_append_left (show i < (τ ++ [[V.int 0]]).length by rw [List.length_append]; (first | lia | omega)), List.getElem?_append_left (by (first | lia | omega)), e, List.getElem?_append_left hi]
end
end W2
end Mine
end

section
set_option Elab.async false
set_option linter.unusedVariables false
set_option linter.unusedSimpArgs false
namespace Mine
namespace W2
/-! trees out of a row -/
noncomputable def Pt.toks : Pt → List Nat
  | atom i => [i.toNat]
  | app a b => 49 :: (a.toks ++ b.toks)
  | arr x b => 51 :: x.toNat :: b.toks
noncomputable def okI (i : Int) : Prop := 0 < i ∧ i ≠ 49 ∧ i ≠ 51
noncomputable def Pt.okT : Pt → Prop
  | atom i => okI i
  | app a b => a.okT ∧ b.okT
  | arr x b => okI x ∧ b.okT
/-- one token; the pile's top is the head -/
noncomputable def stp (S : List Pt) (c : Nat) : Option (List Pt) :=
  if c = 0 then some [] else if c = 49 then (match S with | a :: b :: S => some (.app a b :: S) | _ => none)
  else if c = 51 then (match S with | .atom x :: b :: S => some (.arr x b :: S) | _ => none) else some (.atom c :: S)
noncomputable def runS : List Nat → List Pt → Option (List Pt)
  | [], S => some S
  | c :: cs, S => (runS cs S).bind fun S => stp S c
theorem runS_append : ∀ (xs ys : List Nat) (S : List Pt), runS (xs ++ ys) S = (runS ys S).bind fun S => runS xs S
  | [], ys, S => by cases h : runS ys S <;> simp [runS, h]
  | c :: xs, ys, S => by
    simp only [List.cons_append, runS, runS_append xs ys S, Option.bind_assoc]
theorem stp_atom {S : List Pt} {i : Int} (h : okI i) : stp S i.toNat = some (.atom i :: S) := by
  obtain ⟨h0, h1, h2⟩ := h
  unfold stp
  rw [if_neg (by (first | lia | omega)), if_neg (by (first | lia | omega)), if_neg (by (first | lia | omega)), Int.toNat_of_nonneg (by (first | lia | omega))]
theorem runS_toks : ∀ (t : Pt) (S : List Pt), t.okT → runS t.toks S = some (t :: S)
  | .atom i, S, h => by simp [Pt.toks, runS, stp_atom h]
  | .app a b, S, h => by
    simp only [Pt.toks, runS, runS_append, runS_toks b S h.2, Option.bind_some, runS_toks a (b :: S) h.1]
    rfl
  | .arr x b, S, h => by
    simp only [Pt.toks, runS, runS_toks b S h.2, Option.bind_some, stp_atom h.1]
    rfl
theorem runS_whole (t : Pt) (h : t.okT) : runS (t.toks ++ [0]) [] = some [t] := by
  rw [runS_append]
  exact runS_toks t [] h
theorem runS_drop {X : List Nat} {S : List Pt} (h : runS X [] = some S) (k : Nat) : ∃ S', runS (X.drop k) [] = some S' := by
  have e : runS (X.take k ++ X.drop k) [] = some S := by rw [List.take_append_drop]; exact h
  rw [runS_append] at e
  cases hd : runS (X.drop k) [] with
  | none => rw [hd] at e; cases e
  | some S' => exact ⟨S', rfl⟩
/-- the pile, as it lies in the store -/
noncomputable def pileV (S : List Pt) : List V := S.reverse.map Pt.v
theorem pileV_len (S : List Pt) : (pileV S).length = S.length := by simp [pileV]
theorem pileV_cons (a : Pt) (S : List Pt) : pileV (a :: S) = pileV S ++ [a.v] := by simp [pileV]
noncomputable def Fr0 (m : Nat) (σ τ : Store) : Prop := σ.length ≤ τ.length ∧ ∀ i, i < m → τ[i]? = σ[i]?
section
variable (T : Tabs) (d : Nat)
noncomputable def eofT : Ex := Ex.bin (Bop.is) (Ex.call 5 (Exs.cons (Ex.bin (Bop.item) (Ex.var 0) (Ex.var 2)) (Exs.nil))) (Ex.bool true)
noncomputable def isT (c : Int) : Ex := Ex.bin (Bop.eq) (Ex.bin (Bop.item) (Ex.var 0) (Ex.var 2)) (Ex.int c)
noncomputable def e1T : Ex := Ex.bin (Bop.item) (Ex.var 1) (Ex.un (Uop.neg) (Ex.int 1))
noncomputable def e2T : Ex := Ex.bin (Bop.item) (Ex.var 1) (Ex.un (Uop.neg) (Ex.int 2))
noncomputable def cutT : Ex := Ex.bin (Bop.sliceT) (Ex.var 1) (Ex.un (Uop.neg) (Ex.int 2))
noncomputable def bodyT : Sts := Sts.cons (St.ite eofT (Sts.cons (St.set 1 (Ex.list (Exs.nil))) (Sts.nil)) (Sts.cons (St.ite (isT 49) (Sts.cons (St.set 1 (Ex.bin (Bop.add) cutT (Ex.list (Exs.cons (Ex.tup (Exs.cons e1T (Exs.cons e2T (Exs.nil)))) (Exs.nil))))) (Sts.nil)) (Sts.cons (St.ite (isT 51) (Sts.cons (St.set 1 (Ex.bin (Bop.add) cutT (Ex.list (Exs.cons (Ex.tup (Exs.cons (Ex.int 51) (Exs.cons e1T (Exs.cons e2T (Exs.nil))))) (Exs.nil))))) (Sts.nil)) (Sts.cons (St.expr (Ex.bin (Bop.append) (Ex.var 1) (Ex.bin (Bop.item) (Ex.var 0) (Ex.var 2)))) (Sts.nil))) (Sts.nil))) (Sts.nil))) (Sts.nil)
noncomputable abbrev CT (T : Tabs) (d : Nat) : Calls := callD T fns (d + 1)
variable {T} {d}
theorem neg_ok {ρ : REnv} {σ : Store} (i : Int) : ev T (CT T d) ρ σ (Ex.un (Uop.neg) (Ex.int i)) = some (.int (-i), σ) := (ev_un2 (ev_int T)).trans rfl
theorem place_last {n : Nat} (h : 1 ≤ n) : place (-1) n = some (n - 1) := by unfold place; rw [if_neg (by decide), if_pos (by simp; (first | lia | omega))]; rfl
theorem place_last2 {n : Nat} (h : 2 ≤ n) : place (-2) n = some (n - 2) := by unfold place; rw [if_neg (by decide), if_pos (by simp; (first | lia | omega))]; rfl
theorem clip_last2 {n : Nat} : clip (-2) n = n - 2 := by unfold clip; rw [if_neg (by decide)]; rfl
section
variable {r p k c : Nat} {X : List Nat} {S : List Pt} {τ : Store}
theorem tok_at (hr : τ[r]? = some (intL X)) (hk : X[k]? = some c) {ρ : REnv} (h0 : ρ[0]? = some (some (.lst r))) (h2 : ρ[2]? = some (some (.int (k : Int)))) : ev T (CT T d) ρ τ (Ex.bin (Bop.item) (Ex.var 0) (Ex.var 2)) = some (.int (c : Int), τ) := by
  have hlt := (List.getElem?_eq_some_iff.mp hk).1
  exact (ev_bin2 (ev_var T h0) (ev_var T h2)).trans (evB_item_lst hr (place_nat' (by rw [List.length_map]; exact hlt)) (by rw [intL, List.getElem?_map, hk]; rfl))
theorem eof_at (hr : τ[r]? = some (intL X)) (hk : X[k]? = some c) {ρ : REnv} (h0 : ρ[0]? = some (some (.lst r))) (h2 : ρ[2]? = some (some (.int (k : Int)))) : ev T (CT T d) ρ τ eofT = some (.bool (decide (c = 0)), τ) := by
  have e : ((c : Int) == 0) = decide (c = 0) := by rw [Bool.eq_iff_iff, beq_iff_eq, decide_eq_true_iff]; (first | lia | omega)
  refine (ev_bin2 (call1 T (tok_at hr hk h0 h2) (isEof T d τ c)) (by rw [ev])).trans ?_
  rw [e]
  show (some ((decide (c = 0)) == true)).map (fun r => (V.bool r, τ)) = _
  cases decide (c = 0) <;> rfl
theorem is_at (hr : τ[r]? = some (intL X)) (hk : X[k]? = some c) {ρ : REnv} (h0 : ρ[0]? = some (some (.lst r))) (h2 : ρ[2]? = some (some (.int (k : Int)))) (m : Nat) : ev T (CT T d) ρ τ (isT m) = some (.bool (decide (c = m)), τ) := by
  have e : ((c : Int) == (m : Int)) = decide (c = m) := by rw [Bool.eq_iff_iff, beq_iff_eq, decide_eq_true_iff]; (first | lia | omega)
  refine (ev_bin2 (tok_at hr hk h0 h2) (ev_int T)).trans ?_
  show (eqV τ (.int (c : Int)) (.int (m : Int))).map (fun r => (V.bool r, τ)) = _
  rw [eqV_int, e]; rfl
theorem top1 {a : Pt} (hp : τ[p]? = some (pileV (a :: S))) {ρ : REnv} (h1 : ρ[1]? = some (some (.lst p))) : ev T (CT T d) ρ τ e1T = some (a.v, τ) :=
  (ev_bin2 (ev_var T h1) (neg_ok 1)).trans (evB_item_lst hp (place_last (by rw [pileV_len]; simp)) (by rw [pileV_len, pileV_cons]; simp [pileV_len]))
theorem top2 {a b : Pt} (hp : τ[p]? = some (pileV (a :: b :: S))) {ρ : REnv} (h1 : ρ[1]? = some (some (.lst p))) : ev T (CT T d) ρ τ e2T = some (b.v, τ) :=
  (ev_bin2 (ev_var T h1) (neg_ok 2)).trans (evB_item_lst hp (place_last2 (by rw [pileV_len]; simp)) (by
    rw [pileV_len, pileV_cons, pileV_cons, List.append_assoc, List.getElem?_append_right (by rw [pileV_len]; simp), pileV_len]
    simp))
theorem rest2 {a b : Pt} (hp : τ[p]? = some (pileV (a :: b :: S))) {ρ : REnv} (h1 : ρ[1]? = some (some (.lst p))) : ev T (CT T d) ρ τ cutT = some (.lst τ.length, τ ++ [pileV S]) := by
  refine ((ev_bin2 (ev_var T h1) (neg_ok 2)).trans (evB_sliceT_lst hp)).trans ?_
  have e : cut (pileV (a :: b :: S)) 0 (clip (-2) (pileV (a :: b :: S)).length) = pileV S := by
    rw [clip_last2, cut, List.drop_zero, Nat.sub_zero, pileV_len, pileV_cons, pileV_cons, List.append_assoc]
    exact List.take_left' (by rw [pileV_len]; simp)
  rw [e]
/-- the two last ones become one -/
theorem join2 {a b q : Pt} {x : Ex} (hp : τ[p]? = some (pileV (a :: b :: S))) (hl : S.length < 100000) {ρ : REnv} (h1 : ρ[1]? = some (some (.lst p))) (hx : ev T (CT T d) ρ (τ ++ [pileV S]) x = some (q.v, τ ++ [pileV S])) :
    ev T (CT T d) ρ τ (Ex.bin (Bop.add) cutT (Ex.list (Exs.cons x (Exs.nil)))) = some (.lst (τ.length + 2), τ ++ [pileV S] ++ [[q.v]] ++ [pileV (q :: S)]) := by
  have hLim : LIM = 16777216 := rfl
  have h := list1 T hx
  rw [List.length_append, List.length_cons, List.length_nil] at h
  refine (ev_bin2 (rest2 hp h1) h).trans ((evB_add_lst (σ := τ ++ [pileV S] ++ [[q.v]]) (n := τ.length) (m := τ.length + 1) (xs := pileV S) (ys := [q.v]) (at_app at_last) (by simp) (by rw [pileV_len]; simp only [List.length_cons, List.length_nil]; (first | lia | omega))).trans ?_)
  rw [pileV_cons]; simp
end
/-- one token's turn -/
theorem turnT {r p k c : Nat} {X : List Nat} {S S' : List Pt} {τ : Store} (hr : τ[r]? = some (intL X)) (hp : τ[p]? = some (pileV S)) (hk : X[k]? = some c) (hs : stp S c = some S') (hl : S.length < 100000) {m : Nat} (hm : m ≤ p) (hml : m ≤ τ.length) :
    ∃ p' τ', exs T (CT T d) [some (.lst r), some (.lst p), some (.int (k : Int))] τ bodyT = some (.next, [some (.lst r), some (.lst p'), some (.int (k : Int))], τ') ∧ τ'[p']? = some (pileV S') ∧ m ≤ p' ∧ Fr0 m τ τ' := by
  have hLim : LIM = 16777216 := rfl
  have he := eof_at (T := T) (d := d) hr hk (ρ := [some (.lst r), some (.lst p), some (.int (k : Int))]) rfl rfl
  have h49 := is_at (T := T) (d := d) hr hk (ρ := [some (.lst r), some (.lst p), some (.int (k : Int))]) rfl rfl 49
  have h51 := is_at (T := T) (d := d) hr hk (ρ := [some (.lst r), some (.lst p), some (.int (k : Int))]) rfl rfl 51
  unfold stp at hs
  by_cases c0 : c = 0
  · rw [if_pos c0] at hs
    obtain rfl := Option.some.inj hs
    rw [decide_eq_true c0] at he
    refine ⟨τ.length, τ ++ [[]], (exs_next ((exs_ite he).trans ((exs_next (ex_set (list0 T))).trans exs_nil))).trans exs_nil, at_last, hml, by simp, fun i hi => ?_⟩
    rw [List.getElem?_append_left (by (first | lia | omega))]
  rw [if_neg c0] at hs
  rw [decide_eq_false c0] at he
  by_cases c1 : c = 49
  · rw [if_pos c1] at hs
    rw [decide_eq_true c1] at h49
    match S, hs with
    | a :: b :: S, hs =>
      obtain rfl := Option.some.inj hs
      have hx : ev T (CT T d) [some (.lst r), some (.lst p), some (.int (k : Int))] (τ ++ [pileV S]) (Ex.tup (Exs.cons e1T (Exs.cons e2T (Exs.nil)))) = some ((Pt.app a b).v, τ ++ [pileV S]) := tup2 T (top1 (at_app hp) rfl) (top2 (at_app hp) rfl)
      simp only [List.length_cons] at hl
      refine ⟨τ.length + 2, τ ++ [pileV S] ++ [[(Pt.app a b).v]] ++ [pileV (.app a b :: S)], (exs_next ((exs_ite he).trans ((exs_next ((exs_ite h49).trans ((exs_next (ex_set (join2 (q := .app a b) hp (by (first | lia | omega)) rfl hx))).trans exs_nil))).trans exs_nil))).trans exs_nil, by simp, by (first | lia | omega), by simp only [List.length_append]; (first | lia | omega), fun i hi => ?_⟩
      rw [List.append_assoc, List.append_assoc, List.getElem?_append_left (by (first | lia | omega))]
  rw [if_neg c1] at hs
  rw [decide_eq_false c1] at h49
  by_cases c2 : c = 51
  · rw [if_pos c2] at hs
    rw [decide_eq_true c2] at h51
    match S, hs with
    | .atom x :: b :: S, hs =>
      obtain rfl := Option.some.inj hs
      have hx : ev T (CT T d) [some (.lst r), some (.lst p), some (.int (k : Int))] (τ ++ [pileV S]) (Ex.tup (Exs.cons (Ex.int 51) (Exs.cons e1T (Exs.cons e2T (Exs.nil))))) = some ((Pt.arr x b).v, τ ++ [pileV S]) := tup3 T (ev_int T) (top1 (a := .atom x) (at_app hp) rfl) (top2 (at_app hp) rfl)
      simp only [List.length_cons] at hl
      refine ⟨τ.length + 2, τ ++ [pileV S] ++ [[(Pt.arr x b).v]] ++ [pileV (.arr x b :: S)], (exs_next ((exs_ite he).trans ((exs_next ((exs_ite h49).trans ((exs_next ((exs_ite h51).trans ((exs_next (ex_set (join2 (q := .arr x b) hp (by (first | lia | omega)) rfl hx))).trans exs_nil))).trans exs_nil))).trans exs_nil))).trans exs_nil, by simp, by (first | lia | omega), by simp only [List.length_append]; (first | lia | omega), fun i hi => ?_⟩
      rw [List.append_assoc, List.append_assoc, List.getElem?_append_left (by (first | lia | omega))]
  rw [if_neg c2] at hs
  rw [decide_eq_false c2] at h51
  obtain rfl := Option.some.inj hs
  have ha : evB .append (.lst p) (.int (c : Int)) τ = some (.none, τ.set p (pileV (.atom c :: S))) := by
    rw [evB_append hp (by rw [pileV_len]; (first | lia | omega)), pileV_cons]; rfl
  refine ⟨p, τ.set p (pileV (.atom c :: S)), (exs_next ((exs_ite he).trans ((exs_next ((exs_ite h49).trans ((exs_next ((exs_ite h51).trans ((exs_next (ex_expr ((ev_bin2 (ev_var T rfl) (tok_at hr hk rfl rfl)).trans ha))).trans exs_nil))).trans exs_nil))).trans exs_nil))).trans exs_nil, get_set hp, hm, by simp, fun i hi => ?_⟩
  rw [List.getElem?_set_ne (by (first | lia | omega))]
theorem stp_len {S S' : List Pt} {c : Nat} (h : stp S c = some S') : S'.length ≤ S.length + 1 := by
  unfold stp at h
  split at h
  · obtain rfl := Option.some.inj h; simp
  · split at h
    · match S, h with
      | a :: b :: S, h => obtain rfl := Option.some.inj h; simp only [List.length_cons]; (first | lia | omega)
    · split at h
      · match S, h with
        | .atom x :: b :: S, h => obtain rfl := Option.some.inj h; simp only [List.length_cons]; (first | lia | omega)
      · obtain rfl := Option.some.inj h; simp
inductive TrI (σ : Store) (r : Nat) (X : List Nat) (j : Nat) : REnv → Store → Prop
  | mk (p : Nat) (S : List Pt) (x2 : Option V) (τ : Store) (h1 : runS (X.drop (X.length - j)) [] = some S) (h2 : τ[p]? = some (pileV S)) (h3 : σ.length ≤ p) (h4 : σ.length ≤ τ.length) (h5 : ∀ i, i < σ.length → τ[i]? = σ[i]?) (h6 : S.length ≤ j) : TrI σ r X j [some (.lst r), some (.lst p), x2] τ
theorem TrI.step {σ : Store} {r : Nat} {X : List Nat} {S : List Pt} (hr : σ[r]? = some (intL X)) (hS : runS X [] = some S) (hl : X.length < 90000) {j : Nat} (hj : j < X.length) {ρ : REnv} {τ : Store} (h : TrI σ r X j ρ τ) :
    ∃ ρ' τ', exs T (CT T d) (ρ.set 2 (some (.int ((X.length - 1 - j : Nat) : Int)))) τ bodyT = some (.next, ρ', τ') ∧ TrI σ r X (j + 1) ρ' τ' := by
  obtain ⟨p, S2, x2, _, h1, h2, h3, h4, h5, h6⟩ := h
  have hrl : r < σ.length := (List.getElem?_eq_some_iff.mp hr).1
  have hk : X[X.length - 1 - j]? = some (X[X.length - 1 - j]'(by (first | lia | omega))) := List.getElem?_eq_getElem _
  have hdrop : X.drop (X.length - (j + 1)) = X[X.length - 1 - j]'(by (first | lia | omega)) :: X.drop (X.length - j) := by
    rw [show X.length - (j + 1) = X.length - 1 - j by (first | lia | omega), List.drop_eq_getElem_cons (by (first | lia | omega)), show X.length - 1 - j + 1 = X.length - j by (first | lia | omega)]
  obtain ⟨S3, h7⟩ := runS_drop hS (X.length - (j + 1))
  have h8 := h7
  rw [hdrop, runS, h1, Option.bind_some] at h8
  obtain ⟨p', τ', k1, k2, k3, k4⟩ := turnT (T := T) (d := d) ((h5 r hrl).trans hr) h2 hk h8 (by (first | lia | omega)) h3 h4
  exact ⟨_, _, k1, .mk p' S3 _ _ h7 k2 k3 (Nat.le_trans h4 k4.1) (fun i hi => (k4.2 i hi).trans (h5 i hi)) (Nat.le_trans (stp_len h8) (Nat.succ_le_succ h6))⟩
theorem trees_ok (T : Tabs) (d : Nat) {σ : Store} {r : Nat} {X : List Nat} {S : List Pt} (hr : σ[r]? = some (intL X)) (hS : runS X [] = some S) (hl : X.length < 90000) :
    ∃ p τ, callD T fns (d + 2) 15 [.lst r] σ = some (.lst p, τ) ∧ τ[p]? = some (pileV S) ∧ σ.length ≤ p ∧ σ.length ≤ τ.length ∧ ∀ i, i < σ.length → τ[i]? = σ[i]? := by
  have hrl : r < σ.length := (List.getElem?_eq_some_iff.mp hr).1
  have hsrc : ev T (CT T d) [some (.lst r), some (.lst σ.length), none] (σ ++ [[]]) (Ex.bin (Bop.down) (Ex.bin (Bop.sub) (Ex.un (Uop.len) (Ex.var 0)) (Ex.int 1)) (Ex.un (Uop.neg) (Ex.int 1))) = some (.rng ((X.length : Int) - 1) (-1) X.length, σ ++ [[]]) := by
    have e1 : ev T (CT T d) [some (.lst r), some (.lst σ.length), none] (σ ++ [[]]) (Ex.bin (Bop.sub) (Ex.un (Uop.len) (Ex.var 0)) (Ex.int 1)) = some (.int ((X.length : Int) - 1), σ ++ [[]]) := by
      refine (ev_bin2 ((ev_un2 (ev_var T rfl)).trans (evU_len_lst (at_app hr))) (ev_int T)).trans ?_
      rw [List.length_map]; rfl
    refine (ev_bin2 e1 (neg_ok 1)).trans ?_
    have hc : (X.length : Int) - 1 ≤ 1000000 ∧ (-1 : Int) = -1 ∧ -1 ≤ (X.length : Int) - 1 := ⟨by (first | lia | omega), rfl, by (first | lia | omega)⟩
    refine Eq.trans (b := if (X.length : Int) - 1 ≤ 1000000 ∧ (-1 : Int) = -1 ∧ -1 ≤ (X.length : Int) - 1 then some (V.rng ((X.length : Int) - 1) (-1) ((X.length : Int) - 1 + 1).toNat, σ ++ [[]]) else none) rfl ?_
    rw [if_pos hc, show ((X.length : Int) - 1 + 1).toNat = X.length by (first | lia | omega)]
  have hlen : (rangeL ((X.length : Int) - 1) (-1) X.length).length = X.length := by simp [rangeL]
  obtain ⟨ρ', τ, g, hI⟩ := exLoop_fix (xs := rangeL ((X.length : Int) - 1) (-1) X.length) (f := fun v ρ σ => exs T (CT T d) (ρ.set 2 (some v)) σ bodyT)
    (TrI σ r X)
    (fun j x ρ τ hx hI => by
      have hj : j < X.length := by rw [← hlen]; exact (List.getElem?_eq_some_iff.mp hx).1
      have hxe : x = .int ((X.length - 1 - j : Nat) : Int) := by
        have : x = .int ((X.length : Int) - 1 + (j : Int) * (-1)) := by simpa [rangeL, hj] using hx.symm
        rw [this]; congr 1; (first | lia | omega)
      subst hxe
      exact hI.step hr hS hl hj)
    X.length 0 [some (.lst r), some (.lst σ.length), none] (σ ++ [[]]) (by rw [hlen]; (first | lia | omega))
    (.mk σ.length [] none _ (by rw [Nat.sub_zero, List.drop_length]; rfl) at_last (Nat.le_refl _) (by simp) (fun i hi => by rw [List.getElem?_append_left hi]) (Nat.le_refl _))
  obtain ⟨p, S2, x2, _, g1, g2, g3, g4, g5, g6⟩ := hI
  rw [hlen, Nat.sub_self, List.drop_zero, hS] at g1
  obtain rfl := Option.some.inj g1
  refine ⟨p, τ, callD_in (ρ' := [some (.lst r), some (.lst p), x2]) fns_15 rfl rfl ?_, g2, g3, g4, g5⟩
  refine (exs_next (ρ' := [some (.lst r), some (.lst σ.length), none]) (σ' := σ ++ [[]]) (ex_set (list0 T))).trans ?_
  refine (exs_next (ex_for hsrc rfl ?_)).trans (exs_ret (ev_var T rfl))
  show exLoop (.fix (rangeL ((X.length : Int) - 1) (-1) X.length)) (fun v ρ σ => exs T (CT T d) (ρ.set 2 (some v)) σ bodyT) ((rangeL ((X.length : Int) - 1) (-1) X.length).length + 1) 0 _ _ = _
  rw [hlen]
  exact g
end
end W2
end Mine
end

section
set_option Elab.async false
set_option linter.unusedVariables false
set_option linter.unusedSimpArgs false
namespace Mine
namespace W2
/-! a term's head -/
inductive Red : Int → List Cm → Cm → List Cm → Prop
  | I (x : Cm) (W : List Cm) : Red 16 (x :: W) x W
  | K (x y : Cm) (W : List Cm) : Red 35 (x :: y :: W) x W
  | S (x y z : Cm) (W : List Cm) : Red 46 (x :: y :: z :: W) (.app (.app x z) (.app y z)) W
  | C (x y z : Cm) (W : List Cm) : Red 47 (x :: y :: z :: W) (.app (.app x z) y) W
  | B (x y z : Cm) (W : List Cm) : Red 17 (x :: y :: z :: W) (.app x (.app y z)) W
/-- n turns at most, each unwinds L at most, the first one s at most -/
inductive Hd (L : Nat) : Nat → Nat → Cm → List Cm → Nat → List Cm → Prop
  | nm (n s j : Nat) (W : List Cm) : Hd L n s (.atom (256 + (j : Int))) W j W
  | ap {n s j : Nat} {a b : Cm} {W R : List Cm} (h : Hd L n s a (b :: W) j R) : Hd L n (s + 1) (.app a b) W j R
  | red {n s j : Nat} {i : Int} {t : Cm} {W W' R : List Cm} (r : Red i W t W') (h : Hd L n L t W' j R) : Hd L (n + 1) s (.atom i) W j R
theorem Red.more {i : Int} {W W' : List Cm} {t : Cm} (r : Red i W t W') (X : List Cm) : Red i (W ++ X) t (W' ++ X) := by
  cases r with
  | I => exact .I _ _
  | K => exact .K _ _ _
  | S => exact .S _ _ _ _
  | C => exact .C _ _ _ _
  | B => exact .B _ _ _ _
theorem Hd.more {L n s j : Nat} {t : Cm} {W R : List Cm} (h : Hd L n s t W j R) (X : List Cm) : Hd L n s t (W ++ X) j (R ++ X) := by
  induction h with
  | nm n s j W => exact .nm _ _ _ _
  | ap h ih => exact .ap ih
  | red r h ih => exact .red (r.more X) ih
theorem Hd.mono {L L' n s j : Nat} {t : Cm} {W R : List Cm} (h : Hd L n s t W j R) (hL : L ≤ L') : ∀ {n' s' : Nat}, n ≤ n' → s ≤ s' → Hd L' n' s' t W j R := by
  induction h with
  | nm n s j W => intro n' s' _ _; exact .nm _ _ _ _
  | @ap n s j a b W R h ih =>
    intro n' s' hn hs
    obtain ⟨s', rfl⟩ : ∃ e, s' = e + 1 := ⟨s' - 1, by (first | lia | omega)⟩
    exact .ap (ih hn (by (first | lia | omega)))
  | @red n s j i t W W' R r h ih =>
    intro n' s' hn hs
    obtain ⟨n', rfl⟩ : ∃ e, n' = e + 1 := ⟨n' - 1, by (first | lia | omega)⟩
    exact .red r (ih (by (first | lia | omega)) hL)

/-! a term that comes to another by steps anywhere -/
inductive Root : Cm → Cm → Prop
  | I (x : Cm) : Root (.app (.atom 16) x) x
  | K (x y : Cm) : Root (.app (.app (.atom 35) x) y) x
  | S (x y z : Cm) : Root (.app (.app (.app (.atom 46) x) y) z) (.app (.app x z) (.app y z))
  | C (x y z : Cm) : Root (.app (.app (.app (.atom 47) x) y) z) (.app (.app x z) y)
  | B (x y z : Cm) : Root (.app (.app (.app (.atom 17) x) y) z) (.app x (.app y z))
inductive Ge : Nat → Cm → Cm → Prop
  | atom (k : Nat) (i : Int) : Ge k (.atom i) (.atom i)
  | app {k : Nat} {a b a' b' : Cm} (h : Ge k a a') (h' : Ge k b b') : Ge k (.app a b) (.app a' b')
  | step {k : Nat} {t t1 t' : Cm} (r : Root t t1) (h : Ge k t1 t') : Ge (k + 1) t t'
theorem Ge.mono {k : Nat} {t t' : Cm} (h : Ge k t t') : ∀ {k' : Nat}, k ≤ k' → Ge k' t t' := by
  induction h with
  | atom k i => intro k' _; exact .atom _ _
  | app h h' ih ih' => intro k' hk; exact .app (ih hk) (ih' hk)
  | step r h ih =>
    intro k' hk
    obtain ⟨k', rfl⟩ : ∃ e, k' = e + 1 := ⟨k' - 1, by (first | lia | omega)⟩
    exact .step r (ih (by (first | lia | omega)))
theorem Ge.refl (k : Nat) : ∀ t : Cm, Ge k t t
  | .atom i => .atom k i
  | .app a b => .app (Ge.refl k a) (Ge.refl k b)
inductive GeL (k : Nat) : List Cm → List Cm → Prop
  | nil : GeL k [] []
  | cons {t t' : Cm} {W W' : List Cm} (h : Ge k t t') (h' : GeL k W W') : GeL k (t :: W) (t' :: W')
inductive GeC (k : Nat) (t' : Cm) (W' : List Cm) : List Cm → Prop
  | mk (t : Cm) (W : List Cm) (h : Ge k t t') (h' : GeL k W W') : GeC k t' W' (t :: W)
theorem GeL.inv {k : Nat} {W : List Cm} {t' : Cm} {W' : List Cm} (h : GeL k W (t' :: W')) : GeC k t' W' W := by
  cases h with
  | cons h h' => exact .mk _ _ h h'
inductive SimR (k : Nat) (i : Int) (W : List Cm) (t' : Cm) (W1' : List Cm) : Prop
  | mk (t : Cm) (W1 : List Cm) (r : Red i W t W1) (h : Ge k t t') (h' : GeL k W1 W1')
theorem Red.sim {k : Nat} {i : Int} {W W' W1' : List Cm} {t' : Cm} (r : Red i W' t' W1') (h : GeL k W W') : SimR k i W t' W1' := by
  cases r with
  | I =>
    obtain ⟨a, _, h1, g1⟩ := h.inv
    exact ⟨_, _, .I _ _, h1, g1⟩
  | K =>
    obtain ⟨a, _, h1, g1⟩ := h.inv
    obtain ⟨b, _, h2, g2⟩ := g1.inv
    exact ⟨_, _, .K _ _ _, h1, g2⟩
  | S =>
    obtain ⟨a, _, h1, g1⟩ := h.inv
    obtain ⟨b, _, h2, g2⟩ := g1.inv
    obtain ⟨c, _, h3, g3⟩ := g2.inv
    exact ⟨_, _, .S _ _ _ _, .app (.app h1 h3) (.app h2 h3), g3⟩
  | C =>
    obtain ⟨a, _, h1, g1⟩ := h.inv
    obtain ⟨b, _, h2, g2⟩ := g1.inv
    obtain ⟨c, _, h3, g3⟩ := g2.inv
    exact ⟨_, _, .C _ _ _ _, .app (.app h1 h3) h2, g3⟩
  | B =>
    obtain ⟨a, _, h1, g1⟩ := h.inv
    obtain ⟨b, _, h2, g2⟩ := g1.inv
    obtain ⟨c, _, h3, g3⟩ := g2.inv
    exact ⟨_, _, .B _ _ _ _, .app h1 (.app h2 h3), g3⟩
/-- where a claim stands before a step it stands by it -/
theorem Ge.peel {P : Nat → Cm → Prop} {t' : Cm} {i : Nat} {t : Cm} (h : Ge i t t') (h0 : ∀ i c, t' = .atom c → P i (.atom c)) (h1 : ∀ i a b a' b', t' = .app a' b' → Ge i a a' → Ge i b b' → P i (.app a b)) (h2 : ∀ i t t1, Root t t1 → P i t1 → P (i + 1) t) : i ≤ i → P i t := by
  intro _
  induction h with
  | atom k c => exact h0 k c rfl
  | app h h' ih ih' => exact h1 _ _ _ _ _ rfl h h'
  | step r h ih => exact h2 _ _ _ r (ih h0 h1 (Nat.le_refl _))
theorem Root.hd {L n s j : Nat} {t t1 : Cm} {W R : List Cm} (r : Root t t1) (h : Hd L n L t1 W j R) : Hd L (n + 1) (s + 3) t W j R := by
  cases r with
  | I => exact .ap (.red (.I _ _) h)
  | K => exact .ap (.ap (.red (.K _ _ _) h))
  | S => exact .ap (.ap (.ap (.red (.S _ _ _ _) h)))
  | C => exact .ap (.ap (.ap (.red (.C _ _ _ _) h)))
  | B => exact .ap (.ap (.ap (.red (.B _ _ _ _) h)))
theorem Hd.sim {L n s j k : Nat} {t' : Cm} {W' R' : List Cm} (h : Hd L n s t' W' j R') : ∀ {i : Nat} {t : Cm} {W : List Cm}, s ≤ L → i ≤ k → Ge i t t' → GeL k W W' →
    ∃ R, Hd (L + 3) (n * (k + 1) + i) (s + 3) t W j R ∧ GeL k R R' := by
  induction h with
  | nm n s j W' =>
    intro i t W hs hi hg hw
    refine hg.peel (P := fun i t => ∃ R, Hd (L + 3) (n * (k + 1) + i) (s + 3) t W j R ∧ GeL k R W') (fun i c e => ?_) (fun i a b a' b' e _ _ => by cases e) (fun i t t1 r ⟨R, h1, h2⟩ => ⟨R, r.hd (h1.mono (Nat.le_refl _) (Nat.le_refl _) (by (first | lia | omega))), h2⟩) (Nat.le_refl _)
    obtain rfl := Cm.atom.inj e
    exact ⟨W, .nm _ _ _ _, hw⟩
  | @ap n s j a' b' W' R' h ih =>
    intro i t W hs hi hg hw
    revert hi
    refine hg.peel (P := fun i t => i ≤ k → ∃ R, Hd (L + 3) (n * (k + 1) + i) (s + 1 + 3) t W j R ∧ GeL k R R') (fun i c e => by cases e) (fun i a b a1 b1 e ha hb hi => ?_) (fun i t t1 r p hi => ?_) (Nat.le_refl _)
    · obtain ⟨rfl, rfl⟩ := Cm.app.inj e
      obtain ⟨R, h1, h2⟩ := ih (by (first | lia | omega)) hi ha (.cons (hb.mono hi) hw)
      exact ⟨R, .ap h1, h2⟩
    · obtain ⟨R, h1, h2⟩ := p (by (first | lia | omega))
      exact ⟨R, r.hd (h1.mono (Nat.le_refl _) (Nat.le_refl _) (by (first | lia | omega))), h2⟩
  | @red n s j c t' W' W1' R' r h ih =>
    intro i t W hs hi hg hw
    refine hg.peel (P := fun i t => ∃ R, Hd (L + 3) ((n + 1) * (k + 1) + i) (s + 3) t W j R ∧ GeL k R R') (fun i c' e => ?_) (fun i a b a' b' e _ _ => by cases e) (fun i t t1 r ⟨R, h1, h2⟩ => ⟨R, r.hd (h1.mono (Nat.le_refl _) (Nat.le_refl _) (by (first | lia | omega))), h2⟩) (Nat.le_refl _)
    obtain rfl := Cm.atom.inj e
    obtain ⟨t1, W1, g1, g2, g3⟩ := r.sim hw
    obtain ⟨R, h1, h2⟩ := ih (Nat.le_refl _) (Nat.le_refl k) g2 g3
    refine ⟨R, (Hd.red g1 h1).mono (Nat.le_refl _) ?_ (Nat.le_refl _), h2⟩
    rw [Nat.add_mul]; (first | lia | omega)

/-! what a term stands for -/
set_option genInjectivity false
inductive U where
  | nm (j : Nat) | ap (a b : U)
noncomputable def U.v (N : List (List Nat)) : U → V
  | nm j => .str (N.getD j [])
  | ap a b => .tup [a.v N, b.v N]
noncomputable def U.rd : U → Nat
  | nm _ => 0
  | ap a b => Nat.max a.rd b.rd + 1
inductive Sp (L n : Nat) : Nat → List Cm → U → Prop
  | nil (j : Nat) : Sp L n j [] (.nm j)
  | snoc {j i : Nat} {R Q : List Cm} {u v : U} {b : Cm} (h : Sp L n j R u) (hb : Hd L n L b [] i Q) (h' : Sp L n i Q v) : Sp L n j (R ++ [b]) (.ap u v)
inductive Dn (L n : Nat) (t : Cm) (u : U) : Prop
  | mk (j : Nat) (R : List Cm) (h : Hd L n L t [] j R) (h' : Sp L n j R u)
theorem GeL.snoc {k : Nat} : ∀ {R R' : List Cm} {b' : Cm}, GeL k R (R' ++ [b']) → ∃ Q b, R = Q ++ [b] ∧ GeL k Q R' ∧ Ge k b b'
  | _, [], _, .cons h .nil => ⟨[], _, rfl, .nil, h⟩
  | _, _ :: _, _, .cons h h' => by
    obtain ⟨Q, b, rfl, h1, h2⟩ := h'.snoc
    exact ⟨_ :: Q, b, rfl, .cons h h1, h2⟩
theorem Sp.mono {L L' n n' j : Nat} {R : List Cm} {u : U} (h : Sp L n j R u) (hL : L ≤ L') (hn : n ≤ n') : Sp L' n' j R u := by
  induction h with
  | nil j => exact .nil j
  | snoc h hb h' ih ih' => exact .snoc ih (hb.mono hL hn hL) ih'
theorem Dn.mono {L L' n n' : Nat} {t : Cm} {u : U} (h : Dn L n t u) (hL : L ≤ L') (hn : n ≤ n') : Dn L' n' t u := by
  obtain ⟨j, R, h, h'⟩ := h
  exact ⟨j, R, h.mono hL hn hL, h'.mono hL hn⟩
theorem Sp.sim {L n k j : Nat} {R' : List Cm} {u : U} (h : Sp L n j R' u) : ∀ {R : List Cm}, GeL k R R' → Sp (L + 3) (n * (k + 1) + k) j R u := by
  induction h with
  | nil j => intro R h; cases h; exact .nil j
  | snoc h hb h' ih ih' =>
    intro R hg
    obtain ⟨Q, b, rfl, h1, h2⟩ := hg.snoc
    obtain ⟨Q2, h3, h4⟩ := hb.sim (Nat.le_refl _) (Nat.le_refl k) h2 .nil
    exact .snoc (ih h1) h3 (ih' h4)
theorem Dn.sim {L n k : Nat} {t t' : Cm} {u : U} (h : Dn L n t' u) (hg : Ge k t t') : Dn (L + 3) (n * (k + 1) + k) t u := by
  obtain ⟨j, R, h, h'⟩ := h
  obtain ⟨Q, h1, h2⟩ := h.sim (Nat.le_refl _) (Nat.le_refl k) hg .nil
  exact ⟨j, Q, h1, h'.sim h2⟩
theorem Dn.app {L n : Nat} {a b : Cm} {u v : U} (ha : Dn L n a u) (hb : Dn L n b v) : Dn (L + 1) n (.app a b) (.ap u v) := by
  obtain ⟨j, R, h, h'⟩ := ha
  obtain ⟨i, Q, g, g'⟩ := hb
  exact ⟨j, R ++ [b], .ap ((h.more [b]).mono (Nat.le_succ _) (Nat.le_refl _) (Nat.le_refl _)), .snoc (h'.mono (Nat.le_succ _) (Nat.le_refl _)) (g.mono (Nat.le_succ _) (Nat.le_refl _) (Nat.le_succ _)) (g'.mono (Nat.le_succ _) (Nat.le_refl _))⟩

/-! substitution -/
noncomputable def Cm.sub (f : Int → Cm) : Cm → Cm
  | atom i => if i < 256 then .atom i else f i
  | app a b => .app (a.sub f) (b.sub f)
noncomputable def put (f : Int → Cm) (x : Int) (a : Cm) : Int → Cm := fun i => if i = x then a else f i
theorem sub_wo_none {f : Int → Cm} {x : Int} {a : Cm} (hx : 256 ≤ x) : ∀ t : Cm, t.wo x = none → t.sub (put f x a) = t.sub f
  | .atom i, h => by
    have hi : i ≠ x := fun e => by subst e; simp [Cm.wo] at h
    simp only [Cm.sub, put, if_neg hi]
  | .app a b, h => by
    rw [Cm.wo] at h
    cases ha : a.wo x with
    | some l => rw [ha] at h; cases hb : b.wo x <;> rw [hb] at h <;> cases h
    | none =>
      cases hb : b.wo x with
      | some r => rw [ha, hb] at h; cases h
      | none => rw [Cm.sub, Cm.sub, sub_wo_none hx a ha, sub_wo_none hx b hb]
theorem wo_ge {f : Int → Cm} {x : Int} {a : Cm} (hx : 256 ≤ x) : ∀ (t h : Cm), t.wo x = some h → Ge (t.dp + 1) (.app (h.sub f) a) (t.sub (put f x a))
  | .atom i, h, e => by
    rw [Cm.wo] at e
    by_cases hi : i = x
    · subst hi
      rw [if_pos rfl] at e
      obtain rfl := Option.some.inj e
      have : Cm.sub (put f i a) (.atom i) = a := by simp only [Cm.sub, put, if_neg (show ¬ i < 256 by (first | lia | omega)), if_true]
      rw [this]
      exact .step (.I a) (.refl _ _)
    · rw [if_neg hi] at e; cases e
  | .app l r, h, e => by
    rw [Cm.wo] at e
    have hdp : (Cm.app l r).dp = Nat.max l.dp r.dp + 1 := rfl
    rw [hdp]
    cases hl : l.wo x with
    | none =>
      cases hr : r.wo x with
      | none => rw [hl, hr] at e; cases e
      | some r' =>
        rw [hl, hr] at e
        obtain rfl := Option.some.inj e
        rw [show Cm.sub (put f x a) (.app l r) = .app (l.sub (put f x a)) (r.sub (put f x a)) from rfl, sub_wo_none hx l hl]
        exact .step (.B _ _ _) (.app (.refl _ _) ((wo_ge hx r r' hr).mono (Nat.succ_le_succ (Nat.le_max_right _ _))))
    | some l' =>
      cases hr : r.wo x with
      | none =>
        rw [hl, hr] at e
        obtain rfl := Option.some.inj e
        rw [show Cm.sub (put f x a) (.app l r) = .app (l.sub (put f x a)) (r.sub (put f x a)) from rfl, sub_wo_none hx r hr]
        exact .step (.C _ _ _) (.app ((wo_ge hx l l' hl).mono (Nat.succ_le_succ (Nat.le_max_left _ _))) (.refl _ _))
      | some r' =>
        rw [hl, hr] at e
        obtain rfl := Option.some.inj e
        exact .step (.S _ _ _) (.app ((wo_ge hx l l' hl).mono (Nat.succ_le_succ (Nat.le_max_left _ _))) ((wo_ge hx r r' hr).mono (Nat.succ_le_succ (Nat.le_max_right _ _))))
/-- a definition's body, its name taken out and handed back -/
theorem arr_ge {f : Int → Cm} {x : Int} {a : Cm} (hx : 256 ≤ x) (b : Pt) : Ge (b.bare.dp + 1) (.app ((Pt.arr x b).bare.sub f) a) (b.bare.sub (put f x a)) := by
  rw [Pt.bare]
  cases h : b.bare.wo x with
  | none =>
    rw [sub_wo_none hx _ h]
    exact .step (.K _ _) (.refl _ _)
  | some t => exact wo_ge hx _ _ h
theorem d3 {x y m : Nat} (h1 : x ≤ 2 * m) (h2 : y ≤ 2 * m) : Nat.max (Nat.max 0 x + 1) y + 1 ≤ 2 * (m + 1) :=
  Nat.succ_le_succ (Nat.max_le.mpr ⟨Nat.succ_le_succ (Nat.max_le.mpr ⟨Nat.zero_le _, h1⟩), Nat.le_succ_of_le h2⟩)
theorem dbl_l {a b x : Nat} (h : x ≤ 2 * a) : x ≤ 2 * Nat.max a b := Nat.le_trans h (Nat.mul_le_mul_left 2 (Nat.le_max_left a b))
theorem dbl_r {a b x : Nat} (h : x ≤ 2 * b) : x ≤ 2 * Nat.max a b := Nat.le_trans h (Nat.mul_le_mul_left 2 (Nat.le_max_right a b))
theorem dbl (a : Nat) : a ≤ 2 * a := Nat.le_mul_of_pos_left a (Nat.succ_pos 1)
theorem wo_dp {x : Int} : ∀ (t h : Cm), t.wo x = some h → h.dp ≤ 2 * t.dp
  | .atom i, h, e => by
    rw [Cm.wo] at e
    by_cases hi : i = x
    · rw [if_pos hi] at e; obtain rfl := Option.some.inj e; exact Nat.le_refl _
    · rw [if_neg hi] at e; cases e
  | .app l r, h, e => by
    rw [Cm.wo] at e
    cases hl : l.wo x with
    | none =>
      cases hr : r.wo x with
      | none => rw [hl, hr] at e; cases e
      | some r' =>
        rw [hl, hr] at e
        obtain rfl := Option.some.inj e
        exact d3 (dbl_l (dbl _)) (dbl_r (wo_dp r r' hr))
    | some l' =>
      cases hr : r.wo x with
      | none =>
        rw [hl, hr] at e
        obtain rfl := Option.some.inj e
        exact d3 (dbl_l (wo_dp l l' hl)) (dbl_r (dbl _))
      | some r' =>
        rw [hl, hr] at e
        obtain rfl := Option.some.inj e
        exact d3 (dbl_l (wo_dp l l' hl)) (dbl_r (wo_dp r r' hr))
theorem arr_dp (x : Int) (b : Pt) : (Pt.arr x b).bare.dp ≤ 2 * b.bare.dp + 1 := by
  rw [Pt.bare]
  cases h : b.bare.wo x with
  | none =>
    show Nat.max 0 b.bare.dp + 1 ≤ _
    have : Nat.max 0 b.bare.dp ≤ b.bare.dp := Nat.max_le.mpr ⟨Nat.zero_le _, Nat.le_refl _⟩
    (first | lia | omega)
  | some t => have := wo_dp _ _ h; simp only; (first | lia | omega)
end W2
end Mine
end

section
set_option Elab.async false
set_option linter.unusedVariables false
set_option linter.unusedSimpArgs false
namespace Mine
namespace W2
/-- a tree as it is read, its names by their places -/
noncomputable def Tr.pt (ix : Nat → Nat) : Tr → Pt
  | leaf k => .atom (256 + (ix k : Int))
  | app a b => .app (a.pt ix) (b.pt ix)
  | dfn x a b => .app (.arr (256 + (ix x : Int)) (b.pt ix)) (a.pt ix)
noncomputable def bind (ρ : Nat → U) (x : Nat) (u : U) : Nat → U := fun k => if k = x then u else ρ k
noncomputable def Tr.uv : Tr → (Nat → U) → U
  | leaf k, ρ => ρ k
  | app a b, ρ => .ap (a.uv ρ) (b.uv ρ)
  | dfn x a b, ρ => b.uv (bind ρ x (a.uv ρ))
/-- how many turns -/
noncomputable def Tr.M (ix : Nat → Nat) : Tr → Nat
  | leaf _ => 1
  | app a b => Nat.max (a.M ix) (b.M ix)
  | dfn x a b => a.M ix * b.M ix * ((b.pt ix).bare.dp + 2)
theorem Tr.M_pos (ix : Nat → Nat) : ∀ t : Tr, 1 ≤ t.M ix
  | leaf _ => Nat.le_refl _
  | app a b => Nat.le_trans (a.M_pos ix) (Nat.le_max_left _ _)
  | dfn x a b => Nat.mul_pos (Nat.mul_pos (a.M_pos ix) (b.M_pos ix)) (Nat.succ_pos _)
theorem sem {ix : Nat → Nat} (hi : ∀ a b, a < 3 → b < 3 → ix a = ix b → a = b) : ∀ (t : Tr) (f : Int → Cm) (ρ : Nat → U) (L m : Nat), t.ok → 1 ≤ m → (∀ k, k < 3 → Dn L (m - 1) (f (256 + (ix k : Int))) (ρ k)) → Dn (L + 3 * t.sz) (m * t.M ix - 1) ((t.pt ix).bare.sub f) (t.uv ρ)
  | .leaf k, f, ρ, L, m, hk, hm, h => by
    show Dn (L + 3 * 0) (m * 1 - 1) (if (256 + (ix k : Int)) < 256 then Cm.atom (256 + (ix k : Int)) else f (256 + (ix k : Int))) (ρ k)
    rw [if_neg (by (first | lia | omega)), Nat.mul_one]
    exact h k hk
  | .app a b, f, ρ, L, m, hk, hm, h => by
    have ha := sem hi a f ρ L m hk.1 hm h
    have hb := sem hi b f ρ L m hk.2 hm h
    have e1 : m * a.M ix ≤ m * (Tr.app a b).M ix := Nat.mul_le_mul_left _ (Nat.le_max_left _ _)
    have e2 : m * b.M ix ≤ m * (Tr.app a b).M ix := Nat.mul_le_mul_left _ (Nat.le_max_right _ _)
    have e3 : (Tr.app a b).sz = a.sz + b.sz + 1 := rfl
    exact (Dn.app (L := L + 3 * (a.sz + b.sz)) (ha.mono (by (first | lia | omega)) (Nat.sub_le_sub_right e1 1)) (hb.mono (by (first | lia | omega)) (Nat.sub_le_sub_right e2 1))).mono (by rw [e3]; (first | lia | omega)) (Nat.le_refl _)
  | .dfn x a b, f, ρ, L, m, hk, hm, h => by
    obtain ⟨hx, hoa, hob⟩ := hk
    have ha := sem hi a f ρ L m hoa hm h
    have pa := a.M_pos ix
    have hm' : 1 ≤ m * a.M ix := Nat.mul_pos hm pa
    have hle : m ≤ m * a.M ix := Nat.le_mul_of_pos_right _ pa
    have hb := sem hi b (put f (256 + (ix x : Int)) ((a.pt ix).bare.sub f)) (bind ρ x (a.uv ρ)) (L + 3 * a.sz) (m * a.M ix) hob hm' (fun k hk => by
      unfold put bind
      by_cases e : k = x
      · subst e
        rw [if_pos rfl, if_pos rfl]
        exact ha
      · rw [if_neg e, if_neg (fun e2 => e (hi _ _ hk hx (by (first | lia | omega))))]
        exact (h k hk).mono (Nat.le_add_right _ _) (Nat.sub_le_sub_right hle 1))
    have hg := arr_ge (f := f) (x := 256 + (ix x : Int)) (a := (a.pt ix).bare.sub f) (by (first | lia | omega)) (b.pt ix)
    have hd := hb.sim hg
    have hp : 1 ≤ m * a.M ix * b.M ix := Nat.mul_pos hm' (b.M_pos ix)
    refine hd.mono ?_ ?_
    · show L + 3 * a.sz + 3 * b.sz + 3 ≤ L + 3 * (a.sz + b.sz + 1)
      (first | lia | omega)
    · show (m * a.M ix * b.M ix - 1) * ((b.pt ix).bare.dp + 1 + 1) + ((b.pt ix).bare.dp + 1) ≤ m * (a.M ix * b.M ix * ((b.pt ix).bare.dp + 2)) - 1
      rw [← Nat.mul_assoc, ← Nat.mul_assoc]
      generalize m * a.M ix * b.M ix = z at hp
      obtain ⟨z, rfl⟩ : ∃ y, z = y + 1 := ⟨z - 1, by (first | lia | omega)⟩
      rw [Nat.add_sub_cancel, Nat.add_mul, show (b.pt ix).bare.dp + 1 + 1 = (b.pt ix).bare.dp + 2 from rfl]
      generalize z * ((b.pt ix).bare.dp + 2) = y
      (first | lia | omega)
/-! how big they are -/
theorem two_le {a b : Nat} (h : a ≤ b) : 2 ^ a ≤ 2 ^ b := Nat.pow_le_pow_right (by decide) h
theorem half_le {a p q : Nat} (h : a + 2 ≤ 2 ^ (p + 1)) (hq : p ≤ q) : a + 2 ≤ 2 ^ (q + 1) := Nat.le_trans h (two_le (Nat.succ_le_succ hq))
theorem twice {n k : Nat} (h : n ≤ 2 ^ k) : 2 * n ≤ 2 ^ (k + 1) := by rw [Nat.pow_succ, Nat.mul_comm]; exact Nat.mul_le_mul_right 2 h
theorem one3 {m r : Nat} (h : m + 2 ≤ 2 ^ (r + 1)) : m + 1 + 2 ≤ 2 ^ (r + 1 + 1) := by have := twice h; (first | lia | omega)
theorem mx2 {a b c k : Nat} (h : a + k ≤ c) (h' : b + k ≤ c) : Nat.max a b + k ≤ c := by
  rcases Nat.le_total a b with e | e
  · rw [show Nat.max a b = b from Nat.max_eq_right e]; exact h'
  · rw [show Nat.max a b = a from Nat.max_eq_left e]; exact h
theorem bd_app {a b p q : Nat} (h1 : a + 2 ≤ 2 ^ (p + 1)) (h2 : b + 2 ≤ 2 ^ (q + 1)) : Nat.max a b + 1 + 2 ≤ 2 ^ (p + q + 1 + 1) :=
  one3 (mx2 (half_le h1 (Nat.le_add_right p q)) (half_le h2 (Nat.le_add_left q p)))
theorem bd_dfn {a b c p q : Nat} (h1 : a + 2 ≤ 2 ^ (p + 1)) (h2 : b + 2 ≤ 2 ^ (q + 1)) (h3 : c ≤ 2 * b + 1) : Nat.max c a + 1 + 2 ≤ 2 ^ (p + q + 1 + 1) := by
  have g1 := twice (half_le h1 (Nat.le_add_right p q))
  have g2 := twice (half_le h2 (Nat.le_add_left q p))
  exact mx2 (k := 3) (by (first | lia | omega)) (by (first | lia | omega))
theorem Tr.dp_le (ix : Nat → Nat) : ∀ t : Tr, (t.pt ix).bare.dp + 2 ≤ 2 ^ (t.sz + 1)
  | leaf _ => Nat.le_refl _
  | app a b => bd_app (a.dp_le ix) (b.dp_le ix)
  | dfn x a b => bd_dfn (a.dp_le ix) (b.dp_le ix) (arr_dp (256 + (ix x : Int)) (b.pt ix))
theorem Tr.nd_le (ix : Nat → Nat) : ∀ t : Tr, (t.pt ix).nd + 2 ≤ 2 ^ (t.sz + 1)
  | leaf _ => Nat.le_refl _
  | app a b => bd_app (a.nd_le ix) (b.nd_le ix)
  | dfn x a b => bd_dfn (b := Nat.max (b.pt ix).nd (b.pt ix).bare.dp) (a.nd_le ix) (mx2 (b.nd_le ix) (b.dp_le ix)) (show Nat.max (b.pt ix).nd (b.pt ix).bare.dp + 1 ≤ _ by (first | lia | omega))
theorem wo_cnt {x : Int} : ∀ (t h : Cm), t.wo x = some h → h.cnt + 1 ≤ 2 * t.cnt
  | .atom i, h, e => by
    rw [Cm.wo] at e
    by_cases hi : i = x
    · rw [if_pos hi] at e; obtain rfl := Option.some.inj e; exact Nat.le_refl _
    · rw [if_neg hi] at e; cases e
  | .app l r, h, e => by
    have pos : ∀ t : Cm, 1 ≤ t.cnt := fun t => by cases t <;> simp only [Cm.cnt] <;> (first | lia | omega)
    have p1 := pos l
    have p2 := pos r
    rw [Cm.wo] at e
    cases hl : l.wo x with
    | none =>
      cases hr : r.wo x with
      | none => rw [hl, hr] at e; cases e
      | some r' =>
        rw [hl, hr] at e
        obtain rfl := Option.some.inj e
        have := wo_cnt r r' hr
        simp only [Cm.cnt]; (first | lia | omega)
    | some l' =>
      have := wo_cnt l l' hl
      cases hr : r.wo x with
      | none =>
        rw [hl, hr] at e
        obtain rfl := Option.some.inj e
        simp only [Cm.cnt]; (first | lia | omega)
      | some r' =>
        rw [hl, hr] at e
        obtain rfl := Option.some.inj e
        have := wo_cnt r r' hr
        simp only [Cm.cnt]; (first | lia | omega)
theorem arr_cnt (x : Int) (b : Pt) : (Pt.arr x b).bare.cnt ≤ 2 * b.bare.cnt + 1 := by
  rw [Pt.bare]
  cases h : b.bare.wo x with
  | none =>
    show 1 + b.bare.cnt + 1 ≤ _
    have : 1 ≤ b.bare.cnt := by cases b.bare <;> simp only [Cm.cnt] <;> (first | lia | omega)
    (first | lia | omega)
  | some t => have := wo_cnt _ _ h; simp only; (first | lia | omega)
theorem Tr.cnt_le (ix : Nat → Nat) : ∀ t : Tr, (t.pt ix).bare.cnt + 2 ≤ 3 ^ (t.sz + 1)
  | leaf _ => Nat.le_refl _
  | app a b => by
    have h1 := a.cnt_le ix
    have h2 := b.cnt_le ix
    have e1 : 3 ^ (a.sz + 1) ≤ 3 ^ (a.sz + b.sz + 1) := Nat.pow_le_pow_right (by decide) (by (first | lia | omega))
    have e2 : 3 ^ (b.sz + 1) ≤ 3 ^ (a.sz + b.sz + 1) := Nat.pow_le_pow_right (by decide) (by (first | lia | omega))
    have e3 : 3 ^ (a.sz + b.sz + 1 + 1) = 3 ^ (a.sz + b.sz + 1) * 3 := Nat.pow_succ _ _
    show (a.pt ix).bare.cnt + (b.pt ix).bare.cnt + 1 + 2 ≤ 3 ^ (a.sz + b.sz + 1 + 1)
    (first | lia | omega)
  | dfn x a b => by
    have h1 := a.cnt_le ix
    have h2 := b.cnt_le ix
    have h3 := arr_cnt (256 + (ix x : Int)) (b.pt ix)
    have e1 : 3 ^ (a.sz + 1) ≤ 3 ^ (a.sz + b.sz + 1) := Nat.pow_le_pow_right (by decide) (by (first | lia | omega))
    have e2 : 3 ^ (b.sz + 1) ≤ 3 ^ (a.sz + b.sz + 1) := Nat.pow_le_pow_right (by decide) (by (first | lia | omega))
    have e3 : 3 ^ (a.sz + b.sz + 1 + 1) = 3 ^ (a.sz + b.sz + 1) * 3 := Nat.pow_succ _ _
    show (Pt.arr (256 + (ix x : Int)) (b.pt ix)).bare.cnt + (a.pt ix).bare.cnt + 1 + 2 ≤ 3 ^ (a.sz + b.sz + 1 + 1)
    (first | lia | omega)
noncomputable def tri : Nat → Nat
  | 0 => 0
  | n + 1 => tri n + (n + 1)
theorem tri_add (a b : Nat) : tri a + tri b ≤ tri (a + b) := by
  induction b with
  | zero => exact Nat.le_refl _
  | succ b ih => show tri a + (tri b + (b + 1)) ≤ tri (a + b) + (a + b + 1); (first | lia | omega)
theorem Tr.M_le (ix : Nat → Nat) : ∀ t : Tr, t.M ix ≤ 2 ^ tri t.sz
  | leaf _ => Nat.le_refl _
  | app a b => by
    have h1 := a.M_le ix
    have h2 := b.M_le ix
    have t1 := tri_add a.sz b.sz
    have e : tri (a.sz + b.sz + 1) = tri (a.sz + b.sz) + (a.sz + b.sz + 1) := rfl
    exact Nat.max_le.mpr ⟨Nat.le_trans h1 (two_le (by show _ ≤ tri (a.sz + b.sz + 1); (first | lia | omega))), Nat.le_trans h2 (two_le (by show _ ≤ tri (a.sz + b.sz + 1); (first | lia | omega)))⟩
  | dfn x a b => by
    have h1 := a.M_le ix
    have h2 := b.M_le ix
    have h3 := b.dp_le ix
    have t1 := tri_add a.sz b.sz
    have e : tri (a.sz + b.sz + 1) = tri (a.sz + b.sz) + (a.sz + b.sz + 1) := rfl
    refine Nat.le_trans (Nat.mul_le_mul (Nat.mul_le_mul h1 h2) h3) ?_
    rw [← Nat.pow_add, ← Nat.pow_add]
    exact two_le (by show _ ≤ tri (a.sz + b.sz + 1); (first | lia | omega))
theorem Tr.rd_le : ∀ (t : Tr) (ρ : Nat → U) (r : Nat), (∀ k, (ρ k).rd ≤ r) → (t.uv ρ).rd ≤ r + t.sz
  | leaf k, ρ, r, h => h k
  | app a b, ρ, r, h => by
    have h1 := a.rd_le ρ r h
    have h2 := b.rd_le ρ r h
    exact Nat.succ_le_succ (Nat.max_le (c := r + (a.sz + b.sz)) |>.mpr ⟨by (first | lia | omega), by (first | lia | omega)⟩)
  | dfn x a b, ρ, r, h => by
    have h1 := a.rd_le ρ r h
    have h2 := b.rd_le (bind ρ x (a.uv ρ)) (r + a.sz) (fun k => by
      unfold bind
      by_cases e : k = x
      · rw [if_pos e]; exact h1
      · rw [if_neg e]; exact Nat.le_trans (h k) (Nat.le_add_right _ _))
    simp only [Tr.sz, Tr.uv]; (first | lia | omega)
/-- all its names are among the first m -/
noncomputable def U.has (m : Nat) : U → Prop
  | nm j => j < m
  | ap a b => a.has m ∧ b.has m
theorem uv_val (N : List (List Nat)) : ∀ (t : Tr) (ρ : Nat → U) (ks : List V), t.ok → ks.length = 3 → (∀ k ∈ t.free, (ρ k).has N.length ∧ (ρ k).v N = ks.getD k .none) → (t.uv ρ).has N.length ∧ (t.uv ρ).v N = t.val ks
  | .leaf k, ρ, ks, ho, hl, h => h k (List.mem_singleton.mpr rfl)
  | .app a b, ρ, ks, ho, hl, h => by
    obtain ⟨a1, a2⟩ := uv_val N a ρ ks ho.1 hl fun k hk => h k (List.mem_append_left _ hk)
    obtain ⟨b1, b2⟩ := uv_val N b ρ ks ho.2 hl fun k hk => h k (List.mem_append_right _ hk)
    refine ⟨⟨a1, b1⟩, ?_⟩
    show V.tup [(a.uv ρ).v N, (b.uv ρ).v N] = V.tup [a.val ks, b.val ks]
    rw [a2, b2]
  | .dfn x a b, ρ, ks, ho, hl, h => by
    obtain ⟨a1, a2⟩ := uv_val N a ρ ks ho.2.1 hl fun k hk => h k (List.mem_append_right _ hk)
    refine uv_val N b (bind ρ x (a.uv ρ)) (ks.set x (a.val ks)) ho.2.2 (by rw [List.length_set, hl]) fun k hk => ?_
    have hx : x < ks.length := by rw [hl]; exact ho.1
    unfold bind
    by_cases e : k = x
    · subst e
      rw [if_pos rfl]
      refine ⟨a1, ?_⟩
      rw [a2, List.getD_eq_getElem?_getD, List.getElem?_set_self hx]; rfl
    · rw [if_neg e]
      have := h k (List.mem_append_left _ (List.mem_filter.mpr ⟨hk, by simpa using e⟩))
      refine ⟨this.1, ?_⟩
      rw [this.2, List.getD_eq_getElem?_getD, List.getD_eq_getElem?_getD, List.getElem?_set_ne (fun e2 => e e2.symm)]
end W2
end Mine
end

section
set_option Elab.async false
set_option linter.unusedVariables false
set_option linter.unusedSimpArgs false
namespace Mine
namespace W2
noncomputable def Cm.hd : Cm → Int
  | atom i => i
  | app a _ => a.hd
noncomputable def Cm.spn : Cm → Nat
  | atom _ => 0
  | app a _ => a.spn + 1
noncomputable def Cm.un : Cm → List Cm → List Cm
  | atom _, W => W
  | app a b, W => a.un (b :: W)
theorem Cm.un_len : ∀ (t : Cm) (W : List Cm), (t.un W).length = W.length + t.spn
  | atom _, W => rfl
  | app a b, W => by rw [un, a.un_len, List.length_cons, spn]; (first | lia | omega)
inductive Turn (L n : Nat) (t : Cm) (W : List Cm) (j : Nat) (R : List Cm) : Prop
  | done (h : t.hd = 256 + (j : Int)) (h' : t.un W = R)
  | more (m : Nat) (t2 : Cm) (W2 : List Cm) (hn : n = m + 1) (r : Red t.hd (t.un W) t2 W2) (h : Hd L m L t2 W2 j R)
theorem Hd.turn {L n s j : Nat} {t : Cm} {W R : List Cm} (h : Hd L n s t W j R) : t.spn ≤ s ∧ Turn L n t W j R := by
  induction h with
  | nm n s j W => exact ⟨Nat.zero_le _, .done rfl rfl⟩
  | ap h ih =>
    refine ⟨Nat.succ_le_succ ih.1, ?_⟩
    cases ih.2 with
    | done h h' => exact .done h h'
    | more m t2 W2 hn r h => exact .more m t2 W2 hn r h
  | red r h ih => exact ⟨Nat.zero_le _, .more _ _ _ rfl r h⟩
theorem Red.len {i : Int} {W W2 : List Cm} {t : Cm} (r : Red i W t W2) : W2.length < W.length := by
  cases r <;> simp only [List.length_cons] <;> (first | lia | omega)
/-- what waits, as it lies in the store -/
noncomputable def wl (W : List Cm) : List V := W.reverse.map Cm.v
theorem wl_len (W : List Cm) : (wl W).length = W.length := by simp [wl]
theorem wl_cons (a : Cm) (W : List Cm) : wl (a :: W) = wl W ++ [a.v] := by simp [wl]
noncomputable def popR : Ex := Ex.un (Uop.pop) (Ex.var 2)
noncomputable def isR (c : Int) : Ex := Ex.bin (Bop.eq) (Ex.var 0) (Ex.int c)
noncomputable def endR : Ex := Ex.bin (Bop.is) (Ex.call 4 (Exs.cons (Ex.var 0) (Exs.nil))) (Ex.bool true)
noncomputable def tupR (a b : Ex) : Ex := Ex.tup (Exs.cons a (Exs.cons b (Exs.nil)))
noncomputable def setR (e : Ex) : Sts := Sts.cons (St.set 0 e) (Sts.nil)
noncomputable def inR : Sts := Sts.cons (St.expr (Ex.bin (Bop.append) (Ex.var 2) (Ex.bin (Bop.item) (Ex.var 0) (Ex.int 1)))) (Sts.cons (St.set 0 (Ex.bin (Bop.item) (Ex.var 0) (Ex.int 0))) (Sts.nil))
noncomputable def moveR : Sts := Sts.cons (St.set 3 popR) (Sts.cons (St.ite (isR 16) (setR (Ex.var 3)) (Sts.cons (St.ite (isR 35) (Sts.cons (St.expr popR) (setR (Ex.var 3))) (Sts.cons (St.set 4 popR) (Sts.cons (St.set 5 popR) (Sts.cons (St.ite (isR 46) (setR (tupR (tupR (Ex.var 3) (Ex.var 5)) (tupR (Ex.var 4) (Ex.var 5)))) (Sts.cons (St.ite (isR 47) (setR (tupR (tupR (Ex.var 3) (Ex.var 5)) (Ex.var 4))) (setR (tupR (Ex.var 3) (tupR (Ex.var 4) (Ex.var 5))))) (Sts.nil))) (Sts.nil))))) (Sts.nil))) (Sts.nil))
noncomputable def outR : Sts := Sts.cons (St.while (Ex.un (Uop.isTup) (Ex.var 0)) inR) (Sts.cons (St.ite endR (Sts.cons (St.brk) (Sts.nil)) (Sts.nil)) moveR)
noncomputable def lastC : Ex := Ex.bin (Bop.ne) (Ex.var 2) (Ex.list (Exs.nil))
noncomputable def lastR : Sts := Sts.cons (St.set 6 (tupR (Ex.var 6) (Ex.call 19 (Exs.cons popR (Exs.cons (Ex.var 1) (Exs.nil)))))) (Sts.nil)
theorem fn19_is : fn19 = ⟨2, 7, Sts.cons (St.set 2 (Ex.list (Exs.nil))) (Sts.cons (St.while (Ex.bool true) outR) (Sts.cons (St.set 6 (Ex.bin (Bop.item) (Ex.var 1) (Ex.bin (Bop.sub) (Ex.var 0) (Ex.int 256)))) (Sts.cons (St.while lastC lastR) (Sts.cons (St.ret (Ex.var 6)) (Sts.nil)))))⟩ := rfl
section
variable {T : Tabs} {C : Calls} {n p : Nat} {x3 x4 x5 x6 : Option V}
theorem pop_ok {ρ : REnv} {τ : Store} {a : Cm} {W : List Cm} (h2 : ρ[2]? = some (some (.lst p))) (hp : τ[p]? = some (wl (a :: W))) : ev T C ρ τ popR = some (a.v, τ.set p (wl W)) := by
  refine (ev_un2 (ev_var T h2)).trans ?_
  show uLst τ (fun n xs => (xs.getLast?).map fun x => (x, τ.set n xs.dropLast)) (.lst p) = _
  rw [uLst_of hp, wl_cons, List.getLast?_concat, List.dropLast_concat]; rfl
theorem is_ok {ρ : REnv} {τ : Store} {i : Int} (c : Int) {b : Bool} (h : ρ[0]? = some (some (.int i))) (hb : (i == c) = b) : ev T C ρ τ (isR c) = some (.bool b, τ) := by
  subst hb
  refine (ev_bin2 (ev_var T h) (ev_int T)).trans ?_
  show (eqV τ (.int i) (.int c)).map (fun r => (V.bool r, τ)) = _
  rw [eqV_int]; rfl
/-- the spine is taken apart -/
theorem unwind : ∀ (t : Cm) (W : List Cm) (K : Nat) (τ : Store), τ[p]? = some (wl W) → W.length + t.spn < 10000000 →
    exWhile (condF T C (Ex.un (Uop.isTup) (Ex.var 0))) (fun ρ σ => exs T C ρ σ inR) (t.spn + 1 + K) [some t.v, some (.lst n), some (.lst p), x3, x4, x5, x6] τ = some (.next, [some (.int t.hd), some (.lst n), some (.lst p), x3, x4, x5, x6], τ.set p (wl (t.un W)))
  | .atom i, W, K, τ, hp, hl => by
    rw [show Cm.spn (.atom i) + 1 + K = K + 1 by simp only [Cm.spn]; (first | lia | omega)]
    refine (while_end (cond_ok (b := false) (σ' := τ) ((ev_un2 (ev_var T (v := (Cm.atom i).v) rfl)).trans rfl))).trans ?_
    rw [Cm.un, set_self' hp]; rfl
  | .app a b, W, K, τ, hp, hl => by
    have hLim : LIM = 16777216 := rfl
    simp only [Cm.spn] at hl
    rw [show Cm.spn (.app a b) + 1 + K = (a.spn + 1 + K) + 1 by simp only [Cm.spn]; (first | lia | omega)]
    have ha : evB .append (.lst p) b.v τ = some (.none, τ.set p (wl (b :: W))) := by rw [evB_append hp (by rw [wl_len]; (first | lia | omega)), wl_cons]
    refine (while_next (cond_ok (b := true) (σ' := τ) ((ev_un2 (ev_var T (v := (Cm.app a b).v) rfl)).trans rfl)) (ρ' := [some a.v, some (.lst n), some (.lst p), x3, x4, x5, x6]) (σ' := τ.set p (wl (b :: W))) ?_).trans ?_
    · exact (exs_next (ex_expr ((ev_bin2 (ev_var T rfl) (item2 T (k := 1) rfl rfl)).trans ha))).trans ((exs_next (ex_set (item2 T (l := [a.v, b.v]) (k := 0) rfl rfl))).trans exs_nil)
    · rw [unwind a (b :: W) K _ (get_set hp) (by simp only [List.length_cons]; (first | lia | omega)), List.set_set]; rfl
/-- an operator's move -/
theorem move_ok {i : Int} {W W2 : List Cm} {t : Cm} (r : Red i W t W2) {τ : Store} (hp : τ[p]? = some (wl W)) :
    ∃ y3 y4 y5, exs T C [some (.int i), some (.lst n), some (.lst p), x3, x4, x5, x6] τ moveR = some (.next, [some t.v, some (.lst n), some (.lst p), y3, y4, y5, x6], τ.set p (wl W2)) := by
  cases r with
  | I x =>
    exact ⟨_, _, _, (exs_next (ex_set (pop_ok rfl hp))).trans ((exs_next ((exs_ite (is_ok 16 (b := true) rfl rfl)).trans ((exs_next (ex_set (ev_var T rfl))).trans exs_nil))).trans exs_nil)⟩
  | K x y =>
    have e : (τ.set p (wl (y :: W2))).set p (wl W2) = τ.set p (wl W2) := List.set_set ..
    rw [← e]
    exact ⟨_, _, _, (exs_next (ex_set (pop_ok rfl hp))).trans ((exs_next ((exs_ite (is_ok 16 (b := false) rfl rfl)).trans ((exs_next ((exs_ite (is_ok 35 (b := true) rfl rfl)).trans ((exs_next (ex_expr (pop_ok rfl (get_set hp)))).trans ((exs_next (ex_set (ev_var T rfl))).trans exs_nil)))).trans exs_nil))).trans exs_nil)⟩
  | S x y z =>
    have e : ((τ.set p (wl (y :: z :: W2))).set p (wl (z :: W2))).set p (wl W2) = τ.set p (wl W2) := by rw [List.set_set, List.set_set]
    rw [← e]
    exact ⟨_, _, _, (exs_next (ex_set (pop_ok rfl hp))).trans ((exs_next ((exs_ite (is_ok 16 (b := false) rfl rfl)).trans ((exs_next ((exs_ite (is_ok 35 (b := false) rfl rfl)).trans ((exs_next (ex_set (pop_ok rfl (get_set hp)))).trans ((exs_next (ex_set (pop_ok rfl (get_set (get_set hp))))).trans
      ((exs_next ((exs_ite (is_ok 46 (b := true) rfl rfl)).trans ((exs_next (ex_set (tup2 T (tup2 T (ev_var T rfl) (ev_var T rfl)) (tup2 T (ev_var T rfl) (ev_var T rfl))))).trans exs_nil))).trans exs_nil))))).trans exs_nil))).trans exs_nil)⟩
  | C x y z =>
    have e : ((τ.set p (wl (y :: z :: W2))).set p (wl (z :: W2))).set p (wl W2) = τ.set p (wl W2) := by rw [List.set_set, List.set_set]
    rw [← e]
    exact ⟨_, _, _, (exs_next (ex_set (pop_ok rfl hp))).trans ((exs_next ((exs_ite (is_ok 16 (b := false) rfl rfl)).trans ((exs_next ((exs_ite (is_ok 35 (b := false) rfl rfl)).trans ((exs_next (ex_set (pop_ok rfl (get_set hp)))).trans ((exs_next (ex_set (pop_ok rfl (get_set (get_set hp))))).trans
      ((exs_next ((exs_ite (is_ok 46 (b := false) rfl rfl)).trans ((exs_next ((exs_ite (is_ok 47 (b := true) rfl rfl)).trans ((exs_next (ex_set (tup2 T (tup2 T (ev_var T rfl) (ev_var T rfl)) (ev_var T rfl)))).trans exs_nil))).trans exs_nil))).trans exs_nil))))).trans exs_nil))).trans exs_nil)⟩
  | B x y z =>
    have e : ((τ.set p (wl (y :: z :: W2))).set p (wl (z :: W2))).set p (wl W2) = τ.set p (wl W2) := by rw [List.set_set, List.set_set]
    rw [← e]
    exact ⟨_, _, _, (exs_next (ex_set (pop_ok rfl hp))).trans ((exs_next ((exs_ite (is_ok 16 (b := false) rfl rfl)).trans ((exs_next ((exs_ite (is_ok 35 (b := false) rfl rfl)).trans ((exs_next (ex_set (pop_ok rfl (get_set hp)))).trans ((exs_next (ex_set (pop_ok rfl (get_set (get_set hp))))).trans
      ((exs_next ((exs_ite (is_ok 46 (b := false) rfl rfl)).trans ((exs_next ((exs_ite (is_ok 47 (b := false) rfl rfl)).trans ((exs_next (ex_set (tup2 T (ev_var T rfl) (tup2 T (ev_var T rfl) (ev_var T rfl))))).trans exs_nil))).trans exs_nil))).trans exs_nil))))).trans exs_nil))).trans exs_nil)⟩
end
end W2
end Mine
end

section
set_option Elab.async false
set_option linter.unusedVariables false
set_option linter.unusedSimpArgs false
namespace Mine
namespace W2
section
variable {T : Tabs} {d n p : Nat}
theorem end_ok {ρ : REnv} {τ : Store} {i : Int} (h : ρ[0]? = some (some (.int i))) : ev T (callD T fns (d + 1)) ρ τ endR = some (.bool (decide (256 ≤ i)), τ) := by
  refine (ev_bin2 (call1 T (ev_var T h) (isNon T d τ i)) (by rw [ev])).trans ?_
  show (some ((decide (256 ≤ i)) == true)).map (fun r => (V.bool r, τ)) = _
  cases decide (256 ≤ i) <;> rfl
theorem true_ok {ρ : REnv} {τ : Store} {C : Calls} : condF T C (Ex.bool true) ρ τ = some (true, τ) := cond_ok (by rw [ev])
theorem Red.low {i : Int} {W W2 : List Cm} {t : Cm} (r : Red i W t W2) : decide (256 ≤ i) = false := by cases r <;> rfl
theorem turns : TURNS = 100000 := rfl
theorem name_big (j : Nat) : (256 : Int) ≤ 256 + (j : Int) := by (first | lia | omega)
theorem outer_len {a b w m L s : Nat} (h : a < w + s) (hs : s ≤ L) (hl : w + L * (m + 1 + 1) < b) : a + L * (m + 1) < b := by
  have hmul : L * (m + 1 + 1) = L * (m + 1) + L := Nat.mul_succ _ _
  (first | lia | omega)
/-- the outer loop -/
noncomputable def OutAt (T : Tabs) (d n p L j : Nat) (R : List Cm) (c : Nat) : Prop := ∀ (s : Nat) (t : Cm) (W : List Cm), Hd L c s t W j R → s ≤ L → W.length + L * (c + 1) < 10000000 → ∀ (K : Nat) (x3 x4 x5 x6 : Option V) (τ : Store), τ[p]? = some (wl W) →
    ∃ y3 y4 y5, exWhile (condF T (callD T fns (d + 1)) (Ex.bool true)) (fun ρ σ => exs T (callD T fns (d + 1)) ρ σ outR) (c + 1 + K) [some t.v, some (.lst n), some (.lst p), x3, x4, x5, x6] τ = some (.next, [some (.int (256 + (j : Int))), some (.lst n), some (.lst p), y3, y4, y5, x6], τ.set p (wl R))
theorem fuel_of {k m : Nat} (h : k + 1 ≤ m) : k + 1 + (m - (k + 1)) = m := Nat.add_sub_cancel' h
theorem outer1 {L : Nat} (hL : L ≤ 1000) {j : Nat} {R : List Cm} {c : Nat} (IH : ∀ m, c = m + 1 → OutAt T d n p L j R m) : OutAt T d n p L j R c := by
    intro s t W h hs hl K x3 x4 x5 x6 τ hp
    obtain ⟨hsp, ht⟩ := h.turn
    have hc1 : L ≤ L * (c + 1) := Nat.le_mul_of_pos_right _ (Nat.succ_pos _)
    have hun := unwind (T := T) (C := callD T fns (d + 1)) (n := n) (p := p) (x3 := x3) (x4 := x4) (x5 := x5) (x6 := x6) t W (TURNS - (t.spn + 1)) τ hp (Nat.lt_of_le_of_lt (Nat.add_le_add_left (Nat.le_trans hsp (Nat.le_trans hs hc1)) _) hl)
    rw [fuel_of (Nat.le_trans (Nat.succ_le_succ (Nat.le_trans hsp (Nat.le_trans hs hL))) (show 1001 ≤ TURNS by decide))] at hun
    have hw := (ex_while (T := T) (C := callD T fns (d + 1)) (c := Ex.un (Uop.isTup) (Ex.var 0)) (b := inR)).trans hun
    have he := end_ok (T := T) (d := d) (ρ := [some (.int t.hd), some (.lst n), some (.lst p), x3, x4, x5, x6]) (τ := τ.set p (wl (t.un W))) rfl
    rw [Nat.add_right_comm c 1 K]
    cases ht with
    | done h1 h2 =>
      rw [h1, h2] at hw he
      rw [decide_eq_true (name_big j)] at he
      refine ⟨x3, x4, x5, while_brk true_ok ((exs_next hw).trans (exs_brk ((exs_ite he).trans (exs_brk ?_))))⟩
      rw [ex]
    | more m t2 W2 hn r hnext =>
      subst hn
      rw [r.low] at he
      obtain ⟨y3, y4, y5, hm⟩ := move_ok (T := T) (C := callD T fns (d + 1)) (n := n) (x3 := x3) (x4 := x4) (x5 := x5) (x6 := x6) r (get_set (ys := wl (t.un W)) hp)
      rw [List.set_set] at hm
      have hlen := r.len
      rw [Cm.un_len] at hlen
      obtain ⟨z3, z4, z5, hz⟩ := IH m rfl L t2 W2 hnext (Nat.le_refl _) (outer_len hlen (Nat.le_trans hsp hs) hl) K y3 y4 y5 x6 (τ.set p (wl W2)) (get_set hp)
      refine ⟨z3, z4, z5, ?_⟩
      rw [List.set_set] at hz
      exact (while_next true_ok ((exs_next hw).trans ((exs_next ((exs_ite he).trans exs_nil)).trans hm))).trans hz
theorem outer {L : Nat} (hL : L ≤ 1000) {j : Nat} {R : List Cm} : ∀ c, OutAt T d n p L j R c
  | 0 => outer1 hL fun m h => nomatch h
  | c + 1 => outer1 hL fun m h => Nat.succ.inj h ▸ outer hL c
end
section
variable {T : Tabs} {C : Calls} {n p : Nat} {N : List (List Nat)} {L c e : Nat}
theorem left_ok {ρ : REnv} {τ : Store} {W : List Cm} (h2 : ρ[2]? = some (some (.lst p))) (hp : τ[p]? = some (wl W)) : condF T C lastC ρ τ = some (!W.isEmpty, τ ++ [[]]) := by
  refine cond_ok ((ev_bin2 (ev_var T h2) (list0 T)).trans ?_)
  show orE none (orE none (bLst (τ ++ [[]]) (fun xs ys => (eqList xs ys).map fun r => (V.bool (!r), τ ++ [[]])) (.lst p) (.lst τ.length))) = _
  have e : bLst (τ ++ [[]]) (fun xs ys => (eqList xs ys).map fun r => (V.bool (!r), τ ++ [[]])) (.lst p) (.lst τ.length) = (eqList (wl W) []).map fun r => (V.bool (!r), τ ++ [[]]) := by
    rw [bLst, uLst_of (at_app hp), uLst_of at_last]
  rw [e]
  cases W with
  | nil => rfl
  | cons a W =>
    have : eqList (wl (a :: W)) [] = some false := by
      unfold eqList
      rw [if_neg (by rw [wl_len]; exact Nat.succ_ne_zero _)]
    rw [this]; rfl
/-- what a call of run must give -/
noncomputable def RunAt (T : Tabs) (C : Calls) (n : Nat) (N : List (List Nat)) (L c e : Nat) : Prop :=
  ∀ (t : Cm) (u : U), Dn L c t u → u.has N.length → u.rd < e → ∀ σ : Store, σ[n]? = some (strL N) → ∃ τ, C 19 [t.v, .lst n] σ = some (u.v N, τ) ∧ Fr0 σ.length σ τ
theorem lastLoop (hC : RunAt T C n N L c e) {j : Nat} {R : List Cm} {u : U} (h : Sp L c j R u) : u.has N.length → u.rd ≤ e → ∀ (X : List Cm) (K : Nat) (y0 y3 y4 y5 : Option V) (τ : Store), τ[p]? = some (wl (R ++ X)) → τ[n]? = some (strL N) → n ≠ p →
    ∃ τ', exWhile (condF T C lastC) (fun ρ σ => exs T C ρ σ lastR) (R.length + K) [y0, some (.lst n), some (.lst p), y3, y4, y5, some (.str (N.getD j []))] τ =
        exWhile (condF T C lastC) (fun ρ σ => exs T C ρ σ lastR) K [y0, some (.lst n), some (.lst p), y3, y4, y5, some (u.v N)] τ' ∧ τ'[p]? = some (wl X) ∧ τ'[n]? = some (strL N) ∧ τ.length ≤ τ'.length ∧ ∀ i, i < τ.length → i ≠ p → τ'[i]? = τ[i]? := by
  induction h with
  | nil j =>
    intro hu hr X K y0 y3 y4 y5 τ hp hn hne
    exact ⟨τ, by rw [List.length_nil, Nat.zero_add]; rfl, hp, hn, Nat.le_refl _, fun i _ _ => rfl⟩
  | @snoc j i R Q u v b h hb h' ih ih' =>
    intro hu hr X K y0 y3 y4 y5 τ hp hn hne
    have r1 : u.rd ≤ Nat.max u.rd v.rd := Nat.le_max_left _ _
    have r2 : v.rd ≤ Nat.max u.rd v.rd := Nat.le_max_right _ _
    have r3 : (U.ap u v).rd = Nat.max u.rd v.rd + 1 := rfl
    obtain ⟨τ₁, g1, g2, g3, g4, g5⟩ := ih hu.1 (by (first | lia | omega)) (b :: X) (K + 1) y0 y3 y4 y5 τ (by rw [hp, List.append_assoc]; rfl) hn hne
    have g3' : ((τ₁ ++ [[]]).set p (wl X))[n]? = some (strL N) := get_set_ne hne (at_app g3)
    obtain ⟨τ₂, k1, k2⟩ := hC b v ⟨i, Q, hb, h'⟩ hu.2 (by (first | lia | omega)) ((τ₁ ++ [[]]).set p (wl X)) g3'
    have lp : p < τ₁.length := (List.getElem?_eq_some_iff.mp g2).1
    have ln : n < τ₁.length := (List.getElem?_eq_some_iff.mp g3).1
    have ll : ((τ₁ ++ [[]]).set p (wl X)).length = τ₁.length + 1 := by rw [List.length_set, List.length_append]; rfl
    have hk : ∀ i, i < τ₁.length → i ≠ p → τ₂[i]? = τ₁[i]? := fun i hi hip => by
      rw [k2.2 i (by (first | lia | omega)), List.getElem?_set_ne (Ne.symm hip), List.getElem?_append_left hi]
    refine ⟨τ₂, ?_, ?_, (hk n ln hne).trans g3, by have := k2.1; (first | lia | omega), fun i hi hip => (hk i (by (first | lia | omega)) hip).trans (g5 i hi hip)⟩
    · rw [List.length_append, List.length_singleton, show R.length + 1 + K = R.length + (K + 1) by (first | lia | omega), g1]
      refine while_next (σ₁ := τ₁ ++ [[]]) (left_ok rfl g2) ?_
      refine (exs_next (ex_set (v := (U.ap u v).v N) (tup2 T (ev_var T (v := u.v N) rfl) (call2 T (pop_ok (a := b) rfl (at_app g2)) (ev_var T rfl) k1)))).trans exs_nil
    · rw [k2.2 p (by (first | lia | omega))]; exact get_set (at_app g2)
end
theorem Sp.len {L c j : Nat} {R : List Cm} {u : U} (h : Sp L c j R u) : R.length ≤ u.rd ∧ ∀ m, u.has m → j < m := by
  induction h with
  | nil j => exact ⟨Nat.le_refl _, fun m h => h⟩
  | @snoc j i R Q u v b h hb h' ih ih' =>
    have r1 : u.rd ≤ Nat.max u.rd v.rd := Nat.le_max_left _ _
    refine ⟨?_, fun m h => ih.2 m h.1⟩
    rw [List.length_append, List.length_singleton]
    exact Nat.succ_le_succ (Nat.le_trans ih.1 r1)
theorem run1 (T : Tabs) {n : Nat} {N : List (List Nat)} {L c : Nat} (hL : L ≤ 1000) (hc : c < 99999) (hLc : L * (c + 1) < 9000000) {d : Nat} (hd : d < 1000) (hC : RunAt T (callD T fns (d + 1)) n N L c d) : RunAt T (callD T fns (d + 2)) n N L c (d + 1) := by
    intro t u ht hu hr σ hn
    obtain ⟨j, R, h, h'⟩ := ht
    obtain ⟨hlen, hj⟩ := h'.len
    replace hj := hj _ hu
    have ln : n < σ.length := (List.getElem?_eq_some_iff.mp hn).1
    have hn1 : (σ ++ [[]])[n]? = some (strL N) := at_app hn
    obtain ⟨y3, y4, y5, ho⟩ := outer (T := T) (d := d) (n := n) (p := σ.length) hL c L t [] h (Nat.le_refl _) (by simp only [List.length_nil]; (first | lia | omega)) (TURNS - (c + 1)) none none none none (σ ++ [[]]) at_last
    rw [fuel_of (show c + 1 ≤ TURNS from Nat.le_trans hc (by decide))] at ho
    have hset : (σ ++ [[]]).set σ.length (wl R) = σ ++ [wl R] := by simp
    rw [hset] at ho
    have hn2 : (σ ++ [wl R])[n]? = some (strL N) := at_app hn
    obtain ⟨τ, k1, k2, k3, k4, k5⟩ := lastLoop (p := σ.length) hC h' hu (by (first | lia | omega)) [] (TURNS - R.length) (some (.int (256 + (j : Int)))) y3 y4 y5 (σ ++ [wl R]) (by rw [List.append_nil]; exact at_last) hn2 (by (first | lia | omega))
    have hRT : R.length < TURNS := Nat.lt_of_le_of_lt hlen (Nat.lt_of_lt_of_le hr (Nat.le_trans hd (show 1000 ≤ TURNS by decide)))
    rw [Nat.add_sub_cancel' (Nat.le_of_lt hRT)] at k1
    obtain ⟨e, he⟩ := pred_ok (Nat.sub_pos_of_lt hRT)
    have k6 : exWhile (condF T (callD T fns (d + 1)) lastC) (fun ρ σ => exs T (callD T fns (d + 1)) ρ σ lastR) (TURNS - R.length) [some (.int (256 + (j : Int))), some (.lst n), some (.lst σ.length), y3, y4, y5, some (u.v N)] τ = some (.next, [some (.int (256 + (j : Int))), some (.lst n), some (.lst σ.length), y3, y4, y5, some (u.v N)], τ ++ [[]]) := by
      rw [he]
      exact while_end (left_ok rfl k2)
    rw [k6] at k1
    have hsub : ev T (callD T fns (d + 1)) [some (.int (256 + (j : Int))), some (.lst n), some (.lst σ.length), y3, y4, y5, none] (σ ++ [wl R]) (Ex.bin (Bop.sub) (Ex.var 0) (Ex.int 256)) = some (.int (j : Int), σ ++ [wl R]) :=
      (ev_bin2 (ev_var T rfl) (ev_int T)).trans (by
        show some (V.int (256 + (j : Int) - 256), σ ++ [wl R]) = _
        rw [show (256 + (j : Int) - 256) = (j : Int) by (first | lia | omega)])
    have hget : (strL N)[j]? = some (.str (N.getD j [])) := by
      rw [strL, List.getElem?_map, List.getElem?_eq_getElem hj, List.getD_eq_getElem?_getD, List.getElem?_eq_getElem hj]; rfl
    have hname := (ev_bin2 (ev_var T (C := callD T fns (d + 1)) (ρ := [some (.int (256 + (j : Int))), some (.lst n), some (.lst σ.length), y3, y4, y5, none]) (i := 1) rfl) hsub).trans (evB_item_lst hn2 (place_nat' (by rw [List.length_map]; exact hj)) hget)
    refine ⟨τ ++ [[]], callD_in (ρ' := [some (.int (256 + (j : Int))), some (.lst n), some (.lst σ.length), y3, y4, y5, some (u.v N)]) fns_19 rfl (by simp [noLsts, noLst]) ?_, ?_⟩
    · rw [fn19_is]
      exact (exs_next (ex_set (list0 T))).trans ((exs_next (ex_while.trans ho)).trans ((exs_next (ex_set hname)).trans ((exs_next (ex_while.trans k1)).trans (exs_ret (ev_var T rfl)))))
    · rw [List.length_append] at k4
      refine ⟨by rw [List.length_append]; (first | lia | omega), fun i hi => ?_⟩
      rw [List.getElem?_append_left (by (first | lia | omega)), k5 i (by rw [List.length_append]; (first | lia | omega)) (by (first | lia | omega)), List.getElem?_append_left hi]
theorem run_ok (T : Tabs) {n : Nat} {N : List (List Nat)} {L c : Nat} (hL : L ≤ 1000) (hc : c < 99999) (hLc : L * (c + 1) < 9000000) : ∀ (d : Nat), d < 1000 → RunAt T (callD T fns (d + 2)) n N L c (d + 1)
  | 0, hd => run1 T hL hc hLc hd fun t u _ _ h => absurd h (Nat.not_lt_zero _)
  | d + 1, hd => run1 T hL hc hLc hd (run_ok T hL hc hLc d (Nat.lt_of_succ_lt hd))
end W2
end Mine
end

section
set_option Elab.async false
set_option linter.unusedVariables false
set_option linter.unusedSimpArgs false
namespace Mine
namespace W2
noncomputable def bodyN : Sts := Sts.cons (St.augItem 1 (Ex.bin (Bop.mod) (Ex.var 2) (Ex.int 11)) (Bop.add) (Ex.bin (Bop.mod) (Ex.bin (Bop.item) (Ex.var 0) (Ex.var 2)) (Ex.bin (Bop.pow) (Ex.int 10) (Ex.int 6)))) (Sts.nil)
noncomputable def row0 : List Nat := [11, 6, 5, 0, 1, 0, 23, 6, 12, 6, 3]
theorem fmod6 (a : Int) : ∃ v : Nat, a.fmod 1000000 = (v : Int) ∧ v < 1000000 := by
  have h : a.fmod 1000000 = a % 1000000 := Int.fmod_eq_emod_of_nonneg a (by decide)
  exact ⟨(a % 1000000).toNat, by (first | lia | omega), by (first | lia | omega)⟩
theorem turnN (T : Tabs) (C : Calls) {xs : List Int} {k : Nat} (hk : k < xs.length) {R : List Nat} (hR : R.length = 11) :
    ∃ v : Nat, v < 1000000 ∧ exs T C [some (.ro xs), some (.lst 0), some (.int (k : Int))] [intL R] bodyN = some (.next, [some (.ro xs), some (.lst 0), some (.int (k : Int))], [intL (R.set (k % 11) (R.getD (k % 11) 0 + v))]) := by
  obtain ⟨v, hv, hv2⟩ := fmod6 xs[k]
  refine ⟨v, hv2, (exs_next ?_).trans exs_nil⟩
  have h11 : k % 11 < 11 := Nat.mod_lt _ (by decide)
  have hidx := (ev_bin2 (ev_var T (C := C) (ρ := [some (.ro xs), some (.lst 0), some (.int (k : Int))]) (σ := [intL R]) (i := 2) rfl) (ev_int T (i := 11))).trans (evB_modN k 11 (by decide))
  have hitem := (ev_bin2 (ev_var T (C := C) (ρ := [some (.ro xs), some (.lst 0), some (.int (k : Int))]) (σ := [intL R]) (i := 0) rfl) (ev_var T (i := 2) rfl)).trans (evB_item_ro (place_nat' hk) (List.getElem?_eq_getElem hk))
  have hpow : ev T C [some (.ro xs), some (.lst 0), some (.int (k : Int))] [intL R] (Ex.bin (Bop.pow) (Ex.int 10) (Ex.int 6)) = some (.int 1000000, [intL R]) := (ev_bin2 (ev_int T) (ev_int T)).trans rfl
  have hval := (ev_bin2 hitem hpow).trans (evB_mod (σ := [intL R]) (by decide))
  rw [hv] at hval
  have hget : (intL R)[k % 11]? = some (.int (R.getD (k % 11) 0 : Nat)) := by rw [intL, List.getElem?_map, getD_some (d := 0) (by (first | lia | omega))]; rfl
  have hadd : evAug .add (.int (R.getD (k % 11) 0 : Nat)) (.int (v : Int)) [intL R] = some (.int ((R.getD (k % 11) 0 + v : Nat) : Int), [intL R]) := by
    rw [Int.natCast_add]; rfl
  have hset : (intL R).set (k % 11) (.int ((R.getD (k % 11) 0 + v : Nat) : Int)) = intL (R.set (k % 11) (R.getD (k % 11) 0 + v)) := by rw [intL, intL, List.map_set]
  have hlen : (intL R).length = 11 := by rw [intL, List.length_map, hR]
  rw [ex]
  simp only [List.getElem?_cons_zero, List.getElem?_cons_succ, hidx, Int.toNat_natCast, hget, hval, hadd, hlen, hset]
  rw [if_pos ⟨Int.natCast_nonneg _, h11, h11⟩]
  rfl
theorem grow0 {y m B : Nat} (h : y < 24 + m * B) : y < 24 + (m + 1) * B := by
  rw [Nat.add_mul, Nat.one_mul, ← Nat.add_assoc]; exact Nat.lt_of_lt_of_le h (Nat.le_add_right _ _)
theorem grow1 {y v m B : Nat} (h : y < 24 + m * B) (hv : v < B) : y + v < 24 + (m + 1) * B := by
  rw [Nat.add_mul, Nat.one_mul, ← Nat.add_assoc]; exact Nat.add_lt_add h hv
theorem numbers_ok (T : Tabs) (d : Nat) (xs : List Int) (σ : Store) : ∃ R, RowOk R ∧ callD T fns (d + 1) 6 [.ro xs] σ = some (.lst σ.length, σ ++ [intL R]) := by
  have hmin : ∀ τ, evB .min (.int 60) (.int (xs.length : Int)) τ = some (.int ((Nat.min 60 xs.length : Nat) : Int), τ) := fun τ => by
    show some (V.int (if (xs.length : Int) < 60 then (xs.length : Int) else 60), τ) = _
    congr 3
    show _ = ((min 60 xs.length : Nat) : Int)
    split <;> (first | lia | omega)
  have hr : ∀ x, ev T (callD T fns d) [some (.ro xs), some (.lst 0), x] [intL row0] (Ex.un (Uop.range) (Ex.bin (Bop.min) (Ex.int 60) (Ex.un (Uop.len) (Ex.var 0)))) = some (.rng 0 1 (Nat.min 60 xs.length), [intL row0]) := fun x => by
    have h60 : Nat.min 60 xs.length ≤ 60 := Nat.min_le_left _ _
    refine (ev_un2 ((ev_bin2 (ev_int T) ((ev_un2 (ev_var T (v := .ro xs) rfl)).trans (show evU T .len (.ro xs) [intL row0] = some (.int (xs.length : Int), [intL row0]) from rfl))).trans (hmin _))).trans ?_
    rw [evU_range (by (first | lia | omega))]
  obtain ⟨ρ', σ', hl, R, x, rfl, rfl, hR, hb⟩ := for_range (n := Nat.min 60 xs.length) (f := fun v ρ σ => exs T (callD T fns d) (ρ.set 2 (some v)) σ bodyN) (fun m ρ σ' => ∃ R x, ρ = [some (.ro xs), some (.lst 0), x] ∧ σ' = [intL R] ∧ R.length = 11 ∧ ∀ y ∈ R, y < 24 + m * 1000000)
    (ρ := [some (.ro xs), some (.lst 0), none]) (σ := [intL row0]) ⟨row0, none, rfl, rfl, rfl, by decide⟩ (fun m ρ σ' hm hI => by
      obtain ⟨R, x, rfl, rfl, hR, hb⟩ := hI
      have hk : m < xs.length := Nat.lt_of_lt_of_le hm (Nat.min_le_right _ _)
      obtain ⟨v, hv, h⟩ := turnN T (callD T fns d) hk hR
      refine ⟨_, _, h, _, _, rfl, rfl, by rw [List.length_set, hR], fun y hy => ?_⟩
      have h11 : m % 11 < R.length := by rw [hR]; exact Nat.mod_lt _ (by decide)
      rcases List.mem_or_eq_of_mem_set hy with h | rfl
      · exact grow0 (hb y h)
      · rw [List.getD_eq_getElem?_getD, List.getElem?_eq_getElem h11, Option.getD_some]
        exact grow1 (hb _ (List.getElem_mem h11)) hv)
  have h60 : Nat.min 60 xs.length ≤ 60 := Nat.min_le_left _ _
  refine ⟨R, ⟨hR, fun y hy => by have := hb y hy; (first | lia | omega)⟩, (callD_own (v := .lst 0) (σ' := [intL R]) (ρ' := [some (.ro xs), some (.lst 0), x]) fns_6 rfl rfl ?_).trans (giveBack_lst rfl ?_)⟩
  · refine (exs_next (ex_set (v := .lst 0) (σ' := [intL row0]) ?_)).trans ((exs_next (ex_for (hr none) rfl hl)).trans (exs_ret (ev_var T rfl)))
    simp only [ev, evs]; rfl
  · generalize R = l
    induction l with
    | nil => rfl
    | cons a l ih => exact ih

/-! the drawing of a tree -/
theorem cutT_app {α : Type} (A B : List α) : cut (A ++ B) 0 (clip (A.length : Int) (A ++ B).length) = A := by
  unfold cut clip
  rw [if_pos (Int.natCast_nonneg _), Int.toNat_natCast, List.drop_zero, Nat.sub_zero, List.length_append, show Nat.min A.length (A.length + B.length) = A.length from Nat.min_eq_left (Nat.le_add_right _ _)]
  exact List.take_left
theorem cutF_app {α : Type} (A B : List α) : cut (A ++ B) (clip (A.length : Int) (A ++ B).length) (A ++ B).length = B := by
  unfold cut clip
  rw [if_pos (Int.natCast_nonneg _), Int.toNat_natCast, List.length_append, show Nat.min A.length (A.length + B.length) = A.length from Nat.min_eq_left (Nat.le_add_right _ _), List.drop_left]
  exact List.take_of_length_le (by (first | lia | omega))
noncomputable def trs (A : List Tr) : List V := A.map Tr.v
noncomputable def joined (x : Nat) (a b : Tr) : Tr := if x % 6 < 3 then .app a b else .dfn (x % 6 - 3) a b
noncomputable def bodyD : Sts := Sts.cons (St.set 3 (Ex.bin (Bop.mod) (Ex.bin (Bop.fdiv) (Ex.var 1) (Ex.int 6)) (Ex.bin (Bop.sub) (Ex.un (Uop.len) (Ex.var 2)) (Ex.int 1)))) (Sts.cons (St.ite (Ex.bin (Bop.lt) (Ex.bin (Bop.mod) (Ex.var 1) (Ex.int 6)) (Ex.int 3)) (Sts.cons (St.set 4 (Ex.tup (Exs.cons (Ex.bin (Bop.item) (Ex.var 2) (Ex.var 3)) (Exs.cons (Ex.bin (Bop.item) (Ex.var 2) (Ex.bin (Bop.add) (Ex.var 3) (Ex.int 1))) (Exs.nil))))) (Sts.nil)) (Sts.cons (St.set 4 (Ex.tup (Exs.cons (Ex.bin (Bop.sub) (Ex.bin (Bop.mod) (Ex.var 1) (Ex.int 6)) (Ex.int 3)) (Exs.cons (Ex.bin (Bop.item) (Ex.var 2) (Ex.var 3)) (Exs.cons (Ex.bin (Bop.item) (Ex.var 2) (Ex.bin (Bop.add) (Ex.var 3) (Ex.int 1))) (Exs.nil)))))) (Sts.nil))) (Sts.cons (St.set 2 (Ex.bin (Bop.add) (Ex.bin (Bop.add) (Ex.bin (Bop.sliceT) (Ex.var 2) (Ex.var 3)) (Ex.list (Exs.cons (Ex.var 4) (Exs.nil)))) (Ex.bin (Bop.sliceF) (Ex.var 2) (Ex.bin (Bop.add) (Ex.var 3) (Ex.int 2))))) (Sts.nil)))
theorem turnDr (T : Tabs) (C : Calls) {A B : List Tr} {a b : Tr} {x r p : Nat} {τ : Store} (hp : τ[p]? = some (trs (A ++ a :: b :: B))) (hA : A.length = x / 6 % (A.length + B.length + 1)) (hl : A.length + B.length < 100) (x3 x4 : Option V) :
    ∃ y3 y4 q τ', exs T C [some (.lst r), some (.int (x : Int)), some (.lst p), x3, x4] τ bodyD = some (.next, [some (.lst r), some (.int (x : Int)), some (.lst q), y3, y4], τ') ∧ τ'[q]? = some (trs (A ++ joined x a b :: B)) ∧ τ.length ≤ τ'.length ∧ ∀ i, i < τ.length → τ'[i]? = τ[i]? := by
  have hLim : LIM = 16777216 := rfl
  have hlen : (trs (A ++ a :: b :: B)).length = A.length + B.length + 2 := by simp [trs]; (first | lia | omega)
  have ha : (trs (A ++ a :: b :: B))[A.length]? = some a.v := by simp [trs]
  have hb : (trs (A ++ a :: b :: B))[A.length + 1]? = some b.v := by
    rw [trs, List.getElem?_map, List.getElem?_append_right (Nat.le_succ _), Nat.succ_sub (Nat.le_refl _), Nat.sub_self]; rfl
  have hk : ev T C [some (.lst r), some (.int (x : Int)), some (.lst p), x3, x4] τ (Ex.bin (Bop.mod) (Ex.bin (Bop.fdiv) (Ex.var 1) (Ex.int 6)) (Ex.bin (Bop.sub) (Ex.un (Uop.len) (Ex.var 2)) (Ex.int 1))) = some (.int (A.length : Int), τ) := by
    have h1 : ev T C [some (.lst r), some (.int (x : Int)), some (.lst p), x3, x4] τ (Ex.bin (Bop.sub) (Ex.un (Uop.len) (Ex.var 2)) (Ex.int 1)) = some (.int ((A.length + B.length + 1 : Nat) : Int), τ) := by
      refine (ev_bin2 ((ev_un2 (ev_var T rfl)).trans (evU_len_lst hp)) (ev_int T)).trans ?_
      rw [hlen]
      show some (V.int (((A.length + B.length + 2 : Nat) : Int) - 1), τ) = _
      rw [show (((A.length + B.length + 2 : Nat) : Int) - 1) = ((A.length + B.length + 1 : Nat) : Int) by (first | lia | omega)]
    refine ((ev_bin2 ((ev_bin2 (ev_var T rfl) (ev_int T)).trans (evB_fdivN x 6 (by decide) (by decide))) h1).trans (evB_modN (x / 6) _ (Nat.succ_pos _))).trans ?_
    rw [← hA]
  have hx6 : ∀ ρ : REnv, ρ[1]? = some (some (.int (x : Int))) → ev T C ρ τ (Ex.bin (Bop.mod) (Ex.var 1) (Ex.int 6)) = some (.int ((x % 6 : Nat) : Int), τ) := fun ρ h => (ev_bin2 (ev_var T h) (ev_int T)).trans (evB_modN x 6 (by decide))
  have hc : ∀ ρ : REnv, ρ[1]? = some (some (.int (x : Int))) → ev T C ρ τ (Ex.bin (Bop.lt) (Ex.bin (Bop.mod) (Ex.var 1) (Ex.int 6)) (Ex.int 3)) = some (.bool (decide (x % 6 < 3)), τ) := fun ρ h => by
    refine (ev_bin2 (hx6 ρ h) (ev_int T)).trans ?_
    show some (V.bool (decide (((x % 6 : Nat) : Int) < 3)), τ) = _
    rw [show decide (((x % 6 : Nat) : Int) < 3) = decide (x % 6 < 3) by rw [Bool.eq_iff_iff, decide_eq_true_iff, decide_eq_true_iff]; (first | lia | omega)]
  have plus : ∀ (ρ : REnv) (τ : Store) (m : Nat), ρ[3]? = some (some (.int (A.length : Int))) → ev T C ρ τ (Ex.bin (Bop.add) (Ex.var 3) (Ex.int (m : Int))) = some (.int ((A.length + m : Nat) : Int), τ) := fun ρ τ m h => (ev_bin2 (ev_var T h) (ev_int T)).trans (evB_addN A.length m)
  have i1 : ∀ ρ : REnv, ρ[2]? = some (some (.lst p)) → ρ[3]? = some (some (.int (A.length : Int))) → ev T C ρ τ (Ex.bin (Bop.item) (Ex.var 2) (Ex.var 3)) = some (a.v, τ) := fun ρ h2 h3 => (ev_bin2 (ev_var T h2) (ev_var T h3)).trans (evB_item_lst hp (place_nat' (by rw [hlen]; (first | lia | omega))) ha)
  have i2 : ∀ ρ : REnv, ρ[2]? = some (some (.lst p)) → ρ[3]? = some (some (.int (A.length : Int))) → ev T C ρ τ (Ex.bin (Bop.item) (Ex.var 2) (Ex.bin (Bop.add) (Ex.var 3) (Ex.int 1))) = some (b.v, τ) := fun ρ h2 h3 => (ev_bin2 (ev_var T h2) (plus ρ τ 1 h3)).trans (evB_item_lst hp (place_nat' (by rw [hlen]; (first | lia | omega))) hb)
  -- the new list
  have hnew : ∀ q : Tr, ev T C [some (.lst r), some (.int (x : Int)), some (.lst p), some (.int (A.length : Int)), some q.v] τ (Ex.bin (Bop.add) (Ex.bin (Bop.add) (Ex.bin (Bop.sliceT) (Ex.var 2) (Ex.var 3)) (Ex.list (Exs.cons (Ex.var 4) (Exs.nil)))) (Ex.bin (Bop.sliceF) (Ex.var 2) (Ex.bin (Bop.add) (Ex.var 3) (Ex.int 2)))) =
      some (.lst (τ.length + 4), τ ++ [trs A] ++ [[q.v]] ++ [trs (A ++ [q])] ++ [trs B] ++ [trs (A ++ q :: B)]) := fun q => by
    have e1 : ev T C [some (.lst r), some (.int (x : Int)), some (.lst p), some (.int (A.length : Int)), some q.v] τ (Ex.bin (Bop.sliceT) (Ex.var 2) (Ex.var 3)) = some (.lst τ.length, τ ++ [trs A]) := by
      refine ((ev_bin2 (ev_var T rfl) (ev_var T rfl)).trans (evB_sliceT_lst hp)).trans ?_
      have : trs (A ++ a :: b :: B) = trs A ++ trs (a :: b :: B) := List.map_append
      rw [this, show (A.length : Int) = ((trs A).length : Int) by simp [trs], cutT_app]
    have e2 := list1 T (C := C) (ρ := [some (.lst r), some (.int (x : Int)), some (.lst p), some (.int (A.length : Int)), some q.v]) (σ := τ ++ [trs A]) (e := Ex.var 4) (ev_var T (v := q.v) rfl)
    rw [List.length_append, List.length_singleton] at e2
    have e3 := (ev_bin2 e1 e2).trans (evB_add_lst (σ := τ ++ [trs A] ++ [[q.v]]) (n := τ.length) (m := τ.length + 1) (xs := trs A) (ys := [q.v]) (at_app at_last) (by simp) (by simp only [trs, List.length_map, List.length_cons, List.length_nil]; (first | lia | omega)))
    have el : (τ ++ [trs A] ++ [[q.v]]).length = τ.length + 2 := by simp
    have em : trs A ++ [q.v] = trs (A ++ [q]) := by simp [trs]
    rw [el, em] at e3
    have hp' : (τ ++ [trs A] ++ [[q.v]] ++ [trs (A ++ [q])])[p]? = some (trs (A ++ a :: b :: B)) := at_app (at_app (at_app hp))
    have e4 : ev T C [some (.lst r), some (.int (x : Int)), some (.lst p), some (.int (A.length : Int)), some q.v] (τ ++ [trs A] ++ [[q.v]] ++ [trs (A ++ [q])]) (Ex.bin (Bop.sliceF) (Ex.var 2) (Ex.bin (Bop.add) (Ex.var 3) (Ex.int 2))) = some (.lst (τ.length + 3), τ ++ [trs A] ++ [[q.v]] ++ [trs (A ++ [q])] ++ [trs B]) := by
      refine ((ev_bin2 (ev_var T rfl) (plus _ _ 2 rfl)).trans (evB_sliceF_lst hp')).trans ?_
      have : trs (A ++ a :: b :: B) = (trs A ++ [a.v, b.v]) ++ trs B := by simp [trs]
      rw [this, show ((A.length + 2 : Nat) : Int) = ((trs A ++ [a.v, b.v]).length : Int) by simp [trs], cutF_app]
      simp
    have e5 := (ev_bin2 e3 e4).trans (evB_add_lst (σ := τ ++ [trs A] ++ [[q.v]] ++ [trs (A ++ [q])] ++ [trs B]) (n := τ.length + 2) (m := τ.length + 3) (xs := trs (A ++ [q])) (ys := trs B) (at_app (by simp)) (by simp) (by simp only [trs, List.length_map, List.length_append, List.length_cons, List.length_nil]; (first | lia | omega)))
    have el2 : (τ ++ [trs A] ++ [[q.v]] ++ [trs (A ++ [q])] ++ [trs B]).length = τ.length + 4 := by simp
    have em2 : trs (A ++ [q]) ++ trs B = trs (A ++ q :: B) := by simp [trs]
    rw [el2, em2] at e5
    exact e5
  have hkeep : ∀ q : Tr, ∀ i, i < τ.length → (τ ++ [trs A] ++ [[q.v]] ++ [trs (A ++ [q])] ++ [trs B] ++ [trs (A ++ q :: B)])[i]? = τ[i]? := fun q i hi => by
    rw [List.append_assoc, List.append_assoc, List.append_assoc, List.append_assoc, List.getElem?_append_left hi]
  have hlast : ∀ q : Tr, (τ ++ [trs A] ++ [[q.v]] ++ [trs (A ++ [q])] ++ [trs B] ++ [trs (A ++ q :: B)])[τ.length + 4]? = some (trs (A ++ q :: B)) := fun q => by
    have el2 : (τ ++ [trs A] ++ [[q.v]] ++ [trs (A ++ [q])] ++ [trs B]).length = τ.length + 4 := by simp
    rw [← el2]; exact at_last
  by_cases h6 : x % 6 < 3
  · have hc' := hc [some (.lst r), some (.int (x : Int)), some (.lst p), some (.int (A.length : Int)), x4] rfl
    rw [decide_eq_true h6] at hc'
    have hj : joined x a b = .app a b := if_pos h6
    rw [hj]
    exact ⟨_, _, _, _, (exs_next (ex_set hk)).trans ((exs_next ((exs_ite hc').trans ((exs_next (ex_set (v := (Tr.app a b).v) (tup2 T (i1 _ rfl rfl) (i2 _ rfl rfl)))).trans exs_nil))).trans ((exs_next (ex_set (hnew (.app a b)))).trans exs_nil)), hlast _, by simp only [List.length_append]; (first | lia | omega), hkeep _⟩
  · have hc' := hc [some (.lst r), some (.int (x : Int)), some (.lst p), some (.int (A.length : Int)), x4] rfl
    rw [decide_eq_false h6] at hc'
    have hj : joined x a b = .dfn (x % 6 - 3) a b := if_neg h6
    rw [hj]
    have h3 : ev T C [some (.lst r), some (.int (x : Int)), some (.lst p), some (.int (A.length : Int)), x4] τ (Ex.bin (Bop.sub) (Ex.bin (Bop.mod) (Ex.var 1) (Ex.int 6)) (Ex.int 3)) = some (.int ((x % 6 - 3 : Nat) : Int), τ) := by
      refine (ev_bin2 (hx6 _ rfl) (ev_int T)).trans ?_
      show some (V.int (((x % 6 : Nat) : Int) - 3), τ) = _
      rw [show (((x % 6 : Nat) : Int) - 3) = ((x % 6 - 3 : Nat) : Int) by (first | lia | omega)]
    exact ⟨_, _, _, _, (exs_next (ex_set hk)).trans ((exs_next ((exs_ite hc').trans ((exs_next (ex_set (v := (Tr.dfn (x % 6 - 3) a b).v) (tup3 T h3 (i1 _ rfl rfl) (i2 _ rfl rfl)))).trans exs_nil))).trans ((exs_next (ex_set (hnew (.dfn (x % 6 - 3) a b)))).trans exs_nil)), hlast _, by simp only [List.length_append]; (first | lia | omega), hkeep _⟩
end W2
end Mine
end

section
set_option Elab.async false
set_option linter.unusedVariables false
set_option linter.unusedSimpArgs false
namespace Mine
namespace W2
noncomputable def szs (A : List Tr) : Nat := (A.map Tr.sz).sum
theorem szs_join (A B : List Tr) (x : Nat) (a b : Tr) : szs (A ++ joined x a b :: B) = szs (A ++ a :: b :: B) + 1 := by
  have : (joined x a b).sz = a.sz + b.sz + 1 := by unfold joined; split <;> rfl
  simp only [szs, List.map_append, List.map_cons, List.sum_append, List.sum_cons, this]; (first | lia | omega)
theorem joined_ok {x : Nat} {a b : Tr} (ha : a.ok) (hb : b.ok) : (joined x a b).ok := by
  unfold joined
  split
  · exact ⟨ha, hb⟩
  · exact ⟨by (first | lia | omega), ha, hb⟩
theorem splitAt2 {trees : List Tr} {k : Nat} (h : k + 1 < trees.length) : ∃ A a b B, trees = A ++ a :: b :: B ∧ A.length = k := by
  refine ⟨trees.take k, trees[k], trees[k + 1], trees.drop (k + 2), ?_, ?_⟩
  · rw [← List.drop_eq_getElem_cons h, ← List.drop_eq_getElem_cons (by (first | lia | omega) : k < trees.length), List.take_append_drop]
  · rw [List.length_take]; (first | lia | omega)
theorem leaves_ok (T : Tabs) (C : Calls) {R : List Nat} {τ : Store} {q r : Nat} {x1 x2 x3 x4 : Option V} (hR : R.length < 100) (hq : τ[q]? = some (intL R)) :
    evLoop (.live q) (cF T C [some (.lst r), x1, x2, x3, x4] (Ex.bin (Bop.mod) (Ex.var 5) (Ex.int 3))) TURNS 0 [] τ = some (trs (R.map fun x => .leaf (x % 3)), τ) := by
  have h := comp_live (f := cF T C [some (.lst r), x1, x2, x3, x4] (Ex.bin (Bop.mod) (Ex.var 5) (Ex.int 3))) hq (fun y => some (V.int ((intOf y).fmod 3))) (fun y hy => by
    obtain ⟨x, _, rfl⟩ := List.mem_map.mp hy
    exact cF_some ((ev_bin2 (ev_var T (v := .int (x : Int)) rfl) (ev_int T)).trans (evB_mod (by decide)))) (by rw [intL, List.length_map, turns]; (first | lia | omega))
  rw [h]
  have e : (intL R).filterMap (fun y => some (V.int ((intOf y).fmod 3))) = trs (R.map fun x => .leaf (x % 3)) := by
    clear h hq hR
    induction R with
    | nil => rfl
    | cons x R ih =>
      rw [intL, List.map_cons, List.filterMap_cons]
      simp only [intOf]
      rw [show ((x : Nat) : Int).fmod 3 = ((x % 3 : Nat) : Int) from natmod x 3]
      exact congrArg (List.cons _) ih
  rw [e]
inductive DrI (R : List Nat) (r : Nat) (σ : Store) (j : Nat) : REnv → Store → Prop
  | mk (q : Nat) (trees : List Tr) (y1 y3 y4 : Option V) (τ : Store) (k1 : τ[q]? = some (trs trees)) (k2 : trees.length + j = 6) (k3 : szs trees = j) (k4 : ∀ t ∈ trees, t.ok) (k5 : τ[σ.length + 2]? = some (intL (R.drop 6))) (k6 : σ.length + 3 ≤ τ.length) (k7 : ∀ i, i < σ.length → τ[i]? = σ[i]?) :
    DrI R r σ j [some (.lst r), y1, some (.lst q), y3, y4] τ
theorem DrI.src {R : List Nat} {r : Nat} {σ : Store} {j : Nat} {ρ : REnv} {τ : Store} (h : DrI R r σ j ρ τ) : τ[σ.length + 2]? = some (intL (R.drop 6)) := by cases h; assumption
theorem DrI.step (T : Tabs) (C : Calls) {R : List Nat} {r : Nat} {σ : Store} {j : Nat} {ρ : REnv} {τ : Store} (hj : j < 5) {x : Nat} (h : DrI R r σ j ρ τ) : ∃ ρ' τ', exs T C (ρ.set 1 (some (.int (x : Int)))) τ bodyD = some (.next, ρ', τ') ∧ DrI R r σ (j + 1) ρ' τ' := by
  obtain ⟨q, trees, y1, y3, y4, _, k1, k2, k3, k4, k5, k6, k7⟩ := h
  have hm : x / 6 % (trees.length - 1) < trees.length - 1 := Nat.mod_lt _ (by (first | lia | omega))
  obtain ⟨A, a, b, B, rfl, hA⟩ := splitAt2 (trees := trees) (k := x / 6 % (trees.length - 1)) (by (first | lia | omega))
  have hlen : (A ++ a :: b :: B).length = A.length + B.length + 2 := by simp only [List.length_append, List.length_cons]; (first | lia | omega)
  rw [hlen] at hA k2
  obtain ⟨z3, z4, q', τ', m1, m2, m3, m4⟩ := turnDr T C (r := r) (x := x) k1 hA (by (first | lia | omega)) y3 y4
  refine ⟨_, τ', m1, .mk q' _ _ z3 z4 τ' m2 ?_ ?_ ?_ ((m4 _ k6).trans k5) (Nat.le_trans k6 m3) fun i hi => (m4 i (Nat.lt_of_lt_of_le hi (Nat.le_trans (Nat.le_add_right _ _) k6))).trans (k7 i hi)⟩
  · rw [← k2, List.length_append, List.length_cons]; (first | lia | omega)
  · rw [szs_join, k3]
  · intro t ht
    rcases List.mem_append.mp ht with h | h
    · exact k4 t (List.mem_append_left _ h)
    · rcases List.mem_cons.mp h with rfl | h
      · exact joined_ok (k4 a (List.mem_append_right _ (.head _))) (k4 b (List.mem_append_right _ (.tail _ (.head _))))
      · exact k4 t (List.mem_append_right _ (.tail _ (.tail _ h)))
theorem drawn_ok (T : Tabs) (d : Nat) {R : List Nat} (hR : RowOk R) {σ : Store} {r : Nat} (hr : σ[r]? = some (intL R)) :
    ∃ (t : Tr) (τ : Store), t.ok ∧ t.sz = 5 ∧ callD T fns (d + 1) 7 [.lst r] σ = some (t.v, τ) ∧ Fr0 σ.length σ τ := by
  have hLim : LIM = 16777216 := rfl
  have hl := hR.len
  have hil : (intL R).length = 11 := by rw [intL, List.length_map, hl]
  have hsp : intL R = intL (R.take 6) ++ intL (R.drop 6) := by rw [intL, intL, intL, ← List.map_append, List.take_append_drop]
  have h6 : (intL (R.take 6)).length = 6 := by rw [intL, List.length_map, List.length_take]; (first | lia | omega)
  have hT : cut (intL R) 0 (clip 6 (intL R).length) = intL (R.take 6) := by
    have := cutT_app (intL (R.take 6)) (intL (R.drop 6))
    rw [← hsp, h6] at this; exact this
  have hF : cut (intL R) (clip 6 (intL R).length) (intL R).length = intL (R.drop 6) := by
    have := cutF_app (intL (R.take 6)) (intL (R.drop 6))
    rw [← hsp, h6] at this; exact this
  have hlv := leaves_ok T (callD T fns d) (R := R.take 6) (τ := σ ++ [intL (R.take 6)]) (q := σ.length) (r := r) (x1 := none) (x2 := none) (x3 := none) (x4 := none) (by rw [List.length_take]; (first | lia | omega)) at_last
  have hs1 : ev T (callD T fns d) [some (.lst r), none, none, none, none] σ (Ex.bin (Bop.sliceT) (Ex.var 0) (Ex.int 6)) = some (.lst σ.length, σ ++ [intL (R.take 6)]) := by
    refine ((ev_bin2 (ev_var T rfl) (ev_int T)).trans (evB_sliceT_lst hr)).trans ?_
    rw [hT]
  have hc := ev_comp_intro (T := T) (C := callD T fns d) hs1 rfl hlv (by simp only [trs, List.length_map, List.length_take]; (first | lia | omega))
  have e1 : (σ ++ [intL (R.take 6)]).length = σ.length + 1 := by simp
  rw [e1] at hc
  -- the loop's list
  have hs2 : ev T (callD T fns d) [some (.lst r), none, some (.lst (σ.length + 1)), none, none] (σ ++ [intL (R.take 6)] ++ [trs ((R.take 6).map fun x => .leaf (x % 3))]) (Ex.bin (Bop.sliceF) (Ex.var 0) (Ex.int 6)) = some (.lst (σ.length + 2), σ ++ [intL (R.take 6)] ++ [trs ((R.take 6).map fun x => .leaf (x % 3))] ++ [intL (R.drop 6)]) := by
    refine ((ev_bin2 (ev_var T rfl) (ev_int T)).trans (evB_sliceF_lst (at_app (at_app hr)))).trans ?_
    rw [hF]
    simp
  have hd5 : (intL (R.drop 6)).length = 5 := by rw [intL, List.length_map, List.length_drop]; (first | lia | omega)
  obtain ⟨ρ', τ, g, hI⟩ := for_live (n := σ.length + 2) (xs := intL (R.drop 6)) (f := fun v ρ σ => exs T (callD T fns d) (ρ.set 1 (some v)) σ bodyD)
    (DrI R r σ) (fun j ρ τ h => h.src)
    (fun j v ρ τ hv hI => by
      have hj : j < 5 := by rw [← hd5]; exact (List.getElem?_eq_some_iff.mp hv).1
      obtain ⟨x, rfl⟩ : ∃ x : Nat, v = .int (x : Int) := by
        obtain ⟨x, _, e⟩ := List.mem_map.mp (List.mem_of_getElem? hv)
        exact ⟨x, e.symm⟩
      exact hI.step T _ hj)
    5 TURNS 0 [some (.lst r), none, some (.lst (σ.length + 1)), none, none] (σ ++ [intL (R.take 6)] ++ [trs ((R.take 6).map fun x => .leaf (x % 3))] ++ [intL (R.drop 6)]) (by rw [hd5]) (by rw [turns]; decide)
    (.mk (σ.length + 1) _ _ _ _ _ (at_app (by rw [← e1]; exact at_last)) (by rw [List.length_map, List.length_take]; (first | lia | omega)) (by
        generalize R.take 6 = l
        induction l with
        | nil => rfl
        | cons a l ih => simp only [szs, List.map_cons, List.sum_cons, Tr.sz] at ih ⊢; (first | lia | omega)) (fun t ht => by
        obtain ⟨x, _, rfl⟩ := List.mem_map.mp ht
        exact Nat.mod_lt _ (by decide)) (by simp) (by simp) fun i hi => by rw [List.append_assoc, List.append_assoc, List.getElem?_append_left hi])
  obtain ⟨q, trees, y1, y3, y4, _, g1, g2, g3, g4, g5, g6, g7⟩ := hI
  rw [hd5] at g2 g3
  match trees, g1, g2, g3, g4 with
  | [t], g1, g2, g3, g4 =>
    refine ⟨t, τ, g4 t (.head _), ?_, callD_in (ρ' := [some (.lst r), y1, some (.lst q), y3, y4]) fns_7 rfl rfl ?_, ⟨by (first | lia | omega), g7⟩⟩
    · simpa [szs] using g3
    · exact (exs_next (ex_set hc)).trans ((exs_next (ex_for hs2 rfl g)).trans (exs_ret ((ev_bin2 (ev_var T rfl) (ev_int T)).trans (evB_item_lst (k := 0) g1 rfl rfl))))
end W2
end Mine
end

section
set_option Elab.async false
set_option linter.unusedVariables false
set_option linter.unusedSimpArgs false
namespace Mine
namespace W2
/-! the signs' folding -/
noncomputable def foldTbl : List (Nat × List Nat) := [(107, [107]), (109, [109]), (112, [112]), (75, [107]), (77, [109]), (80, [112]), (119818, [107]), (119820, [109]), (119823, [112]), (34, [34]), (42, [42]), (64, [64]), (83, [115]), (84, [116]), (115, [115]), (116, [116]), (383, [115]), (223, [115, 115]), (64262, [115, 116])]
structure B3 (b3 : List (Int × List Nat)) : Prop where
  fold : foldTbl.all (fun p => fold1 (TT b3) p.1 == p.2) = true
  high : [119818, 119820, 119823, 383, 223, 64262].all (fun c : Nat => (b3.lookup (c : Int)).isSome) = true
noncomputable def foldG (g : Nat → List Nat) (raw : List Nat) : List Nat := joinL [] (raw.filterMap fun (c : Nat) => if b1W.contains (c : Int) then none else some (g c))
noncomputable def gT (c : Nat) : List Nat := (foldTbl.lookup c).getD []
/-- a sign that the table knows, or that is let go -/
noncomputable def known (c : Nat) : Bool := b1W.contains (c : Int) || (foldTbl.any (fun p => p.1 == c) && (decide (c < 128) || [119818, 119820, 119823, 383, 223, 64262].contains c))
theorem tbl_get {L : List (Nat × List Nat)} {c : Nat} (h : L.any (fun p => p.1 == c) = true) : (c, (L.lookup c).getD []) ∈ L := by
  induction L with
  | nil => cases h
  | cons p L ih =>
    obtain ⟨a, b⟩ := p
    rw [List.lookup_cons]
    by_cases e : c = a
    · subst e
      rw [show (c == c) = true from beq_self_eq_true c]
      exact .head _
    · rw [show (c == a) = false from beq_eq_false_iff_ne.mpr e]
      rw [List.any_cons, Bool.or_eq_true, beq_iff_eq] at h
      exact .tail _ (ih (h.resolve_left fun h => e h.symm))
theorem fold_known {b3 : List (Int × List Nat)} (K : B3 b3) {raw : List Nat} (h : raw.all known = true) : foldS (TT b3) raw = foldG gT raw := by
  unfold foldS foldG
  congr 1
  induction raw with
  | nil => rfl
  | cons c raw ih =>
    rw [List.all_cons, Bool.and_eq_true] at h
    rw [List.filterMap_cons, List.filterMap_cons, ih h.2]
    by_cases hb : b1W.contains (c : Int) = true
    · rw [if_pos hb, if_pos hb]
    · rw [if_neg hb, if_neg hb]
      have h1 := h.1
      unfold known at h1
      rw [Bool.or_eq_true, Bool.and_eq_true] at h1
      have hm := tbl_get (h1.resolve_left hb).1
      have he := List.all_eq_true.mp K.fold _ hm
      rw [beq_iff_eq] at he
      rw [he]; rfl
theorem nm_ok {b3 : List (Int × List Nat)} (K : B3 b3) {raw pl : List Nat} (h : raw.all known = true) (h1 : raw.length ≤ 200) (h2 : pl.length ≤ 200) (h3 : foldG gT raw = pl) : Pc.ok (TT b3) (.nm raw pl) := by
  refine ⟨h1, h2, (fold_known K h).trans h3, fun c hc hb hn => ?_⟩
  have hk := List.all_eq_true.mp h c hc
  unfold known at hk
  rw [Bool.or_eq_true, Bool.and_eq_true, Bool.or_eq_true] at hk
  rcases hk with e | ⟨-, e | e⟩
  · exact absurd e (by rw [show b1W.contains (c : Int) = false from hb]; exact Bool.false_ne_true)
  · exact of_decide_eq_true e
  · have := List.all_eq_true.mp K.high c (List.contains_iff_mem.mp e)
    rw [show b3.lookup (c : Int) = none from hn] at this
    cases this
noncomputable def endings : List (List Nat) := [[34], [34, 34], [42, 42], [115, 115], [115, 116], [64]]
noncomputable def kmp : List Nat := [107, 109, 112]
noncomputable def meantS (k e : Nat) : List Nat := [kmp.getD k 0] ++ endings.getD e []
theorem spelled_mod (k e s : Nat) : spelledS k e s = spelledS k e (s % 6) := by
  unfold spelledS
  rw [show s % 6 % 3 = s % 3 by (first | lia | omega), show s % 6 / 3 % 2 = s / 3 % 2 by (first | lia | omega)]
theorem spell_all : ∀ k, k < 3 → ∀ e, e < 6 → ∀ s, s < 6 → (spelledS k e s).all known = true ∧ foldG gT (spelledS k e s) = meantS k e := by decide +kernel
theorem meant_all : ∀ k, k < 3 → ∀ e, e < 6 → (joinL [8288] ((meantS k e).map fun c => [c])).all known = true ∧ foldG gT (joinL [8288] ((meantS k e).map fun c => [c])) = meantS k e := by decide +kernel
theorem meantS_len (k e : Nat) : (meantS k e).length ≤ 4 := by
  unfold meantS
  by_cases h : e < 6
  · have : ∀ e, e < 6 → (endings.getD e []).length ≤ 2 := by decide
    have := this e h
    simp only [List.length_append, List.length_cons, List.length_nil]; (first | lia | omega)
  · have : endings.getD e [] = [] := by rw [List.getD_eq_getElem?_getD, List.getElem?_eq_none (by show 6 ≤ e; (first | lia | omega))]; rfl
    rw [this]; exact Nat.le_of_ble_eq_true rfl
section
variable (R : List Nat)
/-- a letter as it is meant -/
noncomputable def mn (k : Nat) : List Nat := meantS k (R.getD k 0 / 3 % 6)
noncomputable def leafC (k n : Nat) : Pc := .nm (spelledS k (R.getD k 0 / 3 % 6) (R.sum + n)) (mn R k)
noncomputable def Tr.pcl : Tr → Nat → List Pc
  | leaf k, n => [leafC R k n]
  | app a b, n => .op 49 [64] :: (a.pcl (n + 1) ++ b.pcl (n + 1 + a.cnt))
  | dfn x a b, n => .op 49 [64] :: .op 51 [45, 62] :: leafC R x (n + 2) :: (b.pcl (n + 3) ++ a.pcl (n + 3 + b.cnt))
theorem Tr.pcl_txt : ∀ (t : Tr) (n : Nat), (t.pcl R n).map Pc.txt = t.pcs R n
  | leaf k, n => rfl
  | app a b, n => by simp only [pcl, pcs, List.map_cons, List.map_append, a.pcl_txt, b.pcl_txt]; rfl
  | dfn x a b, n => by simp only [pcl, pcs, List.map_cons, List.map_append, a.pcl_txt, b.pcl_txt]; rfl
theorem leafC_ok {b3 : List (Int × List Nat)} (K : B3 b3) {k : Nat} (hk : k < 3) (n : Nat) : (leafC R k n).ok (TT b3) := by
  have he : R.getD k 0 / 3 % 6 < 6 := Nat.mod_lt _ (by decide)
  have h := spell_all k hk _ he ((R.sum + n) % 6) (Nat.mod_lt _ (by decide))
  rw [← spelled_mod] at h
  exact nm_ok K h.1 (Nat.le_trans (spelledS_len _ _ _) (by decide)) (Nat.le_trans (meantS_len _ _) (by decide)) h.2
theorem Tr.pcl_ok {b3 : List (Int × List Nat)} (K : B3 b3) : ∀ (t : Tr) (n : Nat), t.ok → ∀ p ∈ t.pcl R n, p.ok (TT b3)
  | leaf k, n, h, p, hp => by
    rw [List.mem_singleton.mp hp]; exact leafC_ok R K h n
  | app a b, n, h, p, hp => by
    rcases List.mem_cons.mp hp with rfl | hp
    · exact .head _
    · rcases List.mem_append.mp hp with hp | hp
      · exact a.pcl_ok K _ h.1 p hp
      · exact b.pcl_ok K _ h.2 p hp
  | dfn x a b, n, h, p, hp => by
    rcases List.mem_cons.mp hp with rfl | hp
    · exact .head _
    · rcases List.mem_cons.mp hp with rfl | hp
      · exact .tail _ (.head _)
      · rcases List.mem_cons.mp hp with rfl | hp
        · exact leafC_ok R K h.1 _
        · rcases List.mem_append.mp hp with hp | hp
          · exact b.pcl_ok K _ h.2.2 p hp
          · exact a.pcl_ok K _ h.2.1 p hp
theorem Tr.pcl_len (t : Tr) (n : Nat) : (t.pcl R n).length = t.cnt := by
  rw [← t.pcs_len R n, ← t.pcl_txt R n, List.length_map]
theorem Tr.cnt_sz : ∀ t : Tr, t.cnt ≤ 4 * t.sz + 1
  | leaf _ => Nat.le_refl _
  | app a b => by have := a.cnt_sz; have := b.cnt_sz; simp only [cnt, sz]; (first | lia | omega)
  | dfn _ a b => by have := a.cnt_sz; have := b.cnt_sz; simp only [cnt, sz]; (first | lia | omega)
end
/-! the names read -/
noncomputable def tokN (N : List (List Nat)) : Pc → Nat
  | .op c _ => c
  | .nm _ pl => 256 + N.idxOf pl
noncomputable def nmsP : List Pc → List (List Nat)
  | [] => []
  | .op _ _ :: ps => nmsP ps
  | .nm _ pl :: ps => pl :: nmsP ps
theorem nmsP_append : ∀ (a b : List Pc), nmsP (a ++ b) = nmsP a ++ nmsP b
  | [], b => rfl
  | .op _ _ :: a, b => nmsP_append a b
  | .nm _ pl :: a, b => congrArg (List.cons pl) (nmsP_append a b)
theorem namesF_fold : ∀ (ps : List Pc) (N : List (List Nat)), namesF N ps = (nmsP ps).foldl addN N
  | [], N => rfl
  | .op _ _ :: ps, N => namesF_fold ps N
  | .nm _ pl :: ps, N => namesF_fold ps (addN N pl)
theorem addN_pre (N : List (List Nat)) (pl : List Nat) : ∃ X, addN N pl = N ++ X := by
  unfold addN
  split
  · exact ⟨[], (List.append_nil _).symm⟩
  · exact ⟨_, rfl⟩
theorem namesF_pre : ∀ (ps : List Pc) (N : List (List Nat)), ∃ X, namesF N ps = N ++ X
  | [], N => ⟨[], (List.append_nil _).symm⟩
  | .op _ _ :: ps, N => namesF_pre ps N
  | .nm _ pl :: ps, N => by
    obtain ⟨X, e⟩ := addN_pre N pl
    obtain ⟨Y, e2⟩ := namesF_pre ps (addN N pl)
    exact ⟨X ++ Y, by rw [namesF, e2, e, List.append_assoc]⟩
theorem toksF_all : ∀ (ps : List Pc) (N : List (List Nat)), toksF N ps = ps.map (tokN (namesF N ps))
  | [], N => rfl
  | .op c _ :: ps, N => congrArg (List.cons c) (toksF_all ps N)
  | .nm raw pl :: ps, N => by
    obtain ⟨Y, e⟩ := namesF_pre ps (addN N pl)
    rw [toksF, toksF_all ps (addN N pl), List.map_cons, namesF]
    congr 1
    rw [tokN, e, List.idxOf_append, if_pos (mem_addN N pl)]
theorem mem_fold : ∀ (l : List (List Nat)) (N : List (List Nat)) (x : List Nat), x ∈ l.foldl addN N ↔ x ∈ N ∨ x ∈ l
  | [], N, x => by simp
  | y :: l, N, x => by
    rw [List.foldl_cons, mem_fold l (addN N y) x, List.mem_cons]
    have : x ∈ addN N y ↔ x ∈ N ∨ x = y := by
      unfold addN
      split
      · rename_i h
        exact ⟨.inl, fun h' => h'.elim id fun e => e ▸ h⟩
      · rw [List.mem_append, List.mem_singleton]
    rw [this, or_assoc]
end W2
end Mine
end

section
set_option Elab.async false
set_option linter.unusedVariables false
set_option linter.unusedSimpArgs false
namespace Mine
namespace W2
/-! the names of a bare term -/
noncomputable def Cm.nms : Cm → List Int
  | atom i => if i < 256 then [] else [i]
  | app a b => a.nms ++ b.nms
theorem wo_nms {x : Int} (hx : 256 ≤ x) : ∀ t : Cm, (t.wo x = none → t.nms.filter (· != x) = t.nms) ∧ ∀ h, t.wo x = some h → h.nms = t.nms.filter (· != x)
  | .atom i => by
    rw [Cm.wo, Cm.nms]
    by_cases hi : i = x
    · subst hi
      rw [if_pos rfl, if_neg (by (first | lia | omega))]
      refine ⟨fun h => (by cases h), fun h e => ?_⟩
      obtain rfl := Option.some.inj e
      rw [List.filter_cons, show (i != i) = false from bne_self_eq_false i]; rfl
    · rw [if_neg hi]
      refine ⟨fun _ => ?_, fun h e => (by cases e)⟩
      by_cases h2 : i < 256
      · rw [if_pos h2]; rfl
      · rw [if_neg h2, List.filter_cons, show (i != x) = true from bne_iff_ne.mpr hi]; rfl
  | .app l r => by
    obtain ⟨l1, l2⟩ := wo_nms hx l
    obtain ⟨r1, r2⟩ := wo_nms hx r
    rw [Cm.wo, show (Cm.app l r).nms = l.nms ++ r.nms from rfl, List.filter_append]
    cases hl : l.wo x with
    | none =>
      cases hr : r.wo x with
      | none => exact ⟨fun _ => by rw [l1 hl, r1 hr], fun h e => (by cases e)⟩
      | some r' =>
        refine ⟨fun h => (by cases h), fun h e => ?_⟩
        obtain rfl := Option.some.inj e
        rw [l1 hl, ← r2 _ hr]; rfl
    | some l' =>
      cases hr : r.wo x with
      | none =>
        refine ⟨fun h => (by cases h), fun h e => ?_⟩
        obtain rfl := Option.some.inj e
        rw [r1 hr, ← l2 _ hl]; rfl
      | some r' =>
        refine ⟨fun h => (by cases h), fun h e => ?_⟩
        obtain rfl := Option.some.inj e
        rw [← l2 _ hl, ← r2 _ hr]; rfl
theorem wo_okA {x : Int} {m : Nat} : ∀ (t h : Cm), t.okA m → t.wo x = some h → h.okA m
  | .atom i, h, ho, e => by
    rw [Cm.wo] at e
    by_cases hi : i = x
    · rw [if_pos hi] at e; obtain rfl := Option.some.inj e; exact .inl rfl
    · rw [if_neg hi] at e; cases e
  | .app l r, h, ho, e => by
    rw [Cm.wo] at e
    cases hl : l.wo x with
    | none =>
      cases hr : r.wo x with
      | none => rw [hl, hr] at e; cases e
      | some r' =>
        rw [hl, hr] at e
        obtain rfl := Option.some.inj e
        exact ⟨⟨.inr (.inl rfl), ho.1⟩, wo_okA r r' ho.2 hr⟩
    | some l' =>
      cases hr : r.wo x with
      | none =>
        rw [hl, hr] at e
        obtain rfl := Option.some.inj e
        exact ⟨⟨.inr (.inr (.inr (.inr (.inl rfl)))), wo_okA l l' ho.1 hl⟩, ho.2⟩
      | some r' =>
        rw [hl, hr] at e
        obtain rfl := Option.some.inj e
        exact ⟨⟨.inr (.inr (.inr (.inl rfl))), wo_okA l l' ho.1 hl⟩, wo_okA r r' ho.2 hr⟩
/-- every name that stands in a tree -/
noncomputable def Tr.all : Tr → List Nat
  | leaf k => [k]
  | app a b => a.all ++ b.all
  | dfn x a b => x :: (b.all ++ a.all)
theorem Tr.all_lt : ∀ t : Tr, t.ok → ∀ k ∈ t.all, k < 3
  | leaf k, h, j, hj => by rw [List.mem_singleton.mp hj]; exact h
  | app a b, h, j, hj => (List.mem_append.mp hj).elim (a.all_lt h.1 j) (b.all_lt h.2 j)
  | dfn x a b, h, j, hj => by
    rcases List.mem_cons.mp hj with rfl | hj
    · exact h.1
    · exact (List.mem_append.mp hj).elim (b.all_lt h.2.2 j) (a.all_lt h.2.1 j)
theorem Tr.free_all : ∀ t : Tr, ∀ k ∈ t.free, k ∈ t.all
  | leaf k, j, hj => hj
  | app a b, j, hj => List.mem_append.mpr ((List.mem_append.mp hj).imp (a.free_all j) (b.free_all j))
  | dfn x a b, j, hj => .tail _ (List.mem_append.mpr ((List.mem_append.mp hj).imp (fun h => b.free_all j (List.mem_filter.mp h).1) (a.free_all j)))
section
variable {ix : Nat → Nat} {m : Nat}
theorem Tr.bare_okA : ∀ t : Tr, (∀ k ∈ t.all, ix k < m) → (t.pt ix).bare.okA m
  | leaf k, h => .inr (.inr (.inr (.inr (.inr ⟨ix k, h k (.head _), rfl⟩))))
  | app a b, h => ⟨a.bare_okA fun k hk => h k (List.mem_append_left _ hk), b.bare_okA fun k hk => h k (List.mem_append_right _ hk)⟩
  | dfn x a b, h => by
    have hb := b.bare_okA fun k hk => h k (.tail _ (List.mem_append_left _ hk))
    refine ⟨?_, a.bare_okA fun k hk => h k (.tail _ (List.mem_append_right _ hk))⟩
    show (Pt.arr (256 + (ix x : Int)) (b.pt ix)).bare.okA m
    rw [Pt.bare]
    cases e : (b.pt ix).bare.wo (256 + (ix x : Int)) with
    | none => exact ⟨.inr (.inr (.inl rfl)), hb⟩
    | some h => exact wo_okA _ _ hb e
theorem okI_name (j : Nat) : okI (256 + (j : Int)) := ⟨by (first | lia | omega), by (first | lia | omega), by (first | lia | omega)⟩
theorem Tr.pt_okT : ∀ t : Tr, (t.pt ix).okT
  | leaf k => okI_name _
  | app a b => ⟨a.pt_okT, b.pt_okT⟩
  | dfn x a b => ⟨⟨okI_name _, b.pt_okT⟩, a.pt_okT⟩
theorem Tr.bare_nms (hi : ∀ a b, a < 3 → b < 3 → ix a = ix b → a = b) : ∀ t : Tr, t.ok → (t.pt ix).bare.nms = t.free.map fun k => 256 + (ix k : Int)
  | leaf k, h => by
    show (if (256 + (ix k : Int)) < 256 then [] else [256 + (ix k : Int)]) = _
    rw [if_neg (by (first | lia | omega))]; rfl
  | app a b, h => by
    show (a.pt ix).bare.nms ++ (b.pt ix).bare.nms = (a.free ++ b.free).map _
    rw [a.bare_nms hi h.1, b.bare_nms hi h.2, List.map_append]
  | dfn x a b, h => by
    have hb := b.bare_nms hi h.2.2
    have hw := wo_nms (x := 256 + (ix x : Int)) (by (first | lia | omega)) (b.pt ix).bare
    have e : (Pt.arr (256 + (ix x : Int)) (b.pt ix)).bare.nms = (b.pt ix).bare.nms.filter (· != 256 + (ix x : Int)) := by
      rw [Pt.bare]
      cases e : (b.pt ix).bare.wo (256 + (ix x : Int)) with
      | none => exact (hw.1 e).symm
      | some t => exact hw.2 t e
    have e2 : (b.free.map fun k => 256 + (ix k : Int)).filter (· != 256 + (ix x : Int)) = (b.free.filter (· != x)).map fun k => 256 + (ix k : Int) := by
      rw [List.filter_map]
      congr 1
      apply List.filter_congr
      intro k hk
      rw [Function.comp_apply, Bool.eq_iff_iff, bne_iff_ne, bne_iff_ne]
      exact ⟨fun h1 h2 => h1 (by rw [h2]), fun h1 h2 => h1 (hi _ _ (b.all_lt h.2.2 k (b.free_all k hk)) h.1 (by (first | lia | omega)))⟩
    show (Pt.arr (256 + (ix x : Int)) (b.pt ix)).bare.nms ++ (a.pt ix).bare.nms = (b.free.filter (· != x) ++ a.free).map _
    rw [e, hb, e2, a.bare_nms hi h.2.1, List.map_append]
end
/-! the pieces of a bare term -/
noncomputable def Cm.pt : Cm → Pt
  | atom i => .atom i
  | app a b => .app a.pt b.pt
theorem Cm.pt_v : ∀ t : Cm, t.pt.v = t.v
  | atom i => rfl
  | app a b => by simp only [pt, Pt.v, v, a.pt_v, b.pt_v]
noncomputable def Cm.pcl (N : List (List Nat)) : Cm → List Pc
  | atom i => if i < 256 then [.op i.toNat (opS i)] else [.nm (joinL [8288] ((N.getD (i - 256).toNat []).map fun c => [c])) (N.getD (i - 256).toNat [])]
  | app a b => .op 49 [64] :: (a.pcl N ++ b.pcl N)
theorem Cm.pcl_txt (N : List (List Nat)) : ∀ t : Cm, (t.pcl N).map Pc.txt = t.signs N
  | atom i => by
    rw [pcl, signs]
    by_cases h : i < 256
    · rw [if_pos h, if_pos h]; rfl
    · rw [if_neg h, if_neg h]; rfl
  | app a b => by rw [pcl, signs, List.map_cons, List.map_append, a.pcl_txt, b.pcl_txt]; rfl
theorem Cm.pcl_nms (N : List (List Nat)) : ∀ t : Cm, nmsP (t.pcl N) = t.nms.map fun i => N.getD (i - 256).toNat []
  | atom i => by
    rw [pcl, nms]
    by_cases h : i < 256
    · rw [if_pos h, if_pos h]; rfl
    · rw [if_neg h, if_neg h]; rfl
  | app a b => by
    rw [pcl, nms, List.map_append, ← a.pcl_nms, ← b.pcl_nms, ← nmsP_append]; rfl
/-- the names by their new places -/
noncomputable def toNew (N N' : List (List Nat)) (i : Int) : Cm := .atom (256 + (N'.idxOf (N.getD (i - 256).toNat []) : Int))
theorem Cm.pcl_toks (N N' : List (List Nat)) : ∀ t : Cm, (t.pcl N).map (tokN N') = (t.sub (toNew N N')).pt.toks
  | atom i => by
    rw [pcl, sub]
    by_cases h : i < 256
    · rw [if_pos h, if_pos h]; rfl
    · rw [if_neg h, if_neg h]
      show [256 + N'.idxOf (N.getD (i - 256).toNat [])] = [(256 + (N'.idxOf (N.getD (i - 256).toNat []) : Int)).toNat]
      congr 1
  | app a b => by
    rw [pcl, List.map_cons, List.map_append, a.pcl_toks, b.pcl_toks]; rfl
theorem Cm.sub_okT {N N' : List (List Nat)} {m : Nat} : ∀ t : Cm, t.okA m → (t.sub (toNew N N')).pt.okT
  | atom i, h => by
    show ((if i < 256 then Cm.atom i else toNew N N' i).pt).okT
    by_cases h2 : i < 256
    · rw [if_pos h2]
      rcases h with rfl | rfl | rfl | rfl | rfl | ⟨j, _, rfl⟩ <;> first | exact ⟨by decide, by decide, by decide⟩ | (exfalso; (first | lia | omega))
    · rw [if_neg h2]; exact okI_name _
  | app a b, h => ⟨a.sub_okT h.1, b.sub_okT h.2⟩
theorem Cm.pcl_ok {T : Tabs} {N : List (List Nat)} (hN : ∀ x ∈ N, Pc.ok T (.nm (joinL [8288] (x.map fun c => [c])) x)) : ∀ t : Cm, t.okA N.length → ∀ p ∈ t.pcl N, p.ok T
  | atom i, h, p, hp => by
    rw [pcl] at hp
    by_cases h2 : i < 256
    · rw [if_pos h2] at hp
      rw [List.mem_singleton.mp hp]
      show (opS i, i.toNat) ∈ ops
      rcases h with rfl | rfl | rfl | rfl | rfl | ⟨j, _, rfl⟩ <;> first | decide | (exfalso; (first | lia | omega))
    · rw [if_neg h2] at hp
      rw [List.mem_singleton.mp hp]
      obtain ⟨j, hj, rfl⟩ : ∃ j : Nat, j < N.length ∧ i = 256 + (j : Int) := by
        rcases h with rfl | rfl | rfl | rfl | rfl | h <;> first | exact h | (exfalso; (first | lia | omega))
      rw [show ((256 + (j : Int)) - 256).toNat = j by (first | lia | omega), List.getD_eq_getElem?_getD, List.getElem?_eq_getElem hj]
      exact hN _ (List.getElem_mem hj)
  | app a b, h, p, hp => by
    rcases List.mem_cons.mp hp with rfl | hp
    · exact .head _
    · rcases List.mem_append.mp hp with hp | hp
      · exact a.pcl_ok hN h.1 p hp
      · exact b.pcl_ok hN h.2 p hp
theorem Cm.pcl_len (N : List (List Nat)) (t : Cm) : (t.pcl N).length = t.cnt := by
  rw [← t.signs_len N, ← t.pcl_txt N, List.length_map]
end W2
end Mine
end

section
set_option Elab.async false
set_option linter.unusedVariables false
set_option linter.unusedSimpArgs false
namespace Mine
namespace W2
theorem getD_idx : ∀ (N : List (List Nat)) (x : List Nat), x ∈ N → N.getD (N.idxOf x) [] = x ∧ N.idxOf x < N.length
  | [], x, h => by cases h
  | y :: N, x, h => by
    rw [List.idxOf_cons]
    by_cases e : y = x
    · subst e
      rw [show (y == y) = true from beq_self_eq_true y]
      exact ⟨rfl, Nat.succ_pos _⟩
    · rw [show (y == x) = false from beq_eq_false_iff_ne.mpr e]
      have hx : x ∈ N := (List.mem_cons.mp h).resolve_left fun h => e h.symm
      obtain ⟨h1, h2⟩ := getD_idx N x hx
      exact ⟨h1, Nat.succ_lt_succ h2⟩
section
variable (R : List Nat)
theorem kmp_inj : ∀ k, k < 3 → ∀ j, j < 3 → kmp.getD k 0 = kmp.getD j 0 → k = j := by decide
theorem mn_inj {k j : Nat} (hk : k < 3) (hj : j < 3) (h : mn R k = mn R j) : k = j := kmp_inj k hk j hj (List.cons.inj h).1
theorem Tr.pcl_nms : ∀ (t : Tr) (n : Nat), nmsP (t.pcl R n) = t.all.map (mn R)
  | leaf k, n => rfl
  | app a b, n => by
    show nmsP (a.pcl R (n + 1) ++ b.pcl R (n + 1 + a.cnt)) = (a.all ++ b.all).map (mn R)
    rw [nmsP_append, a.pcl_nms, b.pcl_nms, List.map_append]
  | dfn x a b, n => by
    show mn R x :: nmsP (b.pcl R (n + 3) ++ a.pcl R (n + 3 + b.cnt)) = mn R x :: (b.all ++ a.all).map (mn R)
    rw [nmsP_append, a.pcl_nms, b.pcl_nms, List.map_append]
theorem Tr.pcl_toks {N : List (List Nat)} {ix : Nat → Nat} : ∀ (t : Tr) (n : Nat), (∀ k ∈ t.all, ix k = N.idxOf (mn R k)) → (t.pcl R n).map (tokN N) = (t.pt ix).toks
  | leaf k, n, h => by
    show [256 + N.idxOf (mn R k)] = [(256 + (ix k : Int)).toNat]
    rw [h k (.head _)]
    congr 1
  | app a b, n, h => by
    rw [pcl, List.map_cons, List.map_append, a.pcl_toks _ fun k hk => h k (List.mem_append_left _ hk), b.pcl_toks _ fun k hk => h k (List.mem_append_right _ hk)]; rfl
  | dfn x a b, n, h => by
    rw [pcl, List.map_cons, List.map_cons, List.map_cons, List.map_append, a.pcl_toks _ fun k hk => h k (.tail _ (List.mem_append_right _ hk)), b.pcl_toks _ fun k hk => h k (.tail _ (List.mem_append_left _ hk))]
    show 49 :: 51 :: (256 + N.idxOf (mn R x)) :: _ = 49 :: ((51 :: (256 + (ix x : Int)).toNat :: _) ++ _)
    rw [h x (.head _), show (256 + ((N.idxOf (mn R x) : Nat) : Int)).toNat = 256 + N.idxOf (mn R x) by (first | lia | omega)]; rfl
/-- a name's place, made up for those that are not there -/
noncomputable def ixF (N : List (List Nat)) (k : Nat) : Nat := if mn R k ∈ N then N.idxOf (mn R k) else N.length + k
theorem ixF_in {N : List (List Nat)} {k : Nat} (h : mn R k ∈ N) : ixF R N k = N.idxOf (mn R k) := if_pos h
theorem ixF_inj (N : List (List Nat)) : ∀ a b, a < 3 → b < 3 → ixF R N a = ixF R N b → a = b := by
  intro a b ha hb h
  unfold ixF at h
  by_cases h1 : mn R a ∈ N
  · have g1 := getD_idx N _ h1
    rw [if_pos h1] at h
    by_cases h2 : mn R b ∈ N
    · have g2 := getD_idx N _ h2
      rw [if_pos h2] at h
      rw [h] at g1
      exact mn_inj R ha hb (g1.1.symm.trans g2.1)
    · rw [if_neg h2] at h; (first | lia | omega)
  · rw [if_neg h1] at h
    by_cases h2 : mn R b ∈ N
    · have g2 := getD_idx N _ h2
      rw [if_pos h2] at h; (first | lia | omega)
    · rw [if_neg h2] at h; (first | lia | omega)
/-! the names that are left -/
noncomputable def addD (D : List Nat) (k : Nat) : List Nat := if k ∈ D then D else D ++ [k]
noncomputable def all16 : List (List Nat) := [[], [0], [1], [2], [0, 1], [0, 2], [1, 0], [1, 2], [2, 0], [2, 1], [0, 1, 2], [0, 2, 1], [1, 0, 2], [1, 2, 0], [2, 0, 1], [2, 1, 0]]
theorem step16 : ∀ D ∈ all16, ∀ k, k < 3 → addD D k ∈ all16 := by decide
theorem lt16 : ∀ D ∈ all16, ∀ k ∈ D, k < 3 := by decide
theorem fold16 : ∀ (l D : List Nat), (∀ k ∈ l, k < 3) → D ∈ all16 → l.foldl addD D ∈ all16
  | [], D, h, hD => hD
  | k :: l, D, h, hD => fold16 l (addD D k) (fun j hj => h j (.tail _ hj)) (step16 D hD k (h k (.head _)))
theorem mem_addD : ∀ (l D : List Nat) (x : Nat), x ∈ l.foldl addD D ↔ x ∈ D ∨ x ∈ l
  | [], D, x => by simp
  | y :: l, D, x => by
    rw [List.foldl_cons, mem_addD l (addD D y) x, List.mem_cons]
    have : x ∈ addD D y ↔ x ∈ D ∨ x = y := by
      unfold addD
      split
      · rename_i h
        exact ⟨.inl, fun h' => h'.elim id fun e => e ▸ h⟩
      · rw [List.mem_append, List.mem_singleton]
    rw [this, or_assoc]
theorem fold_map : ∀ (l D : List Nat), (∀ k ∈ l, k < 3) → D ∈ all16 → (l.map (mn R)).foldl addN (D.map (mn R)) = (l.foldl addD D).map (mn R)
  | [], D, h, hD => rfl
  | k :: l, D, h, hD => by
    have hk := h k (.head _)
    have e : addN (D.map (mn R)) (mn R k) = (addD D k).map (mn R) := by
      unfold addN addD
      by_cases hm : k ∈ D
      · rw [if_pos hm, if_pos (List.mem_map_of_mem hm)]
      · rw [if_neg hm, if_neg (fun h' => by
          obtain ⟨j, hj, ej⟩ := List.mem_map.mp h'
          exact hm (mn_inj R (lt16 D hD j hj) hk ej ▸ hj)), List.map_append]; rfl
    rw [List.map_cons, List.foldl_cons, List.foldl_cons, e]
    exact fold_map l (addD D k) (fun j hj => h j (.tail _ hj)) (step16 D hD k hk)
theorem sort16 (f : Nat → List Nat) (D : List Nat) (h : D ∈ all16) : sortLex (D.map fun k => kmp.getD k 0 :: f k) = ([0, 1, 2].filter fun k => D.contains k).map fun k => kmp.getD k 0 :: f k := by
  simp only [all16, List.mem_cons, List.not_mem_nil, or_false] at h
  rcases h with rfl | rfl | rfl | rfl | rfl | rfl | rfl | rfl | rfl | rfl | rfl | rfl | rfl | rfl | rfl | rfl <;> rfl
theorem len16 : ∀ D ∈ all16, D.length ≤ 3 := by decide
/-- the names of a tree that are free, each once -/
noncomputable def left (t : Tr) : List (List Nat) := (t.free.map (mn R)).foldl addN []
structure LeftOk (t : Tr) (N : List (List Nat)) : Prop where
  sorted : sortLex N = ([0, 1, 2].filter fun k => t.free.contains k).map (mn R)
  len : N.length ≤ 3
  mem : ∀ k ∈ t.free, mn R k ∈ N
theorem left_is (t : Tr) (ht : t.ok) : LeftOk R t (left R t) := by
  have h3 : ∀ k ∈ t.free, k < 3 := fun k hk => t.all_lt ht k (t.free_all k hk)
  have e : left R t = (t.free.foldl addD []).map (mn R) := fold_map R t.free [] h3 (by decide)
  have h16 := fold16 t.free [] h3 (by decide)
  refine ⟨?_, ?_, fun k hk => ?_⟩
  · rw [e]
    refine (sort16 (fun k => endings.getD (R.getD k 0 / 3 % 6) []) _ h16).trans ?_
    have : ([0, 1, 2].filter fun k => (t.free.foldl addD []).contains k) = [0, 1, 2].filter fun k => t.free.contains k := by
      apply List.filter_congr
      intro k _
      rw [Bool.eq_iff_iff, List.contains_iff_mem, List.contains_iff_mem, mem_addD]
      exact ⟨fun h => h.resolve_left (List.not_mem_nil), .inr⟩
    rw [this]; rfl
  · rw [e, List.length_map]; exact len16 _ h16
  · rw [e]
    exact List.mem_map_of_mem ((mem_addD _ _ _).mpr (.inr hk))
end
/-! a value is equal to itself -/
theorem U.eqq_self (N : List (List Nat)) : ∀ (u : U) (n : Nat), u.rd < n → V.eqq n (u.v N) (u.v N) = some true
  | nm j, n, h => by rw [U.v, eqq_str, beq_self_eq_true]
  | ap a b, 0, h => absurd h (Nat.not_lt_zero _)
  | ap a b, n + 1, h => by
    have r1 : a.rd ≤ Nat.max a.rd b.rd := Nat.le_max_left _ _
    have r2 : b.rd ≤ Nat.max a.rd b.rd := Nat.le_max_right _ _
    have r3 : (U.ap a b).rd = Nat.max a.rd b.rd + 1 := rfl
    rw [U.v, eqq_tup, eqqs_cons, a.eqq_self N n (by (first | lia | omega))]
    show eqqs (V.eqq n) [b.v N] [b.v N] = some true
    rw [eqqs_cons, b.eqq_self N n (by (first | lia | omega))]
    rfl
theorem U.eqV_self (N : List (List Nat)) (u : U) (h : u.rd < 60) (σ : Store) : eqV σ (u.v N) (u.v N) = some true := by
  cases u with
  | nm j => rw [U.v, eqV_str, beq_self_eq_true]
  | ap a b => exact (eqV_tup σ _ _).trans (U.eqq_self N (.ap a b) 60 h)
end W2
end Mine
end

section
set_option Elab.async false
set_option linter.unusedVariables false
set_option linter.unusedSimpArgs false
namespace Mine
namespace W2
section
variable {b3 : List (Int × List Nat)}
/-- pieces laid in a line and read again -/
theorem pass {ps : List Pc} (hok : ∀ p ∈ ps, p.ok (TT b3)) (hl : ps.length ≤ 5000) {S : List Pt} (hS : runS (toksF [] ps ++ [0]) [] = some S) {ρ : REnv} {σ₀ σ : Store} {p n i : Nat} (hp : σ[p]? = some (strL (ps.map Pc.txt))) (hn : σ[n]? = some []) (hi : ρ[i]? = some (some (.lst n)))
    {e : Ex} (he : ev (TT b3) (callD (TT b3) fns 80) ρ σ₀ e = some (.lst p, σ)) :
    ∃ q τ, ev (TT b3) (callD (TT b3) fns 80) ρ σ₀ (Ex.call 15 (Exs.cons (Ex.call 14 (Exs.cons (Ex.call 13 (Exs.cons e Exs.nil)) (Exs.cons (Ex.var i) Exs.nil))) Exs.nil)) = some (.lst q, τ) ∧ τ[q]? = some (pileV S) ∧ τ[n]? = some (strL (namesF [] ps)) ∧ σ.length ≤ τ.length ∧ ∀ k, k < σ.length → k ≠ n → τ[k]? = σ[k]? := by
  have hline := line_ok (TT b3) 79 hp (fun x hx => by
    obtain ⟨q, hq, rfl⟩ := List.mem_map.mp hx
    exact txt_len b3 (hok q hq)) (by rw [List.length_map]; (first | lia | omega))
  obtain ⟨m, τ₁, g1, g2, g3, g4, g5, g6⟩ := read_ok b3 78 hok hl (N := []) hn (Nat.zero_le _)
  have htl : (toksF [] ps).length = ps.length := by rw [toksF_all, List.length_map]
  obtain ⟨q, τ₂, k1, k2, k3, k4, k5⟩ := trees_ok (TT b3) 78 g2 hS (by rw [List.length_append, htl, List.length_singleton]; (first | lia | omega))
  have hnl : n < σ.length := (List.getElem?_eq_some_iff.mp hn).1
  exact ⟨q, τ₂, call1 (TT b3) (call2 (TT b3) (call1 (TT b3) he hline) (ev_var (TT b3) hi) g1) k1, k2, (k5 n (by (first | lia | omega))).trans g3, by (first | lia | omega), fun k hk hne => (k5 k (by (first | lia | omega))).trans (g6 k hk hne)⟩
end
section
variable (R : List Nat)
/-- the names of the first reading -/
noncomputable def NF (t : Tr) : List (List Nat) := namesF [] (t.pcl R 0)
noncomputable def ixT (t : Tr) : Nat → Nat := ixF R (NF R t)
noncomputable def bareT (t : Tr) : Cm := (t.pt (ixT R t)).bare
noncomputable def newT (t : Tr) : Cm := (bareT R t).sub (toNew (NF R t) (left R t))
noncomputable def rhoT (t : Tr) (k : Nat) : U := .nm ((left R t).idxOf ((NF R t).getD ((256 + (ixT R t k : Int)) - 256).toNat []))
theorem NF_mem (t : Tr) (x : List Nat) : x ∈ NF R t ↔ x ∈ t.all.map (mn R) := by
  rw [NF, namesF_fold, mem_fold, t.pcl_nms]
  exact ⟨fun h => h.resolve_left (List.not_mem_nil), .inr⟩
theorem mn_NF {t : Tr} {k : Nat} (h : k ∈ t.all) : mn R k ∈ NF R t := (NF_mem R t _).mpr (List.mem_map_of_mem h)
theorem first_run (t : Tr) : runS (toksF [] (t.pcl R 0) ++ [0]) [] = some [t.pt (ixT R t)] := by
  have e : toksF [] (t.pcl R 0) = (t.pt (ixT R t)).toks := by
    rw [toksF_all]
    exact t.pcl_toks R 0 fun k hk => ixF_in R (mn_NF R hk)
  rw [e]
  exact runS_whole _ t.pt_okT
theorem bareT_okA (t : Tr) : (bareT R t).okA (NF R t).length := t.bare_okA fun k hk => by
  rw [ixT, ixF_in R (mn_NF R hk)]
  exact (getD_idx _ _ (mn_NF R hk)).2
theorem back (t : Tr) {k : Nat} (h : k ∈ t.all) : (NF R t).getD ((256 + (ixT R t k : Int)) - 256).toNat [] = mn R k := by
  rw [show ((256 + (ixT R t k : Int)) - 256).toNat = ixT R t k by (first | lia | omega), ixT, ixF_in R (mn_NF R h)]
  exact (getD_idx _ _ (mn_NF R h)).1
theorem second_names (t : Tr) (ht : t.ok) : namesF [] ((bareT R t).pcl (NF R t)) = left R t := by
  rw [namesF_fold, Cm.pcl_nms, bareT, t.bare_nms (ix := ixT R t) (ixF_inj R _) ht, List.map_map, left]
  congr 1
  apply List.map_congr_left
  intro k hk
  exact back R t (t.free_all k hk)
theorem second_run (t : Tr) (ht : t.ok) : runS (toksF [] ((bareT R t).pcl (NF R t)) ++ [0]) [] = some [(newT R t).pt] := by
  rw [toksF_all, second_names R t ht, Cm.pcl_toks]
  exact runS_whole _ ((bareT R t).sub_okT (bareT_okA R t))
theorem second_ok {b3 : List (Int × List Nat)} (K : B3 b3) (t : Tr) (ht : t.ok) : ∀ p ∈ (bareT R t).pcl (NF R t), p.ok (TT b3) :=
  (bareT R t).pcl_ok (fun x hx => by
    obtain ⟨k, hk, rfl⟩ := List.mem_map.mp ((NF_mem R t x).mp hx)
    have he : R.getD k 0 / 3 % 6 < 6 := Nat.mod_lt _ (by decide)
    have h := meant_all k (t.all_lt ht k hk) _ he
    have hl := meantS_len k (R.getD k 0 / 3 % 6)
    exact nm_ok K h.1 (Nat.le_trans (joinL_len 8288 _) (by show 2 * (meantS k (R.getD k 0 / 3 % 6)).length ≤ 200; (first | lia | omega))) (Nat.le_trans hl (by decide)) h.2) (bareT_okA R t)
theorem NF_len (t : Tr) : ∀ x ∈ NF R t, x.length ≤ 100 := fun x hx => by
  obtain ⟨k, hk, rfl⟩ := List.mem_map.mp ((NF_mem R t x).mp hx)
  exact Nat.le_trans (meantS_len _ _) (by decide)
theorem new_Dn (t : Tr) (ht : t.ok) : Dn (0 + 3 * t.sz) (1 * t.M (ixT R t) - 1) (newT R t) (t.uv (rhoT R t)) :=
  sem (ixF_inj R _) t (toNew (NF R t) (left R t)) (rhoT R t) 0 1 ht (Nat.le_refl _) fun k _ => ⟨_, [], .nm _ _ _ _, .nil _⟩
theorem new_val (t : Tr) (ht : t.ok) : (t.uv (rhoT R t)).has (left R t).length ∧ (t.uv (rhoT R t)).v (left R t) = t.val (strL [mn R 0, mn R 1, mn R 2]) :=
  uv_val (left R t) t (rhoT R t) _ ht rfl fun k hk => by
    have hm := (left_is R t ht).mem k hk
    have hg := getD_idx _ _ hm
    have e : (rhoT R t k) = .nm ((left R t).idxOf (mn R k)) := by rw [rhoT, back R t (t.free_all k hk)]
    rw [e]
    refine ⟨hg.2, ?_⟩
    rw [U.v, hg.1]
    have h3 := t.all_lt ht k (t.free_all k hk)
    match k, h3 with
    | 0, _ => rfl
    | 1, _ => rfl
    | 2, _ => rfl
theorem new_rd (t : Tr) : (t.uv (rhoT R t)).rd ≤ 0 + t.sz := t.rd_le _ 0 fun k => Nat.le_refl _
end
end W2
end Mine
end

section
set_option Elab.async false
set_option linter.unusedVariables false
set_option linter.unusedSimpArgs false
namespace Mine
namespace W2
noncomputable abbrev EL (xs : List Int) (tv : V) (a3 a4 a5 a6 a7 a8 a9 : Option V) : REnv := [some (.ro xs), some (.lst 0), some tv, a3, a4, a5, a6, a7, a8, a9]
section
variable {T : Tabs} {C : Calls} {xs : List Int} {tv : V} {a3 a4 a5 a6 a7 a8 a9 : Option V}
noncomputable def elt4 : Ex := Ex.bin (Bop.add) (Ex.bin (Bop.item) (Ex.str [107, 109, 112]) (Ex.var 10)) (Ex.bin (Bop.item) (Ex.var 3) (Ex.bin (Bop.mod) (Ex.bin (Bop.fdiv) (Ex.bin (Bop.item) (Ex.var 1) (Ex.var 10)) (Ex.int 3)) (Ex.int 6)))
theorem endings_ok {ρ : REnv} {σ : Store} : ev T C ρ σ (Ex.tup (Exs.cons (Ex.str [34]) (Exs.cons (Ex.str [34, 34]) (Exs.cons (Ex.str [42, 42]) (Exs.cons (Ex.str [115, 115]) (Exs.cons (Ex.str [115, 116]) (Exs.cons (Ex.str [64]) (Exs.nil)))))))) = some (.tup (strL endings), σ) := by
  have hL : (6 : Nat) ≤ LIM := by decide
  simp only [ev, evs, List.length_cons, List.length_nil, if_pos hL]; rfl
theorem range3 {ρ : REnv} {σ : Store} : ev T C ρ σ (Ex.un (Uop.range) (Ex.int 3)) = some (.rng 0 1 3, σ) := (ev_un2 (ev_int T)).trans (evU_range (k := 3) (by decide))
theorem meant_ok {R : List Nat} (hR : RowOk R) {τ : Store} (r1 : τ[0]? = some (intL R)) : ev T C (EL xs tv (some (.tup (strL endings))) a4 a5 a6 a7 a8 a9) τ (Ex.comp (Ex.un (Uop.range) (Ex.int 3)) elt4) = some (.lst τ.length, τ ++ [strL [mn R 0, mn R 1, mn R 2]]) := by
  have hLim : LIM = 16777216 := rfl
  refine ev_comp_intro (Z := .fix (rangeL 0 1 3)) (σ₁ := τ) range3 rfl (comp_range (n := 3) (fun j => some (.str (mn R j))) fun j hj => ?_) (show (3 : Nat) ≤ LIM by decide)
  have hl := hR.len
  have he : R.getD j 0 / 3 % 6 < 6 := Nat.mod_lt _ (by decide)
  have e1 := (ev_bin2 (ev_str T (C := C) (ρ := EL xs tv (some (.tup (strL endings))) a4 a5 a6 a7 a8 a9 ++ [some (.int (j : Int))]) (σ := τ) (l := [107, 109, 112])) (ev_var T (i := 10) rfl)).trans (evB_item_str (place_nat' hj) (getD_some (d := 0) hj))
  have e2 := (ev_bin2 (ev_var T (C := C) (ρ := EL xs tv (some (.tup (strL endings))) a4 a5 a6 a7 a8 a9 ++ [some (.int (j : Int))]) (σ := τ) (i := 1) rfl) (ev_var T (i := 10) rfl)).trans (evB_item_lst r1 (v := .int (R.getD j 0 : Nat)) (place_nat' (by rw [List.length_map]; (first | lia | omega))) (by rw [intL, List.getElem?_map, getD_some (d := 0) (by (first | lia | omega))]; rfl))
  have e3 := (ev_bin2 ((ev_bin2 e2 (ev_int T (i := 3))).trans (evB_fdivN _ 3 (by decide) (by decide))) (ev_int T (i := 6))).trans (evB_modN _ 6 (by decide))
  have e4 := (ev_bin2 (ev_var T (i := 3) rfl) e3).trans (evB_item_tup (l := strL endings) (v := .str (endings.getD (R.getD j 0 / 3 % 6) [])) (place_nat' he) (by rw [strL, List.getElem?_map, getD_some (d := []) (show R.getD j 0 / 3 % 6 < endings.length from he)]; rfl))
  have hlen := meantS_len j (R.getD j 0 / 3 % 6)
  exact cF_some ((ev_bin2 e1 e4).trans (evB_add_str (by
    have : ([([107, 109, 112] : List Nat).getD j 0] ++ endings.getD (R.getD j 0 / 3 % 6) []).length ≤ 4 := hlen
    rw [List.length_append] at this; (first | lia | omega))))
theorem pick3 (p : Nat → Bool) (f : Nat → List Nat) : (List.range 3).filterMap (fun j => if p j = true then some (V.str (f j)) else none) = strL (([0, 1, 2].filter p).map f) := by
  show ([0, 1, 2] : List Nat).filterMap _ = _
  simp only [List.filterMap_cons, List.filter_cons, List.filterMap_nil, List.filter_nil]
  cases p 0 <;> cases p 1 <;> cases p 2 <;> rfl
theorem picked_ok {R F : List Nat} {τ : Store} {n4 n9 : Nat} (h4 : τ[n4]? = some (strL [mn R 0, mn R 1, mn R 2])) (h9 : τ[n9]? = some (intL F)) : ev T C (EL xs tv a3 (some (.lst n4)) a5 a6 a7 a8 (some (.lst n9))) τ (Ex.compIf (Ex.un (Uop.range) (Ex.int 3)) (Ex.bin (Bop.inn) (Ex.var 10) (Ex.var 9)) (Ex.bin (Bop.item) (Ex.var 4) (Ex.var 10))) = some (.lst τ.length, τ ++ [strL (([0, 1, 2].filter fun k => F.contains k).map (mn R))]) := by
  rw [← pick3]
  refine ev_compIf_intro (Z := .fix (rangeL 0 1 3)) (σ₁ := τ) range3 rfl (comp_range (n := 3) (fun j => if F.contains j = true then some (.str (mn R j)) else none) fun j hj => ?_) (Nat.le_trans (List.length_filterMap_le _ _) (by decide))
  have hc := (ev_bin2 (ev_var T (C := C) (ρ := EL xs tv a3 (some (.lst n4)) a5 a6 a7 a8 (some (.lst n9)) ++ [some (.int (j : Int))]) (σ := τ) (i := 10) rfl) (ev_var T (i := 9) rfl)).trans (evB_inn_nat (x := j) h9)
  by_cases h : j ∈ F
  · rw [if_pos (List.contains_iff_mem.mpr h)]
    rw [decide_eq_true h] at hc
    refine cIf_true hc ((ev_bin2 (ev_var T rfl) (ev_var T rfl)).trans (evB_item_lst h4 (place_nat' hj) ?_))
    match j, hj with
    | 0, _ => rfl
    | 1, _ => rfl
    | 2, _ => rfl
  · rw [if_neg fun e => h (List.contains_iff_mem.mp e)]
    rw [decide_eq_false h] at hc
    exact cIf_false hc
theorem one_ok {τ : Store} {i p : Nat} {q : Pt} {ρ : REnv} (hi : ρ[i]? = some (some (.lst p))) (hp : τ[p]? = some (pileV [q])) : ev T C ρ τ (Ex.bin (Bop.ne) (Ex.un (Uop.len) (Ex.var i)) (Ex.int 1)) = some (.bool false, τ) :=
  (ev_bin2 ((ev_un2 (ev_var T hi)).trans (evU_len_lst hp)) (ev_int T)).trans rfl
theorem first_of {τ : Store} {i p : Nat} {q : Pt} {ρ : REnv} (hi : ρ[i]? = some (some (.lst p))) (hp : τ[p]? = some (pileV [q])) : ev T C ρ τ (Ex.bin (Bop.item) (Ex.var i) (Ex.int 0)) = some (q.v, τ) :=
  (ev_bin2 (ev_var T hi) (ev_int T)).trans (evB_item_lst (k := 0) hp rfl rfl)
theorem sorted_ok {τ : Store} {i n : Nat} {N : List (List Nat)} {ρ : REnv} (hi : ρ[i]? = some (some (.lst n))) (hn : τ[n]? = some (strL N)) (hl : N.length ≤ 10) : ev T C ρ τ (Ex.un (Uop.sorted) (Ex.var i)) = some (.lst τ.length, τ ++ [strL (sortLex N)]) := by
  refine (ev_un2 (ev_var T hi)).trans ?_
  show uLst τ (fun _ xs => if xs.all isStr ∧ xs.length ≤ 10 then some (.lst τ.length, τ ++ [(sortLex (xs.map strOf)).map .str]) else none) (.lst n) = _
  rw [uLst_of hn, if_pos ⟨strs_all N, by rw [List.length_map]; exact hl⟩, strs_map]
theorem eqFlat_self : ∀ A : List (List Nat), eqFlat (strL A) (strL A) = some true
  | [] => rfl
  | a :: A => by
    show eqFlat (V.str a :: strL A) (V.str a :: strL A) = some true
    rw [eqFlat_cons, flat1_str, beq_self_eq_true, eqFlat_self A]; rfl
theorem same_ok {τ : Store} {m n : Nat} {A : List (List Nat)} (hm : τ[m]? = some (strL A)) (hn : τ[n]? = some (strL A)) : evB .ne (.lst m) (.lst n) τ = some (.bool false, τ) := by
  show orE none (orE none (bLst τ (fun xs ys => (eqList xs ys).map fun r => (V.bool (!r), τ)) (.lst m) (.lst n))) = _
  have : eqList (strL A) (strL A) = some true := by unfold eqList; rw [if_pos rfl]; exact eqFlat_self A
  rw [bLst, uLst_of hm, uLst_of hn, this]; rfl
theorem or_no {ρ : REnv} {σ σ₁ σ₂ : Store} {a b : Ex} (ha : ev T C ρ σ a = some (.bool false, σ₁)) (hb : ev T C ρ σ₁ b = some (.bool false, σ₂)) : ev T C ρ σ (.or a b) = some (.bool false, σ₂) := by
  rw [ev, ha]; simp only [hb]
theorem skip' {ρ : REnv} {σ σ₁ : Store} {c : Ex} {a r : Sts} (h : ev T C ρ σ c = some (.bool false, σ₁)) : exs T C ρ σ (.cons (.ite c a .nil) r) = exs T C ρ σ₁ r :=
  exs_next ((exs_ite h).trans exs_nil)
end
theorem small0 {c m b : Nat} (h : c ≤ m) (hb : m < b) : ([] : List (List Nat)).length + c < b := by rw [List.length_nil, Nat.zero_add]; exact Nat.lt_of_le_of_lt h hb
theorem ne_next {a b : Nat} (h : a + 2 ≤ b) : a ≠ b + 1 := by (first | lia | omega)
theorem turn1 {m : Nat} (h : m ≤ 32768) : 1 * m - 1 < 99999 := by (first | lia | omega)
theorem turn2 {m : Nat} (h : m ≤ 32768) : (0 + 3 * 5) * (1 * m - 1 + 1) < 9000000 := by (first | lia | omega)
theorem law20 {b3 : List (Int × List Nat)} (K : B3 b3) (xs : List Int) (σ : Store) : callD (TT b3) fns 81 20 [.ro xs] σ = some (.bool true, σ) := by
  obtain ⟨R, hR, hnum⟩ := numbers_ok (TT b3) 79 xs []
  obtain ⟨t, τ₁, ht, hsz, hdr, hf1⟩ := drawn_ok (TT b3) 79 hR (σ := [intL R]) (r := 0) rfl
  have r1 : τ₁[0]? = some (intL R) := hf1.2 0 (Nat.succ_pos _)
  have l1 : 1 ≤ τ₁.length := hf1.1
  -- the tree and the known names
  let C := callD (TT b3) fns 80
  have h4 := meant_ok (T := TT b3) (C := C) (xs := xs) (tv := t.v) (a4 := none) (a5 := none) (a6 := none) (a7 := none) (a8 := none) (a9 := none) hR r1
  have n4 : (τ₁ ++ [strL [mn R 0, mn R 1, mn R 2]])[τ₁.length]? = some (strL [mn R 0, mn R 1, mn R 2]) := at_last
  generalize hτ2 : τ₁ ++ [strL [mn R 0, mn R 1, mn R 2]] = τ₂ at h4 n4
  have r2 : τ₂[0]? = some (intL R) := by rw [← hτ2]; exact at_app r1
  have l2 : τ₂.length = τ₁.length + 1 := by rw [← hτ2, List.length_append]; rfl
  -- the first reading
  have hcnt : t.cnt ≤ 21 := by have := t.cnt_sz; rw [hsz] at this; exact this
  have p1 : ev (TT b3) C (EL xs t.v (some (.tup (strL endings))) (some (.lst τ₁.length)) (some (.lst τ₂.length)) none none none none) (τ₂ ++ [[]]) (Ex.call 12 (Exs.cons (Ex.var 2) (Exs.cons (Ex.var 1) (Exs.cons (Ex.list (Exs.nil)) (Exs.nil))))) = some (.lst (τ₂.length + 1), τ₂ ++ [[]] ++ [strL ((t.pcl R 0).map Pc.txt)]) := by
    have hp := pieces_ok (TT b3) hR t 80 (by rw [hsz]; decide) ht (τ₂ ++ [[]] ++ [[]]) 0 (τ₂.length + 1) [] (at_app (at_app r2)) (by simp) (Nat.succ_ne_zero _).symm (small0 hcnt (by decide))
    rw [show (τ₂ ++ [[]] ++ [[]] : Store).set (τ₂.length + 1) (strL ([] ++ t.pcs R ([] : List (List Nat)).length)) = τ₂ ++ [[]] ++ [strL ((t.pcl R 0).map Pc.txt)] from (by rw [t.pcl_txt]; simp)] at hp
    have e0 := list0 (TT b3) (C := C) (ρ := EL xs t.v (some (.tup (strL endings))) (some (.lst τ₁.length)) (some (.lst τ₂.length)) none none none none) (σ := τ₂ ++ [[]])
    rw [show (τ₂ ++ [([] : List V)]).length = τ₂.length + 1 by simp] at e0
    exact call3 (TT b3) (ev_var (TT b3) rfl) (ev_var (TT b3) rfl) e0 hp
  have l3 : (τ₂ ++ [([] : List V)]).length = τ₂.length + 1 := by simp
  obtain ⟨q6, τ₃, p2, p3, p4, p5, p6⟩ := pass (ρ := EL xs t.v (some (.tup (strL endings))) (some (.lst τ₁.length)) (some (.lst τ₂.length)) none none none none) (i := 5) (t.pcl_ok R K 0 ht) (by rw [t.pcl_len]; exact Nat.le_trans hcnt (by decide)) (first_run R t) (by rw [← l3]; exact at_last) (at_app at_last) rfl p1
  have l4 : (τ₂ ++ [[]] ++ [strL ((t.pcl R 0).map Pc.txt)]).length = τ₂.length + 2 := by simp
  rw [l4] at p5 p6
  have n4' : τ₃[τ₁.length]? = some (strL [mn R 0, mn R 1, mn R 2]) := (p6 _ (by (first | lia | omega)) (by (first | lia | omega))).trans (at_app (at_app n4))
  -- the second reading
  have hb := bare_ok (TT b3) (t.pt (ixT R t)) 80 (Nat.lt_of_lt_of_le (Nat.lt_of_lt_of_le (Nat.lt_add_of_pos_right (Nat.succ_pos 1)) (t.nd_le (ixT R t))) (by rw [hsz]; decide)) (τ₃ ++ [[]])
  have hdp : (bareT R t).dp + 2 ≤ 64 := by have := t.dp_le (ixT R t); rw [hsz] at this; exact this
  have hcn : (bareT R t).cnt + 2 ≤ 729 := by have := t.cnt_le (ixT R t); rw [hsz] at this; exact this
  have n6 : (τ₃ ++ [[]])[q6]? = some (pileV [t.pt (ixT R t)]) := at_app p3
  have n5 : (τ₃ ++ [[]])[τ₂.length]? = some (strL (NF R t)) := at_app p4
  have l5 : (τ₃ ++ [([] : List V)]).length = τ₃.length + 1 := by simp
  have s1 : ev (TT b3) C (EL xs t.v (some (.tup (strL endings))) (some (.lst τ₁.length)) (some (.lst τ₂.length)) (some (.lst q6)) (some (.lst τ₃.length)) none none) (τ₃ ++ [[]]) (Ex.call 18 (Exs.cons (Ex.call 17 (Exs.cons (Ex.bin (Bop.item) (Ex.var 6) (Ex.int 0)) (Exs.nil))) (Exs.cons (Ex.var 5) (Exs.cons (Ex.list (Exs.nil)) (Exs.nil))))) = some (.lst (τ₃.length + 1), τ₃ ++ [[]] ++ [strL (((bareT R t).pcl (NF R t)).map Pc.txt)]) := by
    have hs := signs_ok (TT b3) (NF R t) (NF_len R t) (bareT R t) 80 (Nat.lt_of_lt_of_le (Nat.lt_succ_self _) (Nat.le_trans hdp (by decide))) (bareT_okA R t) (τ₃ ++ [[]] ++ [[]]) τ₂.length (τ₃.length + 1) [] (at_app n5) (by simp) (ne_next p5) (small0 (Nat.le_trans (Nat.le_add_right _ 2) hcn) (by decide))
    rw [show (τ₃ ++ [[]] ++ [[]] : Store).set (τ₃.length + 1) (strL ([] ++ (bareT R t).signs (NF R t))) = τ₃ ++ [[]] ++ [strL (((bareT R t).pcl (NF R t)).map Pc.txt)] from (by rw [Cm.pcl_txt]; simp)] at hs
    have e0 := list0 (TT b3) (C := C) (ρ := EL xs t.v (some (.tup (strL endings))) (some (.lst τ₁.length)) (some (.lst τ₂.length)) (some (.lst q6)) (some (.lst τ₃.length)) none none) (σ := τ₃ ++ [[]])
    rw [l5] at e0
    exact call3 (TT b3) (call1 (TT b3) (first_of rfl n6) hb) (ev_var (TT b3) rfl) e0 hs
  obtain ⟨q8, τ₄, s2, s3, s4, s5, s6⟩ := pass (ρ := EL xs t.v (some (.tup (strL endings))) (some (.lst τ₁.length)) (some (.lst τ₂.length)) (some (.lst q6)) (some (.lst τ₃.length)) none none) (i := 7) (second_ok R K t ht) (by rw [Cm.pcl_len]; exact Nat.le_trans (Nat.le_trans (Nat.le_add_right _ 2) hcn) (by decide)) (second_run R t ht) (by rw [← l5]; exact at_last) (at_app at_last) rfl s1
  rw [second_names R t ht] at s4
  have l6 : (τ₃ ++ [[]] ++ [strL (((bareT R t).pcl (NF R t)).map Pc.txt)]).length = τ₃.length + 2 := by simp
  rw [l6] at s5 s6
  have n4'' : τ₄[τ₁.length]? = some (strL [mn R 0, mn R 1, mn R 2]) := (s6 _ (by (first | lia | omega)) (by (first | lia | omega))).trans (at_app (at_app n4'))
  -- the free names
  have hfr := free_ok (TT b3) t 80 (by rw [hsz]; decide) (by rw [hsz]; decide) τ₄
  have n9 : (τ₄ ++ [intL t.free])[τ₄.length]? = some (intL t.free) := at_last
  have hL := left_is R t ht
  have u1 := one_ok (T := TT b3) (C := C) (ρ := EL xs t.v (some (.tup (strL endings))) (some (.lst τ₁.length)) (some (.lst τ₂.length)) (some (.lst q6)) (some (.lst τ₃.length)) (some (.lst q8)) (some (.lst τ₄.length))) (i := 8) (τ := τ₄ ++ [intL t.free]) rfl (at_app s3)
  have u2 := sorted_ok (T := TT b3) (C := C) (ρ := EL xs t.v (some (.tup (strL endings))) (some (.lst τ₁.length)) (some (.lst τ₂.length)) (some (.lst q6)) (some (.lst τ₃.length)) (some (.lst q8)) (some (.lst τ₄.length))) (i := 7) (τ := τ₄ ++ [intL t.free]) rfl (at_app s4) (Nat.le_trans hL.len (by decide))
  have u3 := picked_ok (T := TT b3) (C := C) (xs := xs) (tv := t.v) (a3 := some (.tup (strL endings))) (a5 := some (.lst τ₂.length)) (a6 := some (.lst q6)) (a7 := some (.lst τ₃.length)) (a8 := some (.lst q8)) (R := R) (τ := τ₄ ++ [intL t.free] ++ [strL (sortLex (left R t))]) (at_app (at_app n4'')) (at_app n9)
  rw [← hL.sorted] at u3
  have u4 := or_no u1 ((ev_bin2 u2 u3).trans (same_ok (at_app at_last) at_last))
  -- run and value
  generalize hτ5 : τ₄ ++ [intL t.free] ++ [strL (sortLex (left R t))] ++ [strL (sortLex (left R t))] = τ₅ at u4
  have v8 : τ₅[q8]? = some (pileV [(newT R t).pt]) := by rw [← hτ5]; exact at_app (at_app (at_app s3))
  have v7 : τ₅[τ₃.length]? = some (strL (left R t)) := by rw [← hτ5]; exact at_app (at_app (at_app s4))
  have v4 : τ₅[τ₁.length]? = some (strL [mn R 0, mn R 1, mn R 2]) := by rw [← hτ5]; exact at_app (at_app (at_app n4''))
  have hM : t.M (ixT R t) ≤ 32768 := by have := t.M_le (ixT R t); rw [hsz] at this; exact this
  have hrd := new_rd R t
  have hnv := new_val R t ht
  have hD := new_Dn R t ht
  rw [hsz] at hD
  obtain ⟨τ₆, w1, w2⟩ := run_ok (TT b3) (n := τ₃.length) (N := left R t) (L := 0 + 3 * 5) (c := 1 * t.M (ixT R t) - 1) (by decide) (turn1 hM) (turn2 hM) 78 (by decide) (newT R t) _ hD hnv.1 (Nat.lt_of_le_of_lt hrd (by rw [hsz]; decide)) τ₅ v7
  have l7 : τ₁.length < τ₅.length := (List.getElem?_eq_some_iff.mp v4).1
  obtain ⟨ν, w3⟩ := value_ok (TT b3) t 80 (by rw [hsz]; decide) ht τ₆ τ₁.length (strL [mn R 0, mn R 1, mn R 2]) ((w2.2 _ l7).trans v4) rfl
  have w4 : ev (TT b3) C (EL xs t.v (some (.tup (strL endings))) (some (.lst τ₁.length)) (some (.lst τ₂.length)) (some (.lst q6)) (some (.lst τ₃.length)) (some (.lst q8)) (some (.lst τ₄.length))) τ₅ (Ex.bin (Bop.eq) (Ex.call 19 (Exs.cons (Ex.bin (Bop.item) (Ex.var 8) (Ex.int 0)) (Exs.cons (Ex.var 7) (Exs.nil)))) (Ex.call 9 (Exs.cons (Ex.var 2) (Exs.cons (Ex.var 4) (Exs.nil))))) = some (.bool true, τ₆ ++ ν) := by
    have hfirst := first_of (T := TT b3) (C := C) (ρ := EL xs t.v (some (.tup (strL endings))) (some (.lst τ₁.length)) (some (.lst τ₂.length)) (some (.lst q6)) (some (.lst τ₃.length)) (some (.lst q8)) (some (.lst τ₄.length))) (i := 8) rfl v8
    rw [Cm.pt_v] at hfirst
    refine (ev_bin2 (call2 (TT b3) hfirst (ev_var (TT b3) rfl) w1) (call2 (TT b3) (ev_var (TT b3) rfl) (ev_var (TT b3) rfl) w3)).trans ?_
    show (eqV (τ₆ ++ ν) _ _).map (fun r => (V.bool r, τ₆ ++ ν)) = _
    rw [← hnv.2, U.eqV_self _ _ (Nat.lt_of_le_of_lt hrd (by rw [hsz]; decide))]; rfl
  refine (callD_own (v := .bool true) (σ' := τ₆ ++ ν) (ρ' := EL xs t.v (some (.tup (strL endings))) (some (.lst τ₁.length)) (some (.lst τ₂.length)) (some (.lst q6)) (some (.lst τ₃.length)) (some (.lst q8)) (some (.lst τ₄.length))) fns_20 rfl rfl ?_).trans rfl
  refine (exs_next (ex_set (call1 (TT b3) (ev_var (TT b3) rfl) hnum))).trans ((exs_next (ex_set (call1 (TT b3) (ev_var (TT b3) rfl) hdr))).trans ((exs_next (ex_set endings_ok)).trans ((exs_next (ex_set h4)).trans ((exs_next (ex_set (list0 (TT b3)))).trans ((exs_next (ex_set p2)).trans ?_)))))
  refine (skip' (one_ok (q := t.pt (ixT R t)) rfl p3)).trans ((exs_next (ex_set (list0 (TT b3)))).trans ((exs_next (ex_set s2)).trans ((exs_next (ex_set (call1 (TT b3) (ev_var (TT b3) rfl) hfr))).trans ((skip' u4).trans (exs_ret w4)))))
end W2
end Mine
end

section
open PySem PySem.W PyProof.Rows PySem.Calls
set_option Elab.async false
set_option linter.unusedVariables false
set_option linter.unusedSimpArgs false
set_option maxRecDepth 100000
namespace Mine
noncomputable section
namespace P2
theorem t0 : T0 L3 = ⟨W2.b1W, (T0 L3).b3, W2.tokW⟩ := by kernel_rfl
theorem b3W : W2.B3 (T0 L3).b3 := ⟨by kernel_rfl, by kernel_rfl⟩
theorem ints_of {h : Heap} {cl : Str → Option Addr} : ∀ {vs : List Value} {ds : List WData} {as : List Addr}, ReadsAllW [] cl h vs ds as → (∀ d ∈ ds, ∃ i, d = .int i) → ∃ l, IntsAre vs l ∧ l.length = ds.length
  | _, _, _, .nil, _ => ⟨[], by constructor, rfl⟩
  | _, _, _, .cons r rs, hd => by
    obtain ⟨i, rfl⟩ := hd _ List.mem_cons_self
    obtain ⟨l, hl, e⟩ := ints_of rs fun d h => hd d (List.mem_cons_of_mem _ h)
    cases r with
    | int i t => exact ⟨i :: l, .cons _ _ hl, by simp [e]⟩
theorem ints_len : ∀ {vs : List Value} {l : List Int}, IntsAre vs l → vs.length = l.length
  | _, _, .nil => rfl
  | _, _, .cons _ _ h => by simp [ints_len h]
noncomputable abbrev claimW : ClaimW := PySem.Challenge.rw_wf0082_02.row.toRowW.claim
theorem postL (args : List WData) : claimW.post args (.bool true) args = true := by
  show WTm.holds [] (.eq .res (.lit (.bool true))) _ = true
  have e : same (WData.bool true) (WData.bool true) = true := by decide +kernel
  simp only [WTm.holds, WTm.value, e]
theorem call_law (w : World) (s₀ s₁ : Shared) (mg mb : Str → Option Value) (G₀ : Ground qv looseL [] (fun _ _ => True) w s₀ mg mb s₁.heap) (y : YP w s₁.heap) (args : List WData) (vs : List Value) (as : List Addr)
    (hpre : claimW.pre args = true) (hlay : WData.layableAll args = true) (hg : s₁.gens = #[]) (hrd : ReadsAllW [] (classAt s₀.heap) s₁.heap vs args as) :
    ∃ f, mg (PySem.Str.ofString "law") = some f ∧ wpAny (model pw w) callerA (PySem.call f vs) (fun v s' => GoodW claimW (classAt s₀.heap) (ExcName.means s₀.heap) args s₁ (.ok (.ret v)) s') (fun _ _ => False) s₁ := by
  obtain ⟨u, hu, hy⟩ := y
  obtain ⟨hsh, hpr⟩ := pre_splitW hpre
  obtain ⟨d, r, rfl, hd, hr⟩ := hasAllW_cons hsh
  obtain rfl := hasAllW_nil hr
  obtain ⟨xs, rfl, hx⟩ := hasW_list hd
  have hint : ∀ d ∈ xs, ∃ i, d = .int i := fun d hd => hasW_int (hasItemsW_at hx d hd)
  have hlen : xs.length ≤ 63 := by
    have h : WTm.holds [] (.and (.not (.lt (.lit (.int 63)) (.len (.arg 0)))) (.lit (.bool true))) { args := [WData.list xs] } = true := hpr
    have h := (holds_andW h).1
    simp only [WTm.holds, WTm.value, List.getElem?_cons_zero] at h
    have e : less? (WData.int 63) (WData.int (xs.length : Int)) = some (decide ((63 : Int) < (xs.length : Int))) := by simp [less?, Num.less?, Num.order?]
    rw [e] at h
    by_cases hh : (63 : Int) < (xs.length : Int)
    · rw [decide_eq_true hh] at h; simp at h
    · (first | lia | omega)
  cases hrd with
  | cons r1 r2 =>
    cases r2
    obtain ⟨a, its, as', rfl, hl, hr, -⟩ := readsW_list_inv r1
    obtain ⟨l, hi, hll⟩ := ints_of hr hint
    refine ⟨.ref 231, (mg_is G₀.T.g hy _).trans (n_law w.params), ?_⟩
    have hB := base_ok (w := w) (mg := mg) (mb := mb) G₀.T.g G₀.T.b G₀.T.builtins G₀.T.nolimit
    have hlaw : callD (T0 L3) W2.fns 81 20 [.ro l] [] = some (.bool true, []) := by rw [t0]; exact W2.law20 b3W l []
    have hC := calls_ok hB (fn_ok (w := w) (u := u) G₀.T.g G₀.T.b G₀.T.builtins G₀.T.nolimit hu hy) 81
    refine hC 20 231 [.ro l] [] (.bool true) [] rfl hlaw callerA [] s₁ [.ref a] ⟨rfl, by decide, by decide⟩ (SOk.nil fun b o h => h) hg (.cons (.ro hl (by rw [ints_len hi, hll]; have : LIM = 16777216 := rfl; (first | lia | omega)) hi) .nil) _ _ fun v' s' μ' S' p r' => ?_
    cases r'
    exact ⟨.inl ⟨.bool true, .bool true, [], rfl, fun _ => rfl, .bool true, postL _, unshared_nil⟩, S'.base, p.os, p.gens.trans hg⟩
end P2
end
end Mine
end

section
open PySem PySem.W PyProof.Rows PySem.Calls
set_option Elab.async false
set_option linter.unusedVariables false
set_option maxRecDepth 100000
set_option maxHeartbeats 8000000
namespace Mine
namespace P2
theorem ykeep (w : World) (h h' : Heap) (y : YP w h) (k : ∀ b o, h.get? b = some o → h'.get? b = some o) : YP w h' := by
  obtain ⟨u, hu, hy⟩ := y
  exact ⟨u, hu, fun b o e => k b o (hy b o e)⟩
end P2
end Mine
theorem Mine.P2.said : PySem.Challenge.rw_wf0082_02.wellSaid = true := by kernel_rfl
theorem PySem.Challenge.cw_wf0082_02_holds : PySem.Challenge.rw_wf0082_02.Holds := by
  refine holds_law Mine.P2.said fun _ => ?_
  exact Mine.holds_mine (q := Mine.P2.qv) (loose := Mine.P2.looseL) Mine.P2.behind rfl Mine.P2.ykeep (by rfl) (by rfl) (by rfl) rfl (by first | assumption | decide +kernel) (by decide +kernel) ⟨rfl, rfl, rfl, rfl, rfl, by decide +kernel⟩ (by w_witness2) Mine.P2.call_law
end
