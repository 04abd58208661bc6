import PyProof.Rows.All
import Wide.All
import OpenK.AllK
import Wide.FinOn
import Lean
import PySem.Challenge.RW_us0015_01
open PySem PySem.W PyProof.Rows
set_option maxRecDepth 100000
set_option Elab.async false
set_option linter.unusedVariables false
namespace Mine
section
open Sem (wp)
noncomputable def evGet (S : SharedT) (a : Nat) : Option Obj := match Nat.blt a S.n with
  | true => match S.tree.get a with
    | some o => alive o
    | none => none
  | false => none
noncomputable def evLoop (run : Ctx → Pos → SharedT → Sem Fin → Option (Except Value Fin × Pos × SharedT)) (den : Code → Sem Fin) : Nat → Ctx → Pos → SharedT → Option (Result × SharedT)
  | 0, _, _, _ => none
  | n + 1, Γ, p, S => match run Γ p S (den Γ.code) with
    | none => none
    | some (.error e, _, S') => some (.error e, S')
    | some (.ok fin, p', S') => match fin with
      | .done f => some (.ok f, S')
      | .again c => match c.quiet with
        | true => evLoop run den n (Γ.goto c) p' S'
        | false => none
noncomputable def ev (den : Code → Sem Fin) (st : Setting) : Nat → (α : Type) → Ctx → Pos → SharedT → Sem α → Option (Except Value α × Pos × SharedT)
  | 0, _, _, _, _, _ => none
  | n + 1, α, Γ, p, S, t => match t with
    | .pure a => some (.ok a, p, S)
    | .raise e => some (.error e, p, S)
    | .rule _ k => ev den st n α Γ p S (k ())
    | .at q k => ev den st n α Γ q S (k ())
    | .load a _ k => match evGet S a with
      | some o => ev den st n α Γ p S (k o)
      | none => none
    | .update a _ f k => match evGet S a with
      | some _ => ev den st n α Γ p { S with tree := S.tree.set a f } (k ())
      | none => none
    | .loadIfAlive a k => match Nat.blt a S.n with
      | true => match S.tree.get a with
        | some o => ev den st n α Γ p S (k (alive o))
        | none => none
      | false => ev den st n α Γ p S (k none)
    | .point _ k => ev den st n α Γ p S (k ())
    | .alloc o k => match ((S.tree.ins S.n o).get S.n).isSome with
      | true => ev den st n α Γ p { S with tree := S.tree.ins S.n o, n := S.n + 1 } (k S.n)
      | false => none
    | .fresh k => ev den st n α Γ p { S with toks := S.toks + 1 } (k S.toks)
    | .ask k => ev den st n α Γ p S (k st)
    | .handled own k => ev den st n α Γ p S (k (if own then Γ.own else Γ.handled))
    | .stack k => ev den st n α Γ p S (k ((Γ.code, p) :: Γ.below))
    | .thread k => ev den st n α Γ p S (k 0)
    | .call c h _ _ k => match evLoop (fun Γ' p' S' t' => ev den st n Fin Γ' p' S' t') den n (Γ.enter c h p) p S with
      | some (r, S') => ev den st n α Γ p S' (k r)
      | none => none
    | _ => none
theorem evGet_spec {S : SharedT} {a : Nat} {o : Obj} (h : evGet S a = some o) : S.abs.heap.get? a = some o ∧ ∃ o', S.tree.get a = some o' ∧ a < S.n := by
  unfold evGet at h
  cases e : Nat.blt a S.n with
  | false => rw [e] at h; cases h
  | true =>
    rw [e] at h
    have lt : a < S.n := Nat.le_of_ble_eq_true e
    cases g : S.tree.get a with
    | none => rw [g] at h; cases h
    | some o' =>
      rw [g] at h
      exact ⟨(abs_get lt g).trans h, o', rfl, lt⟩
noncomputable def EvPost {α : Type} (Q : α → Pos → Shared → Prop) (E : Value → Pos → Shared → Prop) (p : Pos) (s : Shared) : Except Value α → Prop
  | .ok a => Q a p s
  | .error e => E e p s
noncomputable def EvOk (M : Model) (run : Ctx → Pos → SharedT → Sem Fin → Option (Except Value Fin × Pos × SharedT)) : Prop :=
  ∀ Γ p S t r p' S', run Γ p S t = some (r, p', S') → ∀ (Q : Fin → Pos → Shared → Prop) (E : Value → Pos → Shared → Prop),
    EvPost Q E p' S'.abs r → wp M Γ t Q E p S.abs
theorem evLoop_spec {M : Model} {run : Ctx → Pos → SharedT → Sem Fin → Option (Except Value Fin × Pos × SharedT)} (H : EvOk M run) :
    ∀ (n : Nat) (Γ : Ctx) (p : Pos) (S : SharedT) (r : Result) (S' : SharedT), evLoop run M.den n Γ p S = some (r, S') →
      ∀ R : Result → Shared → Prop, R r S'.abs → wpCode M Γ R p S.abs
  | 0, _, _, _, _, _, h => by simp [evLoop] at h
  | n + 1, Γ, p, S, r, S', h => by
    intro R hR
    have h : (match run Γ p S (M.den Γ.code) with
      | none => none
      | some (.error e, _, S') => some (.error e, S')
      | some (.ok fin, p', S') => (match fin with
        | .done f => some (.ok f, S')
        | .again c => (match c.quiet with
          | true => evLoop run M.den n (Γ.goto c) p' S'
          | false => none))) = some (r, S') := h
    rw [wpCode_iff_wp]
    cases e : run Γ p S (M.den Γ.code) with
    | none => rw [e] at h; cases h
    | some x =>
      obtain ⟨res, p', S₁⟩ := x
      rw [e] at h
      cases res with
      | error v =>
        cases h
        exact H _ _ _ _ _ _ _ e _ _ hR
      | ok fin =>
        cases fin with
        | done f =>
          cases h
          exact H _ _ _ _ _ _ _ e _ _ hR
        | again c =>
          have h : (match c.quiet with | true => evLoop run M.den n (Γ.goto c) p' S₁ | false => none) = some (r, S') := h
          cases q : c.quiet with
          | false => rw [q] at h; cases h
          | true =>
            rw [q] at h
            exact H _ _ _ _ _ _ _ e _ _ ⟨q, evLoop_spec H n _ _ _ _ _ h R hR⟩
theorem ev_spec {M : Model} : ∀ (n : Nat) (α : Type) (Γ : Ctx) (p : Pos) (S : SharedT) (t : Sem α) (r : Except Value α) (p' : Pos) (S' : SharedT),
    ev M.den ⟨M.prog, M.w.params⟩ n α Γ p S t = some (r, p', S') → ∀ (Q : α → Pos → Shared → Prop) (E : Value → Pos → Shared → Prop),
    EvPost Q E p' S'.abs r → wp M Γ t Q E p S.abs
  | 0, _, _, _, _, _, _, _, _, h => nomatch (show (none : Option _) = some _ from h)
  | n + 1, α, Γ, p, S, t, r, p', S', h => by
    intro Q E hQ
    have IH := ev_spec (M := M) n
    cases t with
    | pure a =>
      cases (show some (.ok a, p, S) = some (r, p', S') from h)
      exact hQ
    | raise e =>
      cases (show some (.error e, p, S) = some (r, p', S') from h)
      exact hQ
    | rule tag k => exact IH _ _ _ _ _ _ _ _ h _ _ hQ
    | «at» q k => exact IH _ _ _ _ _ _ _ _ h _ _ hQ
    | load a part k =>
      have h : (match evGet S a with | some o => ev M.den ⟨M.prog, M.w.params⟩ n α Γ p S (k o) | none => none) = some (r, p', S') := h
      cases e : evGet S a with
      | none => rw [e] at h; cases h
      | some o =>
        rw [e] at h
        exact ⟨o, (evGet_spec e).1, IH _ _ _ _ _ _ _ _ h _ _ hQ⟩
    | update a part f k =>
      have h : (match evGet S a with | some _ => ev M.den ⟨M.prog, M.w.params⟩ n α Γ p { S with tree := S.tree.set a f } (k ()) | none => none) = some (r, p', S') := h
      cases e : evGet S a with
      | none => rw [e] at h; cases h
      | some o =>
        rw [e] at h
        obtain ⟨h1, o', h2, h3⟩ := evGet_spec e
        refine ⟨by rw [h1]; rfl, ?_⟩
        have := IH _ _ _ _ _ _ _ _ h Q E hQ
        have e2 : ({ S.abs with heap := S.abs.heap.update a f } : Shared) = SharedT.abs { S with tree := S.tree.set a f } := by
          show Shared.mk _ _ _ _ _ = Shared.mk _ _ _ _ _
          congr 1
          exact (absHeap_set h2).symm
        rw [e2]; exact this
    | loadIfAlive a k =>
      have h : (match Nat.blt a S.n with | true => (match S.tree.get a with | some o => ev M.den ⟨M.prog, M.w.params⟩ n α Γ p S (k (alive o)) | none => none) | false => ev M.den ⟨M.prog, M.w.params⟩ n α Γ p S (k none)) = some (r, p', S') := h
      show wp M Γ (k (S.abs.heap.get? a)) Q E p S.abs
      cases e : Nat.blt a S.n with
      | false =>
        rw [e] at h
        have nlt : ¬ a < S.n := fun q => by
          have : Nat.blt a S.n = true := Nat.ble_eq_true_of_le q
          rw [this] at e; cases e
        have e2 : S.abs.heap.get? a = none := abs_get_none nlt
        rw [e2]
        exact IH _ _ _ _ _ _ _ _ h _ _ hQ
      | true =>
        rw [e] at h
        have lt : a < S.n := Nat.le_of_ble_eq_true e
        cases g : S.tree.get a with
        | none => rw [g] at h; cases h
        | some o =>
          rw [g] at h
          have e2 : S.abs.heap.get? a = alive o := abs_get lt g
          rw [e2]
          exact IH _ _ _ _ _ _ _ _ h _ _ hQ
    | point l k => exact IH _ _ _ _ _ _ _ _ h _ _ hQ
    | alloc o k =>
      have h : (match ((S.tree.ins S.n o).get S.n).isSome with | true => ev M.den ⟨M.prog, M.w.params⟩ n α Γ p { S with tree := S.tree.ins S.n o, n := S.n + 1 } (k S.n) | false => none) = some (r, p', S') := h
      cases e : ((S.tree.ins S.n o).get S.n).isSome with
      | false => rw [e] at h; cases h
      | true =>
        rw [e] at h
        have := IH _ _ _ _ _ _ _ _ h Q E hQ
        have e2 : ({ S.abs with heap := S.abs.heap.push o } : Shared) = SharedT.abs { S with tree := S.tree.ins S.n o, n := S.n + 1 } := by
          show Shared.mk _ _ _ _ _ = Shared.mk _ _ _ _ _
          congr 1
          exact (absHeap_ins e).symm
        show wp M Γ (k S.abs.heap.objs.size) Q E p { S.abs with heap := S.abs.heap.push o }
        rw [e2, show S.abs.heap.objs.size = S.n from absHeap_size ..]
        exact this
    | fresh k => exact IH _ _ _ _ _ _ _ _ h _ _ hQ
    | ask k => exact IH _ _ _ _ _ _ _ _ h _ _ hQ
    | handled own k => exact IH _ _ _ _ _ _ _ _ h _ _ hQ
    | stack k => exact IH _ _ _ _ _ _ _ _ h _ _ hQ
    | thread k => exact IH _ _ _ _ _ _ _ _ h _ _ hQ
    | call c hd g l k =>
      have h : (match evLoop (fun Γ' p' S' t' => ev M.den ⟨M.prog, M.w.params⟩ n Fin Γ' p' S' t') M.den n (Γ.enter c hd p) p S with | some (r, S') => ev M.den ⟨M.prog, M.w.params⟩ n α Γ p S' (k r) | none => none) = some (r, p', S') := h
      cases e : evLoop (fun Γ' p' S' t' => ev M.den ⟨M.prog, M.w.params⟩ n Fin Γ' p' S' t') M.den n (Γ.enter c hd p) p S with
      | none => rw [e] at h; cases h
      | some x =>
        obtain ⟨r₁, S₁⟩ := x
        rw [e] at h
        exact evLoop_spec (M := M) (fun Γ p S t r p' S' h' => IH Fin Γ p S t r p' S' h') n _ _ _ _ _ e _ (IH _ _ _ _ _ _ _ _ h _ _ hQ)
    | unsupported | finish | register | choose | os | newGen | genState | resume | «yield» | fork | await => cases (show (none : Option (Except Value α × Pos × SharedT)) = some (r, p', S') from h)
end
section
noncomputable def listNewX : { f : Builtin // Builtin.«list.__new__» = f } := ⟨_, by
  delta Builtin.«list.__new__»
  rw [splitQ_eq]⟩
noncomputable def tableX (id : String) : Option Builtin := match Nat.beq (code id) (code "list.__new__") with
  | true => some listNewX.1
  | false => treeTable id
theorem tableX_eq : tableX = table := by
  rw [table_eq_tree]
  funext id
  unfold tableX
  cases h : Nat.beq (code id) (code "list.__new__") with
  | false => rfl
  | true =>
    have e := code_inj _ _ (Nat.eq_of_beq_eq_true h)
    subst e
    show some listNewX.1 = _
    rw [← listNewX.2]
    kernel_rfl
end
section
noncomputable def dictObj (es : List DictEntry) (n : Nat) : Obj := { cls := .type "dict", data := .dict es.toArray n }
theorem dictObj_free (es : List DictEntry) (n : Nat) : (dictObj es n).isFreed = false := rfl
noncomputable def pushAll (h : Heap) (l : List Obj) : Heap := ⟨h.objs ++ l.toArray, h.life⟩
theorem pushAll_nil (h : Heap) : pushAll h [] = h := by
  obtain ⟨o, l⟩ := h
  simp [pushAll]
theorem pushAll_push (h : Heap) (l : List Obj) (o : Obj) : (pushAll h l).push o = pushAll h (l ++ [o]) := by
  obtain ⟨os, li⟩ := h
  simp [pushAll, Heap.push]
theorem pushAll_one (h : Heap) (o : Obj) : h.push o = pushAll h [o] := by
  have := pushAll_push h [] o
  rw [pushAll_nil] at this
  exact this
theorem pushAll_size (h : Heap) (l : List Obj) : (pushAll h l).objs.size = h.objs.size + l.length := by
  simp [pushAll]
theorem pushAll_objs (h : Heap) (l₁ l₂ : List Obj) (o : Obj) : (pushAll h (l₁ ++ o :: l₂)).objs[h.objs.size + l₁.length]? = some o := by
  unfold pushAll
  rw [Array.getElem?_append_right (Nat.le_add_right _ _)]
  simp
theorem pushAll_get (h : Heap) (l₁ l₂ : List Obj) (o : Obj) (hf : o.isFreed = false) : (pushAll h (l₁ ++ o :: l₂)).get? (h.objs.size + l₁.length) = some o := by
  have e := pushAll_objs h l₁ l₂ o
  obtain ⟨c, d, dt, sl⟩ := o
  unfold Heap.get?
  rw [e]
  cases dt <;> first | rfl | exact absurd hf (by intro q; cases q)
theorem pushAll_update (h : Heap) (l₁ l₂ : List Obj) (o : Obj) (f : Obj → Obj) : (pushAll h (l₁ ++ o :: l₂)).update (h.objs.size + l₁.length) f = pushAll h (l₁ ++ f o :: l₂) := by
  have : (pushAll h (l₁ ++ o :: l₂)).objs.modify (h.objs.size + l₁.length) f = (pushAll h (l₁ ++ f o :: l₂)).objs := by
    apply Array.ext_getElem?
    intro i
    rw [Array.getElem?_modify]
    by_cases e : h.objs.size + l₁.length = i
    · subst e
      rw [pushAll_objs, pushAll_objs]
      simp
    · rw [if_neg e]
      unfold pushAll
      by_cases hi : i < h.objs.size
      · rw [Array.getElem?_append_left hi, Array.getElem?_append_left hi]
      · have hi' : h.objs.size ≤ i := Nat.le_of_not_lt hi
        rw [Array.getElem?_append_right hi', Array.getElem?_append_right hi']
        simp only [List.getElem?_toArray]
        by_cases h1 : i - h.objs.size < l₁.length
        · rw [List.getElem?_append_left h1, List.getElem?_append_left h1]
        · have h1' : l₁.length ≤ i - h.objs.size := Nat.le_of_not_lt h1
          rw [List.getElem?_append_right h1', List.getElem?_append_right h1']
          have h2 : i - h.objs.size - l₁.length = (i - h.objs.size - l₁.length - 1) + 1 := (Nat.succ_pred_eq_of_pos (by rw [Nat.sub_sub]; exact Nat.sub_pos_of_lt (Nat.lt_of_le_of_ne (Nat.add_le_of_le_sub' hi' h1') e))).symm
          rw [h2, List.getElem?_cons_succ, List.getElem?_cons_succ]
  show Heap.mk _ _ = Heap.mk _ _
  exact congrArg (Heap.mk · h.life) this
inductive All2 {α β : Type} (R : α → β → Prop) : List α → List β → Prop
  | nil : All2 R [] []
  | cons {a : α} {b : β} {l : List α} {m : List β} : R a b → All2 R l m → All2 R (a :: l) (b :: m)
section
variable {prog : Program} {w : World} {A : Around} {E : Value → Shared → Prop} {s : Shared}
noncomputable abbrev KeyOf (e : DictEntry) (k : Int) : Prop := ∃ t, e.key = .int k t ∧ e.hash = hashInt k
noncomputable def AllKeys (es : List DictEntry) (ks : List Int) : Prop := All2 KeyOf es ks
theorem AllKeys.ints {es : List DictEntry} {ks : List Int} (h : AllKeys es ks) : IntKeys es.toArray := by
  intro e he
  have he' : e ∈ es := by simpa using he
  clear he
  induction h with
  | nil => cases he'
  | cons h1 _ ih =>
    rcases List.mem_cons.mp he' with rfl | hm
    · obtain ⟨t, a, b⟩ := h1; exact ⟨_, t, a, b⟩
    · exact ih hm
theorem AllKeys.none {es : List DictEntry} {ks : List Int} (h : AllKeys es ks) {k : Int} (hk : k ∉ ks) : (es.toArray.findIdx? fun e => Value.isInt k e.key) = none := by
  rw [Array.findIdx?_eq_none_iff]
  intro e he
  have he' : e ∈ es := by simpa using he
  clear he
  induction h with
  | nil => cases he'
  | @cons e' k' es' ks' h1 _ ih =>
    rcases List.mem_cons.mp he' with rfl | hm
    · obtain ⟨t, a, b⟩ := h1
      rw [a]
      show (k' == k) = false
      exact beq_eq_false_iff_ne.mpr fun q => hk (q ▸ List.mem_cons_self)
    · exact ih (fun q => hk (List.mem_cons_of_mem _ q)) hm
theorem AllKeys.append {a b : List DictEntry} {x y : List Int} (h : AllKeys a x) (h' : AllKeys b y) : AllKeys (a ++ b) (x ++ y) := by
  induction h with
  | nil => exact h'
  | cons h1 _ ih => exact .cons h1 ih
theorem AllKeys.length {a : List DictEntry} {x : List Int} (h : AllKeys a x) : a.length = x.length := by
  induction h with
  | nil => rfl
  | cons _ _ ih => simp [ih]
theorem mapKeys_obj (es : List DictEntry) (n : Nat) (e : DictEntry) : Obj.mapDictKeys (·.push e) (dictObj es n) = dictObj (es ++ [e]) (n + 1) := by
  show Obj.mk _ _ _ _ = Obj.mk _ _ _ _
  simp
theorem dictPut_new {H : Heap} {l₁ l₂ : List Obj} {es : List DictEntry} {ks : List Int} {n : Nat} {k : Int} {t : Tok} {v : Value} {Q : Unit → Shared → Prop}
    (hh : s.heap = pushAll H (l₁ ++ dictObj es n :: l₂)) (hk : AllKeys es ks) (hn : k ∉ ks) (hsz : es.length ≤ sizeLine)
    (h : Q () { s with heap := pushAll H (l₁ ++ dictObj (es ++ [⟨hashInt k, .int k t, v⟩]) (n + 1) :: l₂) }) :
    wpAny (model prog w) A (dictPut (H.objs.size + l₁.length) (hashInt k) (.int k t) v) Q E s := by
  have ho : s.heap.get? (H.objs.size + l₁.length) = some (dictObj es n) := by rw [hh]; exact pushAll_get _ _ _ _ rfl
  unfold dictPut
  refine wpAny_bind (wpAny_dictFind_int ho rfl hk.ints ?_)
  rw [hk.none hn]
  refine wpAny_updateDictKeys ho rfl ?_ (by simpa using hsz)
  rw [hh, pushAll_update, mapKeys_obj]
  exact h
theorem dictSet_new {H : Heap} {l₁ l₂ : List Obj} {es : List DictEntry} {ks : List Int} {n : Nat} {k : Int} {t : Tok} {v : Value} {Q : Unit → Shared → Prop}
    (hh : s.heap = pushAll H (l₁ ++ dictObj es n :: l₂)) (hk : AllKeys es ks) (hn : k ∉ ks) (hsz : es.length ≤ sizeLine)
    (h : Q () { s with heap := pushAll H (l₁ ++ dictObj (es ++ [⟨hashInt k, .int k t, v⟩]) (n + 1) :: l₂), toks := s.toks + 1 }) :
    wpAny (model prog w) A (dictSet (H.objs.size + l₁.length) (.int k t) v) Q E s := by
  unfold dictSet
  refine wpAny_holding (wpAny_bind (wpAny_pyHash_int ?_))
  unfold dictSetHashed
  have ho : ({ s with toks := s.toks + 1 } : Shared).heap.get? (H.objs.size + l₁.length) = some (dictObj es n) := by
    show s.heap.get? _ = _
    rw [hh]; exact pushAll_get _ _ _ _ rfl
  refine wpAny_holding (wpAny_bind (wpAny_dictFind_int ho rfl hk.ints ?_))
  rw [hk.none hn]
  refine wpAny_bind (wpAny_rule ?_)
  refine wpAny_updateDictKeys ho rfl ?_ (by simpa using hsz)
  show Q () { s with heap := s.heap.update _ _, toks := s.toks + 1 }
  rw [hh, pushAll_update, mapKeys_obj]
  exact h
end
end
section
noncomputable def IsKey (prog : Program) (w : World) (k : Int) (t : Sem Value) : Prop :=
  ∀ (A : Around) (E : Value → Shared → Prop) (s : Shared) (Q : Value → Shared → Prop), Q (.int k s.toks) { s with toks := s.toks + 1 } → wpAny (model prog w) A t Q E s
noncomputable def IsVal (prog : Program) (w : World) (x : Str) (t : Sem Value) : Prop :=
  ∀ (A : Around) (E : Value → Shared → Prop) (s : Shared) (Q : Value → Shared → Prop), Q (.str x s.toks) { s with toks := s.toks + 1 } → wpAny (model prog w) A t Q E s
noncomputable abbrev PairIs (prog : Program) (w : World) (p : Sem Value × Sem Value) (kv : Int × Str) : Prop := IsKey prog w kv.1 p.1 ∧ IsVal prog w kv.2 p.2
noncomputable def longEnt : Nat → List (Int × Str) → List DictEntry
  | _, [] => []
  | t, (k, x) :: r => ⟨hashInt k, .int k t, .str x (t + 1)⟩ :: longEnt (t + 3) r
noncomputable def shortEnt : Nat → List (Int × Str) → List DictEntry
  | _, [] => []
  | t, (k, x) :: r => ⟨hashInt k, .int k t, .str x (t + 1)⟩ :: shortEnt (t + 2) r
theorem longEnt_length : ∀ (t : Nat) (l : List (Int × Str)), (longEnt t l).length = l.length
  | _, [] => rfl
  | t, (k, x) :: r => by rw [longEnt, List.length_cons, longEnt_length, List.length_cons]
theorem shortEnt_length : ∀ (t : Nat) (l : List (Int × Str)), (shortEnt t l).length = l.length
  | _, [] => rfl
  | t, (k, x) :: r => by rw [shortEnt, List.length_cons, shortEnt_length, List.length_cons]
theorem longEnt_keys : ∀ (t : Nat) (l : List (Int × Str)), AllKeys (longEnt t l) (l.map (·.1))
  | _, [] => .nil
  | t, (_, _) :: r => .cons ⟨t, rfl, rfl⟩ (longEnt_keys (t + 3) r)
theorem shortEnt_keys : ∀ (t : Nat) (l : List (Int × Str)), AllKeys (shortEnt t l) (l.map (·.1))
  | _, [] => .nil
  | t, (_, _) :: r => .cons ⟨t, rfl, rfl⟩ (shortEnt_keys (t + 2) r)
theorem All2.length {α β : Type} {R : α → β → Prop} {l : List α} {m : List β} (h : All2 R l m) : l.length = m.length := by
  induction h with
  | nil => rfl
  | cons _ _ ih => simp [ih]
section
variable {prog : Program} {w : World} {A : Around} {E : Value → Shared → Prop}
theorem sub_loop {H : Heap} {l : List Obj} {ps : List (Sem Value × Sem Value)} {kvs : List (Int × Str)} (hp : All2 (PairIs prog w) ps kvs) :
    ∀ {s : Shared} {es : List DictEntry} {ks : List Int} {n : Nat} {Q : PUnit → Shared → Prop},
      s.heap = pushAll H (l ++ [dictObj es n]) → AllKeys es ks → (ks ++ kvs.map (·.1)).Nodup → es.length + kvs.length ≤ sizeLine →
      Q PUnit.unit { s with heap := pushAll H (l ++ [dictObj (es ++ longEnt s.toks kvs) (n + kvs.length)]), toks := s.toks + 3 * kvs.length } →
      wpAny (model prog w) A (forIn ps PUnit.unit fun p (_ : PUnit) => (do
        let kv ← p.1
        let vv ← holding [kv] p.2
        holding [kv, vv] (dictSet (H.objs.size + l.length) kv vv)
        pure (ForInStep.yield PUnit.unit) : Sem (ForInStep PUnit))) Q E s := by
  induction hp with
  | nil =>
    intro s es ks n Q hh _ _ _ h
    rw [List.forIn_nil]
    refine wpAny_pure ?_
    have e : ({ s with heap := pushAll H (l ++ [dictObj (es ++ longEnt s.toks []) (n + ([] : List (Int × Str)).length)]), toks := s.toks + 3 * ([] : List (Int × Str)).length } : Shared) = s := by
      obtain ⟨a, b, c, d, f⟩ := s
      simp only [longEnt, List.append_nil, List.length_nil, Nat.add_zero, Nat.mul_zero] at hh ⊢
      rw [← hh]
    rw [e] at h
    exact h
  | @cons p kv ps kvs h1 _ ih =>
    obtain ⟨k, x⟩ := kv
    intro s es ks n Q hh hk hnd hsz h
    rw [List.forIn_cons]
    refine wpAny_bind (wpAny_bind (h1.1 _ _ _ _ (wpAny_bind (wpAny_holding (h1.2 _ _ _ _ (wpAny_bind (wpAny_holding ?_)))))))
    have hn : k ∉ ks := by
      intro q
      have := (List.nodup_append.mp hnd).2.2 k q k (by simp)
      exact this rfl
    have hl : es.length ≤ sizeLine := by lia
    refine dictSet_new (H := H) (l₁ := l) (l₂ := []) (es := es) (ks := ks) (n := n) hh hk hn hl (wpAny_pure ?_)
    refine ih (es := es ++ [⟨hashInt k, .int k s.toks, .str x (s.toks + 1)⟩]) (ks := ks ++ [k]) (n := n + 1) rfl (hk.append (.cons ⟨_, rfl, rfl⟩ .nil)) (by simpa using hnd) (by simp at hsz ⊢; lia) ?_
    have e : es ++ [⟨hashInt k, .int k s.toks, .str x (s.toks + 1)⟩] ++ longEnt (s.toks + 1 + 1 + 1) kvs = es ++ longEnt s.toks ((k, x) :: kvs) := by
      simp [longEnt]
    have e2 : s.toks + 1 + 1 + 1 + 3 * kvs.length = s.toks + 3 * ((k, x) :: kvs).length := by simp; lia
    have e3 : n + 1 + kvs.length = n + ((k, x) :: kvs).length := by simp; lia
    show Q PUnit.unit { s with heap := pushAll H (l ++ [dictObj (es ++ [⟨hashInt k, .int k s.toks, .str x (s.toks + 1)⟩] ++ longEnt (s.toks + 1 + 1 + 1) kvs) (n + 1 + kvs.length)]), toks := s.toks + 1 + 1 + 1 + 3 * kvs.length }
    rw [e, e2, e3]
    exact h
theorem subDict_long {H : Heap} {l : List Obj} {ps : List (Sem Value × Sem Value)} {kvs : List (Int × Str)} (hp : All2 (PairIs prog w) ps kvs) {s : Shared} {Q : Addr → Shared → Prop}
    (hlen : 15 < ps.length) (hle : ps.length ≤ 17) (hnd : (kvs.map (·.1)).Nodup) (hh : s.heap = pushAll H l)
    (h : Q (H.objs.size + l.length) { s with heap := pushAll H (l ++ [dictObj (longEnt s.toks kvs) kvs.length]), toks := s.toks + 3 * kvs.length }) :
    wpAny (model prog w) A (subDict ps) Q E s := by
  unfold subDict
  refine wpAny_bind (wpAny_alloc ?_)
  have es : s.heap.objs.size = H.objs.size + l.length := by rw [hh, pushAll_size]
  rw [es, hh]
  refine wpAny_bind (wpAny_holding ?_)
  rw [if_neg (by lia)]
  refine wpAny_bind (wpAny_rule (wpAny_bind ?_))
  have hpl := hp.length
  refine sub_loop (H := H) (l := l) hp (es := []) (ks := []) (n := 0) (pushAll_push H l _) .nil (by simpa using hnd) (by rw [sizeLine_eq]; simp; lia) ?_
  refine wpAny_pure (wpAny_pure ?_)
  simp only [List.nil_append, Nat.zero_add]
  exact h
end
end
section
section
variable {prog : Program} {w : World} {A : Around} {E : Value → Shared → Prop}
noncomputable def shortVals : Nat → List (Int × Str) → List (Value × Value)
  | _, [] => []
  | t, (k, x) :: r => (.int k t, .str x (t + 1)) :: shortVals (t + 2) r
theorem shortVals_length : ∀ (t : Nat) (l : List (Int × Str)), (shortVals t l).length = l.length
  | _, [] => rfl
  | t, (k, x) :: r => by rw [shortVals, List.length_cons, shortVals_length, List.length_cons]
theorem evalPairs_short {ps : List (Sem Value × Sem Value)} {kvs : List (Int × Str)} (hp : All2 (PairIs prog w) ps kvs) :
    ∀ {s : Shared} {Q : List (Value × Value) → Shared → Prop}, Q (shortVals s.toks kvs) { s with toks := s.toks + 2 * kvs.length } → wpAny (model prog w) A (evalPairs ps) Q E s := by
  induction hp with
  | nil => intro s Q h; exact wpAny_pure h
  | @cons p kv ps kvs h1 _ ih =>
    obtain ⟨k, x⟩ := kv
    intro s Q h
    obtain ⟨p1, p2⟩ := p
    unfold evalPairs
    refine wpAny_bind (h1.1 _ _ _ _ (wpAny_bind (wpAny_holding (h1.2 _ _ _ _ (wpAny_bind (wpAny_holding (ih (wpAny_pure ?_))))))))
    have e2 : s.toks + 1 + 1 + 2 * kvs.length = s.toks + 2 * ((k, x) :: kvs).length := by simp; lia
    show Q ((Value.int k s.toks, Value.str x (s.toks + 1)) :: shortVals (s.toks + 1 + 1) kvs) { s with toks := s.toks + 1 + 1 + 2 * kvs.length }
    rw [e2]
    exact h
theorem short_loop {H : Heap} {l : List Obj} : ∀ (kvs : List (Int × Str)) {t : Nat} {s : Shared} {es : List DictEntry} {ks : List Int} {n : Nat} {Q : PUnit → Shared → Prop},
      s.heap = pushAll H (l ++ [dictObj es n]) → AllKeys es ks → (ks ++ kvs.map (·.1)).Nodup → es.length + kvs.length ≤ sizeLine →
      Q PUnit.unit { s with heap := pushAll H (l ++ [dictObj (es ++ shortEnt t kvs) (n + kvs.length)]), toks := s.toks + kvs.length } →
      wpAny (model prog w) A (forIn (shortVals t kvs) PUnit.unit fun p (_ : PUnit) => (do
        dictSet (H.objs.size + l.length) p.1 p.2
        pure (ForInStep.yield PUnit.unit) : Sem (ForInStep PUnit))) Q E s
  | [], t, s, es, ks, n, Q, hh, _, _, _, h => by
    unfold shortVals
    rw [List.forIn_nil]
    refine wpAny_pure ?_
    have e : ({ s with heap := pushAll H (l ++ [dictObj (es ++ shortEnt t []) (n + ([] : List (Int × Str)).length)]), toks := s.toks + ([] : List (Int × Str)).length } : Shared) = s := by
      obtain ⟨a, b, c, d, f⟩ := s
      simp only [shortEnt, List.append_nil, List.length_nil, Nat.add_zero] at hh ⊢
      rw [← hh]
    rw [e] at h
    exact h
  | (k, x) :: kvs, t, s, es, ks, n, Q, hh, hk, hnd, hsz, h => by
    unfold shortVals
    rw [List.forIn_cons]
    have hn : k ∉ ks := by
      intro q
      have := (List.nodup_append.mp hnd).2.2 k q k (by simp)
      exact this rfl
    have hl : es.length ≤ sizeLine := by lia
    refine wpAny_bind (wpAny_bind (dictSet_new (H := H) (l₁ := l) (l₂ := []) (es := es) (ks := ks) (n := n) hh hk hn hl (wpAny_pure ?_)))
    refine short_loop kvs (es := es ++ [⟨hashInt k, .int k t, .str x (t + 1)⟩]) (ks := ks ++ [k]) (n := n + 1) rfl (hk.append (.cons ⟨_, rfl, rfl⟩ .nil)) (by simpa using hnd) (by simp at hsz ⊢; lia) ?_
    have e : es ++ [⟨hashInt k, .int k t, .str x (t + 1)⟩] ++ shortEnt (t + 2) kvs = es ++ shortEnt t ((k, x) :: kvs) := by
      simp [shortEnt]
    have e2 : s.toks + 1 + kvs.length = s.toks + ((k, x) :: kvs).length := by simp; lia
    have e3 : n + 1 + kvs.length = n + ((k, x) :: kvs).length := by simp; lia
    show Q PUnit.unit { s with heap := pushAll H (l ++ [dictObj (es ++ [⟨hashInt k, .int k t, .str x (t + 1)⟩] ++ shortEnt (t + 2) kvs) (n + 1 + kvs.length)]), toks := s.toks + 1 + kvs.length }
    rw [e, e2, e3]
    exact h
theorem subDict_short {H : Heap} {l : List Obj} {ps : List (Sem Value × Sem Value)} {kvs : List (Int × Str)} (hp : All2 (PairIs prog w) ps kvs) {s : Shared} {Q : Addr → Shared → Prop}
    (hlen : ps.length ≤ 15) (hnd : (kvs.map (·.1)).Nodup) (hh : s.heap = pushAll H l)
    (h : Q (H.objs.size + l.length) { s with heap := pushAll H (l ++ [dictObj (shortEnt s.toks kvs) kvs.length]), toks := s.toks + 3 * kvs.length }) :
    wpAny (model prog w) A (subDict ps) Q E s := by
  unfold subDict
  refine wpAny_bind (wpAny_alloc ?_)
  have es : s.heap.objs.size = H.objs.size + l.length := by rw [hh, pushAll_size]
  rw [es, hh]
  refine wpAny_bind (wpAny_holding ?_)
  rw [if_pos hlen]
  have hpl := hp.length
  refine wpAny_bind (evalPairs_short hp (wpAny_holding (wpAny_bind ?_)))
  refine short_loop (H := H) (l := l) kvs (es := []) (ks := []) (n := 0) (pushAll_push H l _) .nil (by simpa using hnd) (by rw [sizeLine_eq]; simp; lia) ?_
  refine wpAny_pure (wpAny_pure ?_)
  have e2 : s.toks + 2 * kvs.length + kvs.length = s.toks + 3 * kvs.length := by lia
  show Q _ { s with heap := pushAll H (l ++ [dictObj ([] ++ shortEnt s.toks kvs) (0 + kvs.length)]), toks := s.toks + 2 * kvs.length + kvs.length }
  rw [e2]
  simp only [List.nil_append, Nat.zero_add]
  exact h
theorem merge_loop {H : Heap} {l₁ l₂ l₃ : List Obj} {more : List DictEntry} {mk : List Int} {m : Nat} (hm : AllKeys more mk) (epoch : Nat) (hep : epoch = m) :
    ∀ (j i : Nat) {s : Shared} {es : List DictEntry} {ks : List Int} {n : Nat} {Q : PUnit → Shared → Prop}, i + j = more.length →
      s.heap = pushAll H (l₁ ++ dictObj es n :: l₂ ++ dictObj more m :: l₃) → AllKeys es ks → (ks ++ mk.drop i).Nodup → es.length + j ≤ sizeLine →
      Q PUnit.unit { s with heap := pushAll H (l₁ ++ dictObj (es ++ more.drop i) (n + j) :: l₂ ++ dictObj more m :: l₃) } →
      wpAny (model prog w) A (forIn (List.range' i j) PUnit.unit fun i (_ : PUnit) => (do
          let l' ← dictEntries (H.objs.size + (l₁.length + 1 + l₂.length))
          match l'[i]? with
            | some e => do
              holding [e.key, e.val] (dictPut (H.objs.size + l₁.length) e.hash e.key e.val)
              let ep' ← dictEpoch (H.objs.size + (l₁.length + 1 + l₂.length))
              if (ep' != epoch) = true then do
                  (unsupported "dict.changed-during-merge" : Sem PUnit)
                  pure (ForInStep.yield PUnit.unit)
                else pure (ForInStep.yield PUnit.unit)
            | _ => do
              (unsupported "dict.changed-during-merge" : Sem PUnit)
              pure (ForInStep.yield PUnit.unit) : Sem (ForInStep PUnit))) Q E s
  | 0, i, s, es, ks, n, Q, hij, hh, hk, hnd, hsz, h => by
    rw [List.range'_zero, List.forIn_nil]
    refine wpAny_pure ?_
    have e : more.drop i = [] := List.drop_eq_nil_of_le (by lia)
    rw [e, List.append_nil, Nat.add_zero, ← hh] at h
    exact h
  | j + 1, i, s, es, ks, n, Q, hij, hh, hk, hnd, hsz, h => by
    rw [List.range'_succ, List.forIn_cons]
    have hlt : i < more.length := by lia
    have ho : s.heap.get? (H.objs.size + (l₁.length + 1 + l₂.length)) = some (dictObj more m) := by
      rw [hh]
      have := pushAll_get H (l₁ ++ dictObj es n :: l₂) l₃ (dictObj more m) rfl
      simp only [List.length_append, List.length_cons] at this
      rw [show l₁.length + 1 + l₂.length = l₁.length + (l₂.length + 1) by lia]
      exact this
    have hil : i < mk.length := hm.length ▸ hlt
    refine wpAny_bind (wpAny_bind (wpAny_dictEntries ho rfl ?_))
    have ei : more.toArray[i]? = some more[i] := by simp [hlt]
    simp only [ei]
    have hkey : KeyOf more[i] mk[i] := by
      clear ei h hnd hh hij hsz ho
      induction hm generalizing i with
      | nil => cases hlt
      | cons h1 _ ih =>
        cases i with
        | zero => exact h1
        | succ i => exact ih i (by simpa using hlt) (by simpa using hil)
    obtain ⟨t, hkt, hkh⟩ := hkey
    have hn : mk[i] ∉ ks := by
      intro q
      have e : mk.drop i = mk[i] :: mk.drop (i + 1) := List.drop_eq_getElem_cons hil
      rw [e] at hnd
      exact (List.nodup_append.mp hnd).2.2 _ q _ List.mem_cons_self rfl
    have hl : es.length ≤ sizeLine := by lia
    rw [hkt, hkh]
    have hh' : s.heap = pushAll H (l₁ ++ dictObj es n :: (l₂ ++ dictObj more m :: l₃)) := by rw [hh]; simp
    refine wpAny_bind (wpAny_holding (dictPut_new (H := H) (l₁ := l₁) (l₂ := l₂ ++ dictObj more m :: l₃) hh' hk hn hl ?_))
    have e1 : ({ s with heap := pushAll H (l₁ ++ dictObj (es ++ [⟨hashInt mk[i], .int mk[i] t, more[i].val⟩]) (n + 1) :: (l₂ ++ dictObj more m :: l₃)) } : Shared).heap.get? (H.objs.size + (l₁.length + 1 + l₂.length)) = some (dictObj more m) := by
      have := pushAll_get H (l₁ ++ dictObj (es ++ [⟨hashInt mk[i], .int mk[i] t, more[i].val⟩]) (n + 1) :: l₂) l₃ (dictObj more m) rfl
      simp only [List.length_append, List.length_cons] at this
      rw [show l₁.length + 1 + l₂.length = l₁.length + (l₂.length + 1) by lia]
      simpa using this
    refine wpAny_bind (wpAny_dictEpoch e1 rfl ?_)
    rw [if_neg (by simp [hep])]
    refine wpAny_pure ?_
    have eent : (⟨hashInt mk[i], .int mk[i] t, more[i].val⟩ : DictEntry) = more[i] := by
      rw [← hkt, ← hkh]
    refine merge_loop (l₃ := l₃) hm epoch hep j (i + 1) (es := es ++ [more[i]]) (ks := ks ++ [mk[i]]) (n := n + 1) (by lia) ?_ (hk.append (.cons ⟨t, hkt, hkh⟩ .nil)) ?_ (by simp; lia) ?_
    · show pushAll H _ = _
      rw [eent]
      simp
    · have e : mk.drop i = mk[i] :: mk.drop (i + 1) := List.drop_eq_getElem_cons hil
      rw [e] at hnd
      simpa using hnd
    · have e : more.drop i = more[i] :: more.drop (i + 1) := List.drop_eq_getElem_cons hlt
      rw [e] at h
      have e3 : n + 1 + j = n + (j + 1) := by lia
      show Q PUnit.unit { s with heap := pushAll H (l₁ ++ dictObj (es ++ [more[i]] ++ more.drop (i + 1)) (n + 1 + j) :: l₂ ++ dictObj more m :: l₃) }
      have ea : es ++ [more[i]] ++ more.drop (i + 1) = es ++ more[i] :: more.drop (i + 1) := by simp
      rw [e3, ea]
      exact h
end
end
section
section
variable {prog : Program} {w : World} {A : Around} {E : Value → Shared → Prop}
theorem merge_two {H : Heap} {o₁ o₂ : Nat} {l₁ l₂ l₃ : List Obj} {es more : List DictEntry} {ks mk : List Int} {n m : Nat} {s : Shared} {Q : Unit → Shared → Prop}
    (h1 : o₁ = H.objs.size + l₁.length) (h2 : o₂ = H.objs.size + (l₁.length + 1 + l₂.length)) (hs : (o₂ == sysModules) = false) (hne : es ≠ [])
    (hh : s.heap = pushAll H (l₁ ++ dictObj es n :: l₂ ++ dictObj more m :: l₃)) (hk : AllKeys es ks) (hm : AllKeys more mk) (hnd : (ks ++ mk).Nodup) (hsz : es.length + more.length ≤ sizeLine)
    (h : Q () { s with heap := pushAll H (l₁ ++ dictObj (es ++ more) (n + more.length) :: l₂ ++ dictObj more m :: l₃) }) :
    wpAny (model prog w) A (mergeMapping o₁ (.ref o₂) false) Q E s := by
  subst h1 h2
  have ho : s.heap.get? (H.objs.size + (l₁.length + 1 + l₂.length)) = some (dictObj more m) := by
    rw [hh]
    have := pushAll_get H (l₁ ++ dictObj es n :: l₂) l₃ (dictObj more m) rfl
    simp only [List.length_append, List.length_cons] at this
    rw [show l₁.length + 1 + l₂.length = l₁.length + (l₂.length + 1) by lia]
    exact this
  have hd : s.heap.get? (H.objs.size + l₁.length) = some (dictObj es n) := by
    rw [hh]
    have := pushAll_get H l₁ (l₂ ++ dictObj more m :: l₃) (dictObj es n) rfl
    simpa using this
  have hT : s.TypeIs (.ref (H.objs.size + (l₁.length + 1 + l₂.length))) "dict" := ⟨_, ho, rfl⟩
  unfold mergeMapping
  refine wpAny_bind (wpAny_isInstance hT (show isSubtype (.type "dict") (.type "dict") = pure true by rw [isSubtype_type]; kernel_rfl) ?_)
  rw [if_pos rfl]
  refine wpAny_bind (wpAny_specialOf hT F.slot_dict_iter.lookup ?_)
  refine wpAny_bind (wpAny_pure ?_)
  have eb : (some (Value.builtin "dict.__iter__") == some (Value.builtin "dict.__iter__")) = true := by decide +kernel
  simp only [eb]
  rw [if_neg (by rw [hs]; exact Bool.false_ne_true)]
  refine wpAny_bind (wpAny_dictEntries hd rfl ?_)
  rw [if_neg (by cases es with | nil => exact absurd rfl hne | cons => simp)]
  refine wpAny_bind (wpAny_dictEntries ho rfl ?_)
  refine wpAny_bind (wpAny_dictEpoch ho rfl ?_)
  refine wpAny_bind ?_
  have hr : List.range more.toArray.size = List.range' 0 more.length := by rw [List.range_eq_range']; simp
  rw [hr]
  refine merge_loop (l₁ := l₁) (l₂ := l₂) (l₃ := l₃) hm m rfl more.length 0 (es := es) (ks := ks) (n := n) (by lia) hh hk (by simpa using hnd) hsz (wpAny_pure ?_)
  simpa using h
end
end
section
noncomputable abbrev DItem := Option (Sem Value) × Sem Value
noncomputable abbrev DState := Option Addr × List (Sem Value × Sem Value)
noncomputable abbrev itemOf (p : Sem Value × Sem Value) : DItem := (some p.1, p.2)
theorem gather {f : DItem → DState → Sem (ForInStep DState)}
    (hf : ∀ (p : Sem Value × Sem Value) (main : Option Addr) (run : List (Sem Value × Sem Value)), run.length + 1 < 17 → f (itemOf p) (main, run) = pure (.yield (main, run ++ [p]))) :
    ∀ (ps : List (Sem Value × Sem Value)) (rest : List DItem) (main : Option Addr) (run : List (Sem Value × Sem Value)), run.length + ps.length < 17 →
      forIn (ps.map itemOf ++ rest) ((main, run) : DState) f = forIn rest ((main, run ++ ps) : DState) f
  | [], rest, main, run, _ => by simp
  | p :: ps, rest, main, run, h => by
    rw [List.map_cons, List.cons_append, List.forIn_cons, hf p main run (by simp at h; lia), pure_bind]
    have := gather hf ps rest main (run ++ [p]) (by simp at h ⊢; lia)
    simpa using this
noncomputable def ent (t : Nat) (c : List (Int × Str)) : List DictEntry := if 15 < c.length then longEnt t c else shortEnt t c
theorem ent_length (t : Nat) (c : List (Int × Str)) : (ent t c).length = c.length := by
  unfold ent; split
  · exact longEnt_length t c
  · exact shortEnt_length t c
theorem ent_keys (t : Nat) (c : List (Int × Str)) : AllKeys (ent t c) (c.map (·.1)) := by
  unfold ent; split
  · exact longEnt_keys t c
  · exact shortEnt_keys t c
noncomputable def entAll : Nat → List (List (Int × Str)) → List DictEntry
  | _, [] => []
  | t, c :: r => ent t c ++ entAll (t + 3 * c.length) r
noncomputable def garbAll : Nat → List (List (Int × Str)) → List Obj
  | _, [] => []
  | t, c :: r => dictObj (ent t c) c.length :: garbAll (t + 3 * c.length) r
noncomputable def total : List (List (Int × Str)) → Nat
  | [] => 0
  | c :: r => c.length + total r
section
variable {prog : Program} {w : World} {A : Around} {E : Value → Shared → Prop}
theorem subDict_any {H : Heap} {l : List Obj} {ps : List (Sem Value × Sem Value)} {kvs : List (Int × Str)} (hp : All2 (PairIs prog w) ps kvs) {s : Shared} {Q : Addr → Shared → Prop}
    (hle : ps.length ≤ 17) (hnd : (kvs.map (·.1)).Nodup) (hh : s.heap = pushAll H l)
    (h : Q (H.objs.size + l.length) { s with heap := pushAll H (l ++ [dictObj (ent s.toks kvs) kvs.length]), toks := s.toks + 3 * kvs.length }) :
    wpAny (model prog w) A (subDict ps) Q E s := by
  have hl := hp.length
  unfold ent at h
  by_cases c : 15 < ps.length
  · rw [if_pos (by lia)] at h
    exact subDict_long hp c hle hnd hh h
  · rw [if_neg (by lia)] at h
    exact subDict_short hp (by lia) hnd hh h
theorem flush_some {H : Heap} {g : List Obj} {es : List DictEntry} {ks : List Int} {n : Nat} {ps : List (Sem Value × Sem Value)} {kvs : List (Int × Str)} (hp : All2 (PairIs prog w) ps kvs) {s : Shared} {Q : Shared → Prop}
    (hle : ps.length ≤ 17) (hS : sysModules < H.objs.size) (hne : es ≠ []) (hh : s.heap = pushAll H (dictObj es n :: g)) (hk : AllKeys es ks) (hnd : (ks ++ kvs.map (·.1)).Nodup) (hsz : es.length + kvs.length ≤ sizeLine)
    (h : Q { s with heap := pushAll H (dictObj (es ++ ent s.toks kvs) (n + kvs.length) :: (g ++ [dictObj (ent s.toks kvs) kvs.length])), toks := s.toks + 3 * kvs.length }) :
    wpAny (model prog w) A (subDict ps) (fun sub s' => ∀ E', wpAny (model prog w) A (mergeMapping H.objs.size (.ref sub) false) (fun _ s'' => Q s'') E' s') E s := by
  refine subDict_any (H := H) (l := dictObj es n :: g) hp hle (List.nodup_append.mp hnd).2.1 hh ?_
  intro E'
  refine merge_two (H := H) (l₁ := []) (l₂ := g) (l₃ := []) (es := es) (more := ent s.toks kvs) (ks := ks) (mk := kvs.map (·.1)) (n := n) (m := kvs.length) (by simp) (by simp; lia) ?_ hne (by simp) hk (ent_keys _ _) hnd
    (by rw [ent_length]; exact hsz) ?_
  · exact beq_eq_false_iff_ne.mpr fun e => absurd hS (by rw [← e]; simp)
  · rw [ent_length]
    simpa using h
theorem display_rest {f : DItem → DState → Sem (ForInStep DState)}
    (hf : ∀ (p : Sem Value × Sem Value) (main : Option Addr) (run : List (Sem Value × Sem Value)), run.length + 1 < 17 → f (itemOf p) (main, run) = pure (.yield (main, run ++ [p])))
    (hs : ∀ (p : Sem Value × Sem Value) (d : Addr) (run : List (Sem Value × Sem Value)), run.length + 1 = 17 → ∀ (s : Shared) (Q : ForInStep DState → Shared → Prop),
      wpAny (model prog w) A (subDict (run ++ [p])) (fun sub s' => ∀ E', wpAny (model prog w) A (mergeMapping d (.ref sub) false) (fun _ s'' => Q (.yield (some d, [])) s'') E' s') E s → wpAny (model prog w) A (f (itemOf p) (some d, run)) Q E s)
    {H : Heap} (hS : sysModules < H.objs.size) :
    ∀ (cs : List (List (Int × Str))) (last : List (Int × Str)) (ps : List (Sem Value × Sem Value)) {s : Shared} {g : List Obj} {es : List DictEntry} {ks : List Int} {n : Nat} {Q : DState → Shared → Prop},
      (∀ c ∈ cs, c.length = 17) → last.length < 17 → All2 (PairIs prog w) ps (cs.flatten ++ last) → es ≠ [] → s.heap = pushAll H (dictObj es n :: g) → AllKeys es ks →
      (ks ++ (cs.flatten ++ last).map (·.1)).Nodup → es.length + (cs.flatten ++ last).length ≤ sizeLine →
      (∀ lp, All2 (PairIs prog w) lp last → Q (some H.objs.size, lp) { s with heap := pushAll H (dictObj (es ++ entAll s.toks cs) (n + total cs) :: (g ++ garbAll s.toks cs)), toks := s.toks + 3 * total cs }) →
      wpAny (model prog w) A (forIn (ps.map itemOf) ((some H.objs.size, []) : DState) f) Q E s
  | [], last, ps, s, g, es, ks, n, Q, hc, hl, hp, hne, hh, hk, hnd, hsz, h => by
    have hpl := hp.length
    have := gather hf ps [] (some H.objs.size) [] (by simp at hpl ⊢; lia)
    rw [List.append_nil] at this
    rw [this, List.forIn_nil]
    refine wpAny_pure ?_
    have h' := h ps (by simpa using hp)
    simp only [entAll, garbAll, total, List.append_nil, Nat.add_zero, Nat.mul_zero, List.nil_append] at h' ⊢
    rw [← hh] at h'
    exact h'
  | c :: cs, last, ps, s, g, es, ks, n, Q, hc, hl, hp, hne, hh, hk, hnd, hsz, h => by
    have hc17 := hc c List.mem_cons_self
    rw [List.flatten_cons, List.append_assoc] at hp hnd hsz
    have split : ∀ {a b : List (Int × Str)} {ps : List (Sem Value × Sem Value)}, All2 (PairIs prog w) ps (a ++ b) → ∃ x y, ps = x ++ y ∧ All2 (PairIs prog w) x a ∧ All2 (PairIs prog w) y b := by
      intro a
      induction a with
      | nil => intro b ps h; exact ⟨[], ps, rfl, .nil, h⟩
      | cons v a ih =>
        intro b ps h
        cases h with
        | cons h1 h2 =>
          obtain ⟨x, y, rfl, hx, hy⟩ := ih h2
          exact ⟨_ :: x, y, rfl, .cons h1 hx, hy⟩
    obtain ⟨x, y, rfl, hx, hy⟩ := split hp
    have hxl := hx.length
    obtain ⟨x₀, p, rfl⟩ : ∃ x₀ p, x = x₀ ++ [p] := by
      rcases List.eq_nil_or_concat x with e | ⟨x₀, p, e⟩
      · subst e; simp at hxl; lia
      · exact ⟨x₀, p, by simpa using e⟩
    have hx0 : x₀.length + 1 = 17 := by simp at hxl; lia
    rw [List.map_append, List.map_append, List.append_assoc, gather hf x₀ _ (some H.objs.size) [] (by simp; lia), List.map_cons, List.map_nil, List.singleton_append, List.forIn_cons, List.nil_append]
    refine wpAny_bind (hs p H.objs.size x₀ hx0 _ _ ?_)
    have hnd1 : (ks ++ c.map (·.1)).Nodup := by
      rw [List.map_append, ← List.append_assoc] at hnd
      exact (List.nodup_append.mp hnd).1
    refine flush_some (H := H) (g := g) (es := es) (ks := ks) (n := n) hx (by simp; lia) hS hne hh hk hnd1 (by simp at hsz; lia) ?_
    show wpAny (model prog w) A (forIn (y.map itemOf) ((some H.objs.size, []) : DState) f) Q E _
    refine display_rest hf hs hS cs last y (g := g ++ [dictObj (ent s.toks c) c.length]) (es := es ++ ent s.toks c) (ks := ks ++ c.map (·.1)) (n := n + c.length) (fun c' h' => hc c' (List.mem_cons_of_mem _ h')) hl hy (by simp [hne]) rfl (hk.append (ent_keys _ _)) (by simpa using hnd)
      (by rw [List.length_append, ent_length]; simp at hsz ⊢; lia) ?_
    intro lp hlp
    have h' := h lp hlp
    simp only [entAll, garbAll, total] at h'
    have e1 : n + c.length + total cs = n + (c.length + total cs) := by lia
    have e2 : s.toks + 3 * c.length + 3 * total cs = s.toks + 3 * (c.length + total cs) := by lia
    have e3 : es ++ ent s.toks c ++ entAll (s.toks + 3 * c.length) cs = es ++ (ent s.toks c ++ entAll (s.toks + 3 * c.length) cs) := List.append_assoc ..
    have e4 : g ++ [dictObj (ent s.toks c) c.length] ++ garbAll (s.toks + 3 * c.length) cs = g ++ (dictObj (ent s.toks c) c.length :: garbAll (s.toks + 3 * c.length) cs) := by simp
    show Q (some H.objs.size, lp) { s with heap := pushAll H (dictObj (es ++ ent s.toks c ++ entAll (s.toks + 3 * c.length) cs) (n + c.length + total cs) :: (g ++ [dictObj (ent s.toks c) c.length] ++ garbAll (s.toks + 3 * c.length) cs)), toks := s.toks + 3 * c.length + 3 * total cs }
    rw [e1, e2, e3, e4]
    exact h'
end
end
section
theorem all2_split {α β : Type} {R : α → β → Prop} : ∀ {a b : List β} {ps : List α}, All2 R ps (a ++ b) → ∃ x y, ps = x ++ y ∧ All2 R x a ∧ All2 R y b
  | [], b, ps, h => ⟨[], ps, rfl, .nil, h⟩
  | v :: a, b, ps, h => by
    cases h with
    | cons h1 h2 =>
      obtain ⟨x, y, rfl, hx, hy⟩ := all2_split h2
      exact ⟨_ :: x, y, rfl, .cons h1 hx, hy⟩
section
variable {prog : Program} {w : World} {A : Around} {E : Value → Shared → Prop}
theorem display_first {f : DItem → DState → Sem (ForInStep DState)}
    (hf : ∀ (p : Sem Value × Sem Value) (main : Option Addr) (run : List (Sem Value × Sem Value)), run.length + 1 < 17 → f (itemOf p) (main, run) = pure (.yield (main, run ++ [p])))
    (hn : ∀ (p : Sem Value × Sem Value) (run : List (Sem Value × Sem Value)), run.length + 1 = 17 → ∀ (s : Shared) (Q : ForInStep DState → Shared → Prop),
      wpAny (model prog w) A (subDict (run ++ [p])) (fun d s' => Q (.yield (some d, [])) s') E s → wpAny (model prog w) A (f (itemOf p) (none, run)) Q E s)
    (hs : ∀ (p : Sem Value × Sem Value) (d : Addr) (run : List (Sem Value × Sem Value)), run.length + 1 = 17 → ∀ (s : Shared) (Q : ForInStep DState → Shared → Prop),
      wpAny (model prog w) A (subDict (run ++ [p])) (fun sub s' => ∀ E', wpAny (model prog w) A (mergeMapping d (.ref sub) false) (fun _ s'' => Q (.yield (some d, [])) s'') E' s') E s → wpAny (model prog w) A (f (itemOf p) (some d, run)) Q E s)
    {s : Shared} (hS : sysModules < s.heap.objs.size) {c0 : List (Int × Str)} {cs : List (List (Int × Str))} {last : List (Int × Str)} {ps : List (Sem Value × Sem Value)} {Q : DState → Shared → Prop}
    (h0 : c0.length = 17) (hc : ∀ c ∈ cs, c.length = 17) (hl : last.length < 17) (hp : All2 (PairIs prog w) ps (c0 ++ (cs.flatten ++ last)))
    (hnd : ((c0 ++ (cs.flatten ++ last)).map (·.1)).Nodup) (hsz : (c0 ++ (cs.flatten ++ last)).length ≤ sizeLine)
    (h : ∀ lp, All2 (PairIs prog w) lp last → Q (some s.heap.objs.size, lp)
      { s with heap := pushAll s.heap (dictObj (ent s.toks c0 ++ entAll (s.toks + 3 * 17) cs) (17 + total cs) :: garbAll (s.toks + 3 * 17) cs), toks := s.toks + 3 * 17 + 3 * total cs }) :
    wpAny (model prog w) A (forIn (ps.map itemOf) ((none, []) : DState) f) Q E s := by
  obtain ⟨x, y, rfl, hx, hy⟩ := all2_split hp
  have hxl := hx.length
  obtain ⟨x₀, p, rfl⟩ : ∃ x₀ p, x = x₀ ++ [p] := by
    rcases List.eq_nil_or_concat x with e | ⟨x₀, p, e⟩
    · subst e; simp at hxl; lia
    · exact ⟨x₀, p, by simpa using e⟩
  have hx0 : x₀.length + 1 = 17 := by simp at hxl; lia
  rw [List.map_append, List.map_append, List.append_assoc, gather hf x₀ _ none [] (by simp; lia), List.map_cons, List.map_nil, List.singleton_append, List.forIn_cons, List.nil_append]
  rw [List.map_append] at hnd
  refine wpAny_bind (hn p x₀ hx0 _ _ ?_)
  refine subDict_any (H := s.heap) (l := []) hx (by simp; lia) (List.nodup_append.mp hnd).1 (pushAll_nil _).symm ?_
  simp only [List.length_nil, Nat.add_zero, List.nil_append]
  rw [h0]
  refine display_rest hf hs (H := s.heap) hS cs last y (g := []) (es := ent s.toks c0) (ks := c0.map (·.1)) (n := 17) hc hl hy ?_ rfl (ent_keys _ _) hnd (by rw [ent_length]; simpa using hsz) ?_
  · intro e
    have := ent_length s.toks c0
    rw [e, h0] at this
    cases this
  · intro lp hlp
    have h' := h lp hlp
    simpa using h'
theorem entAll_snoc (l : List (Int × Str)) : ∀ (cs : List (List (Int × Str))) (t : Nat), entAll t (cs ++ [l]) = entAll t cs ++ ent (t + 3 * total cs) l
  | [], t => by simp [entAll, total]
  | c :: cs, t => by
    rw [List.cons_append, entAll, entAll_snoc l cs, entAll, total, List.append_assoc]
    congr 3
    lia
theorem garbAll_snoc (l : List (Int × Str)) : ∀ (cs : List (List (Int × Str))) (t : Nat), garbAll t (cs ++ [l]) = garbAll t cs ++ [dictObj (ent (t + 3 * total cs) l) l.length]
  | [], t => by simp [garbAll, total]
  | c :: cs, t => by
    rw [List.cons_append, garbAll, garbAll_snoc l cs, garbAll, total, List.cons_append]
    congr 4
    congr 1
    lia
theorem total_snoc (l : List (Int × Str)) : ∀ (cs : List (List (Int × Str))), total (cs ++ [l]) = total cs + l.length
  | [] => by simp [total]
  | c :: cs => by rw [List.cons_append, total, total_snoc l cs, total]; lia
theorem entAll_keys : ∀ (cs : List (List (Int × Str))) (t : Nat), AllKeys (entAll t cs) (cs.flatten.map (·.1))
  | [], _ => .nil
  | c :: cs, t => by
    rw [entAll, List.flatten_cons, List.map_append]
    exact (ent_keys t c).append (entAll_keys cs _)
theorem entAll_length : ∀ (cs : List (List (Int × Str))) (t : Nat), (entAll t cs).length = total cs
  | [], _ => rfl
  | c :: cs, t => by rw [entAll, List.length_append, ent_length, entAll_length cs, total]
theorem total_flatten : ∀ (cs : List (List (Int × Str))), cs.flatten.length = total cs
  | [] => rfl
  | c :: cs => by rw [List.flatten_cons, List.length_append, total_flatten cs, total]
theorem display {s : Shared} {c0 : List (Int × Str)} {cs : List (List (Int × Str))} {last : List (Int × Str)} {ps : List (Sem Value × Sem Value)} {Q : Value → Shared → Prop}
    (hS : sysModules < s.heap.objs.size) (h0 : c0.length = 17) (hc : ∀ c ∈ cs, c.length = 17) (hl : last.length < 17) (hl0 : last ≠ []) (hp : All2 (PairIs prog w) ps (c0 ++ (cs.flatten ++ last)))
    (hnd : ((c0 ++ (cs.flatten ++ last)).map (·.1)).Nodup) (hsz : (c0 ++ (cs.flatten ++ last)).length ≤ sizeLine)
    (h : Q (.ref s.heap.objs.size) { s with heap := pushAll s.heap (dictObj (entAll s.toks (c0 :: (cs ++ [last]))) (total (c0 :: (cs ++ [last]))) :: garbAll (s.toks + 3 * 17) (cs ++ [last])), toks := s.toks + 3 * total (c0 :: (cs ++ [last])) }) :
    wpAny (model prog w) A (dictDisplay (ps.map itemOf)) Q E s := by
  unfold dictDisplay
  dsimp only
  refine wpAny_bind ?_
  refine display_first ?_ ?_ ?_ hS h0 hc hl hp hnd hsz ?_
  · intro p main run hr
    have hne : ((run ++ [(p.1, p.2)]).length == 17) = false := by simp; lia
    simp only [hne, Bool.false_eq_true, if_false]
  · intro p run hr s Q h
    have hne : ((run ++ [(p.1, p.2)]).length == 17) = true := by simp; lia
    have hem : (run ++ [(p.1, p.2)]).isEmpty = false := by simp
    simp only [hne, hem, if_true, Bool.false_eq_true, if_false]
    exact wpAny_bind (wpAny_bind (wpAny_mono h (fun _ _ x => wpAny_pure (wpAny_pure x)) fun _ _ x => x))
  · intro p d run hr s Q h
    have hne : ((run ++ [(p.1, p.2)]).length == 17) = true := by simp; lia
    have hem : (run ++ [(p.1, p.2)]).isEmpty = false := by simp
    simp only [hne, hem, if_true, Bool.false_eq_true, if_false]
    exact wpAny_bind (wpAny_bind (wpAny_holding (wpAny_mono h (fun _ _ x => wpAny_bind (wpAny_onRaise (wpAny_holding (wpAny_mono (x _) (fun _ _ y => wpAny_pure (wpAny_pure y)) fun _ _ y => y)))) fun _ _ x => x)))
  · intro lp hlp
    have hle : lp.isEmpty = false := by
      cases hlp with
      | nil => exact absurd rfl hl0
      | cons => rfl
    simp only [hle, Bool.false_eq_true, if_false]
    have hll := hlp.length
    refine wpAny_bind (wpAny_bind (wpAny_holding ?_))
    have hk : AllKeys (ent s.toks c0 ++ entAll (s.toks + 3 * 17) cs) ((c0 ++ cs.flatten).map (·.1)) := by
      rw [List.map_append]; exact (ent_keys _ _).append (entAll_keys _ _)
    refine wpAny_mono (flush_some (H := s.heap) (g := garbAll (s.toks + 3 * 17) cs) (es := ent s.toks c0 ++ entAll (s.toks + 3 * 17) cs) (ks := (c0 ++ cs.flatten).map (·.1)) (n := 17 + total cs) hlp (by lia) hS ?_ rfl hk (by simpa using hnd) ?_
      (Q := fun s'' => Q (.ref s.heap.objs.size) s'') ?_) (fun sub s' x => wpAny_bind (wpAny_onRaise (wpAny_holding (wpAny_mono (x _) (fun _ _ y => wpAny_pure (wpAny_pure y)) fun _ _ y => y)))) fun _ _ x => x
    · intro e
      have := ent_length s.toks c0
      rw [List.append_eq_nil_iff] at e
      rw [e.1, h0] at this
      cases this
    · rw [List.length_append, ent_length, entAll_length]
      simp only [List.length_append] at hsz
      rw [total_flatten] at hsz
      lia
    · have e1 : entAll s.toks (c0 :: (cs ++ [last])) = ent s.toks c0 ++ entAll (s.toks + 3 * 17) cs ++ ent (s.toks + 3 * 17 + 3 * total cs) last := by
        rw [entAll, h0, entAll_snoc, List.append_assoc]
      have e2 : total (c0 :: (cs ++ [last])) = 17 + total cs + last.length := by rw [total, total_snoc, h0]; lia
      rw [e1, e2, garbAll_snoc] at h
      have e3 : s.toks + 3 * (17 + total cs + last.length) = s.toks + 3 * 17 + 3 * total cs + 3 * last.length := by lia
      rw [e3] at h
      exact h
end
end
section
noncomputable abbrev pw : Program := PySem.Challenge.pw_us0015_01
noncomputable abbrev S (s : String) : Str := Str.ofString s
noncomputable abbrev E (P : Params) (x : Str) (t : Nat) (v : Value) : DictEntry := ⟨PyData.keyHash P x, .str x t, v⟩
@[irreducible] noncomputable def defAt (i : Nat) : Str × Arguments × List Stmt × Scope := match pw.main.body[i]? with
  | some (.FunctionDef n a b _ _ _ sc _ _ _) => (n, a, b, sc)
  | _ => (Str.empty, ⟨[], [], none, [], [], none, []⟩, [], ⟨.module, [], false, false, []⟩)
noncomputable def fnO (i g : Nat) (code d kd md : Value) : FuncData :=
  { name := (defAt i).1, qualname := (defAt i).1, params := (defAt i).2.1, body := .stmts (defAt i).2.2.1, scope := (defAt i).2.2.2, globals := g, closure := [], defaults := d, kwdefaults := kd, doc := .none,
    pyModule := md, annotations := none, code := code, closureTuple := .none, builtins := 0 }
@[irreducible] noncomputable def topStmts : List Stmt := behindTheImports pw
@[irreducible] noncomputable def dictParts : List (Option Expr) × List Expr × Pos × Pos × Pos := match (topStmts[14]? : Option Stmt) with
  | some (.Assign [.Name _ p1] (.Dict ks vs p2) p3) => (ks, vs, p1, p2, p3)
  | _ => ([], [], default, default, default)
noncomputable def kvOf : Option Expr → Expr → Int × Str
  | some (.Constant (.int k) _ _), .Constant (.str x) _ _ => (k, x)
  | _, _ => (0, Str.empty)
noncomputable def kvsOf : List (Option Expr) → List Expr → List (Int × Str)
  | k :: ks, v :: vs => kvOf k v :: kvsOf ks vs
  | _, _ => []
@[irreducible] noncomputable def b3kvs : List (Int × Str) := kvsOf dictParts.1 dictParts.2.1
@[irreducible] noncomputable def chunkAt (i : Nat) : List (Int × Str) := (b3kvs.drop (17 * i)).take 17
@[irreducible] noncomputable def chunksMid : List (List (Int × Str)) := (List.range 37).map fun i => chunkAt (i + 1)
@[irreducible] noncomputable def chunkLast : List (Int × Str) := b3kvs.drop 646
@[irreducible] noncomputable def b3ents : List DictEntry := entAll 470 (chunkAt 0 :: (chunksMid ++ [chunkLast]))
@[irreducible] noncomputable def dAll : List Obj := dictObj b3ents (total (chunkAt 0 :: (chunksMid ++ [chunkLast]))) :: garbAll (470 + 3 * 17) (chunksMid ++ [chunkLast])
@[irreducible] noncomputable def dO (i : Nat) : Obj := dAll.getD i default
@[irreducible] noncomputable def o0z (P : Params) : Obj := ⟨(.type "dict"), none, (.dict #[E P (S "__name__") 1 (.str (S "builtins") 160), E P (S "__doc__") 2 (.builtin "builtins.__doc__:str#opaque"), E P (S "__package__") 3 (.builtin "builtins.__package__:str#opaque"), E P (S "__loader__") 4 (.builtin "builtins.__loader__:shared#opaque"), E P (S "__spec__") 5 (.builtin "builtins.__spec__#opaque"), E P (S "__build_class__") 6 (.builtin "__build_class__"), E P (S "__import__") 7 (.builtin "__import__"), E P (S "abs") 8 (.builtin "abs"), E P (S "all") 9 (.builtin "all"), E P (S "any") 10 (.builtin "any"), E P (S "ascii") 11 (.builtin "ascii"), E P (S "bin") 12 (.builtin "bin"), E P (S "breakpoint") 13 (.builtin "breakpoint"), E P (S "callable") 14 (.builtin "callable"), E P (S "chr") 15 (.builtin "chr"), E P (S "compile") 16 (.builtin "compile"), E P (S "delattr") 17 (.builtin "delattr"), E P (S "dir") 18 (.builtin "dir"), E P (S "divmod") 19 (.builtin "divmod"), E P (S "eval") 20 (.builtin "eval"), E P (S "exec") 21 (.builtin "exec"), E P (S "format") 22 (.builtin "format"), E P (S "getattr") 23 (.builtin "getattr"), E P (S "globals") 24 (.builtin "globals"), E P (S "hasattr") 25 (.builtin "hasattr"), E P (S "hash") 26 (.builtin "hash"), E P (S "hex") 27 (.builtin "hex"), E P (S "id") 28 (.builtin "id"), E P (S "input") 29 (.builtin "input"), E P (S "isinstance") 30 (.builtin "isinstance"), E P (S "issubclass") 31 (.builtin "issubclass"), E P (S "iter") 32 (.builtin "iter"), E P (S "aiter") 33 (.builtin "aiter"), E P (S "len") 34 (.builtin "len"), E P (S "locals") 35 (.builtin "locals"), E P (S "max") 36 (.builtin "max"), E P (S "min") 37 (.builtin "min"), E P (S "next") 38 (.builtin "next"), E P (S "anext") 39 (.builtin "anext"), E P (S "oct") 40 (.builtin "oct"), E P (S "ord") 41 (.builtin "ord"), E P (S "pow") 42 (.builtin "pow"), E P (S "print") 43 (.builtin "print"), E P (S "repr") 44 (.builtin "repr"), E P (S "round") 45 (.builtin "round"), E P (S "setattr") 46 (.builtin "setattr"), E P (S "sorted") 47 (.builtin "sorted"), E P (S "sum") 48 (.builtin "sum"), E P (S "vars") 49 (.builtin "vars"), E P (S "None") 50 .none, E P (S "Ellipsis") 51 .ellipsis, E P (S "NotImplemented") 52 .notImplemented, E P (S "False") 53 (.bool false), E P (S "True") 54 (.bool true), E P (S "bool") 55 (.type "bool"), E P (S "memoryview") 56 (.type "memoryview"), E P (S "bytearray") 57 (.type "bytearray"), E P (S "bytes") 58 (.type "bytes"), E P (S "classmethod") 59 (.type "classmethod"), E P (S "complex") 60 (.type "complex"), E P (S "dict") 61 (.type "dict"), E P (S "enumerate") 62 (.type "enumerate"), E P (S "filter") 63 (.type "filter"), E P (S "float") 64 (.type "float"), E P (S "frozenset") 65 (.type "frozenset"), E P (S "property") 66 (.type "property"), E P (S "int") 67 (.type "int"), E P (S "list") 68 (.type "list"), E P (S "map") 69 (.type "map"), E P (S "object") 70 (.type "object"), E P (S "range") 71 (.type "range"), E P (S "reversed") 72 (.type "reversed"), E P (S "set") 73 (.type "set"), E P (S "slice") 74 (.type "slice"), E P (S "staticmethod") 75 (.type "staticmethod"), E P (S "str") 76 (.type "str"), E P (S "super") 77 (.type "super"), E P (S "tuple") 78 (.type "tuple"), E P (S "type") 79 (.type "type"), E P (S "zip") 80 (.type "zip"), E P (S "__debug__") 81 (.bool true), E P (S "BaseException") 82 (.type "BaseException"), E P (S "BaseExceptionGroup") 83 (.type "BaseExceptionGroup"), E P (S "Exception") 84 (.type "Exception"), E P (S "GeneratorExit") 85 (.type "GeneratorExit"), E P (S "KeyboardInterrupt") 86 (.type "KeyboardInterrupt"), E P (S "SystemExit") 87 (.type "SystemExit"), E P (S "ArithmeticError") 88 (.type "ArithmeticError"), E P (S "AssertionError") 89 (.type "AssertionError"), E P (S "AttributeError") 90 (.type "AttributeError"), E P (S "BufferError") 91 (.type "BufferError"), E P (S "EOFError") 92 (.type "EOFError"), E P (S "ImportError") 93 (.type "ImportError"), E P (S "LookupError") 94 (.type "LookupError"), E P (S "MemoryError") 95 (.type "MemoryError"), E P (S "NameError") 96 (.type "NameError"), E P (S "OSError") 97 (.type "OSError"), E P (S "ReferenceError") 98 (.type "ReferenceError"), E P (S "RuntimeError") 99 (.type "RuntimeError"), E P (S "StopAsyncIteration") 100 (.type "StopAsyncIteration"), E P (S "StopIteration") 101 (.type "StopIteration"), E P (S "SyntaxError") 102 (.type "SyntaxError"), E P (S "SystemError") 103 (.type "SystemError"), E P (S "TypeError") 104 (.type "TypeError"), E P (S "ValueError") 105 (.type "ValueError"), E P (S "Warning") 106 (.type "Warning"), E P (S "FloatingPointError") 107 (.type "FloatingPointError"), E P (S "OverflowError") 108 (.type "OverflowError"), E P (S "ZeroDivisionError") 109 (.type "ZeroDivisionError"), E P (S "BytesWarning") 110 (.type "BytesWarning"), E P (S "DeprecationWarning") 111 (.type "DeprecationWarning"), E P (S "EncodingWarning") 112 (.type "EncodingWarning"), E P (S "FutureWarning") 113 (.type "FutureWarning"), E P (S "ImportWarning") 114 (.type "ImportWarning"), E P (S "PendingDeprecationWarning") 115 (.type "PendingDeprecationWarning"), E P (S "ResourceWarning") 116 (.type "ResourceWarning"), E P (S "RuntimeWarning") 117 (.type "RuntimeWarning"), E P (S "SyntaxWarning") 118 (.type "SyntaxWarning"), E P (S "UnicodeWarning") 119 (.type "UnicodeWarning"), E P (S "UserWarning") 120 (.type "UserWarning"), E P (S "BlockingIOError") 121 (.type "BlockingIOError"), E P (S "ChildProcessError") 122 (.type "ChildProcessError"), E P (S "ConnectionError") 123 (.type "ConnectionError"), E P (S "FileExistsError") 124 (.type "FileExistsError"), E P (S "FileNotFoundError") 125 (.type "FileNotFoundError"), E P (S "InterruptedError") 126 (.type "InterruptedError"), E P (S "IsADirectoryError") 127 (.type "IsADirectoryError"), E P (S "NotADirectoryError") 128 (.type "NotADirectoryError"), E P (S "PermissionError") 129 (.type "PermissionError"), E P (S "ProcessLookupError") 130 (.type "ProcessLookupError"), E P (S "TimeoutError") 131 (.type "TimeoutError"), E P (S "IndentationError") 132 (.type "IndentationError"), E P (S "_IncompleteInputError") 133 (.type "_IncompleteInputError"), E P (S "IndexError") 134 (.type "IndexError"), E P (S "KeyError") 135 (.type "KeyError"), E P (S "ModuleNotFoundError") 136 (.type "ModuleNotFoundError"), E P (S "NotImplementedError") 137 (.type "NotImplementedError"), E P (S "PythonFinalizationError") 138 (.type "PythonFinalizationError"), E P (S "RecursionError") 139 (.type "RecursionError"), E P (S "UnboundLocalError") 140 (.type "UnboundLocalError"), E P (S "UnicodeError") 141 (.type "UnicodeError"), E P (S "BrokenPipeError") 142 (.type "BrokenPipeError"), E P (S "ConnectionAbortedError") 143 (.type "ConnectionAbortedError"), E P (S "ConnectionRefusedError") 144 (.type "ConnectionRefusedError"), E P (S "ConnectionResetError") 145 (.type "ConnectionResetError"), E P (S "TabError") 146 (.type "TabError"), E P (S "UnicodeDecodeError") 147 (.type "UnicodeDecodeError"), E P (S "UnicodeEncodeError") 148 (.type "UnicodeEncodeError"), E P (S "UnicodeTranslateError") 149 (.type "UnicodeTranslateError"), E P (S "ExceptionGroup") 150 (.type "ExceptionGroup"), E P (S "EnvironmentError") 151 (.type "OSError"), E P (S "IOError") 152 (.type "OSError"), E P (S "open") 153 (.builtin "open"), E P (S "quit") 154 (.builtin "builtins.quit#opaque"), E P (S "exit") 155 (.builtin "builtins.exit#opaque"), E P (S "copyright") 156 (.builtin "builtins.copyright#opaque"), E P (S "credits") 157 (.builtin "builtins.credits#opaque"), E P (S "license") 158 (.builtin "builtins.license#opaque"), E P (S "help") 159 (.builtin "builtins.help#opaque")] 159), #[]⟩
@[irreducible] noncomputable def o1z (P : Params) : Obj := ⟨(.type "dict"), none, (.dict #[E P (S "builtins") 162 (.ref 4), E P (S "__main__") 163 (.ref 5), E P (S "_sre") 244 (.ref 12)] 3), #[]⟩
@[irreducible] noncomputable def o2z (P : Params) : Obj := ⟨.none, none, (.dict #[E P (PySem.Str.mk #[105, 109, 112, 111, 114, 116, 46, 108, 111, 97, 100, 101, 100, 46, 95, 115, 114, 101]) 183 (.bool true), E P (S "class._frozen_importlib.BuiltinImporter") 185 (.ref 14), E P (PySem.Str.mk #[119, 97, 116, 99, 104, 101, 100, 46, 105, 109, 112, 111, 114, 116]) 206 (.ref 18), E P (S "class._frozen_importlib.ModuleSpec") 216 (.ref 22), E P (S "sys.modules.booked-epoch") 245 (.int (3) 0), E P (PySem.Str.mk #[105, 109, 112, 111, 114, 116, 46, 108, 97, 116, 101, 114, 45, 108, 97, 105, 100, 46, 95, 115, 114, 101]) 270 (.bool true), E P (S "watched.library") 272 (.ref 27), E P (S "watched.library-objects") 0 (.str (PySem.Str.mk #[12]) 0), E P (S "watched.library-deep._sre") 273 (.str (PySem.Str.mk #[4, 0, 0, 11, 4, 0, 0, 11, 4, 0, 0, 3, 4, 0, 0, 11, 8, 4, 100, 105, 99, 116, 2]) 0)] 9), #[]⟩
@[irreducible] noncomputable def o3z (P : Params) : Obj := ⟨(.type "dict"), none, (.dict #[E P (S "__name__") 165 (.str (S "__main__") 164), E P (S "__doc__") 166 .none, E P (S "__package__") 167 .none, E P (S "__loader__") 168 (.builtin "__main__.__loader__#opaque"), E P (S "__spec__") 169 .none, E P (S "__annotations__") 170 (.ref 6), E P (S "__builtins__") 171 (.ref 4), E P (S "__file__") 173 (.str (S "/claim/cut.py") 172), E P (S "__cached__") 174 .none, E P (S "_sre") 275 (.ref 12)] 10), #[]⟩
@[irreducible] noncomputable def o4z (P : Params) : Obj := ⟨(.type "module"), (some 0), .plain, #[]⟩
@[irreducible] noncomputable def o5z (P : Params) : Obj := ⟨(.type "module"), (some 3), .plain, #[]⟩
@[irreducible] noncomputable def o6z (P : Params) : Obj := ⟨(.type "dict"), none, (.dict #[] 0), #[]⟩
@[irreducible] noncomputable def o7z (P : Params) : Obj := ⟨(.type "tuple"), none, (.seq #[] 0), #[]⟩
@[irreducible] noncomputable def o8z (P : Params) : Obj := ⟨.none, none, (.fields #[]), #[]⟩
@[irreducible] noncomputable def o9z (P : Params) : Obj := ⟨(.type "code"), none, (.fields #[(.str (S "<module>") 176), (.str (S "<module>") 177), (.str (S "/claim/cut.py") 178), (.int (1) 0), (.int (0) 0), (.int (0) 0), (.int (0) 0), (.int (0) 0), (.ref 7), (.bool false), (.int (175) 0), (.ref 8), .none, .none, .none, .none, (.int (179) 0), (.int (1) 0), (.str (S "/claim/cut.py") 180)]), #[]⟩
@[irreducible] noncomputable def o10z (P : Params) : Obj := ⟨(.type "frame"), none, .plain, #[(some (.ref 9)), (some (.ref 3)), (some (.ref 3)), none, (some (.str (S "__main__") 164)), none, (some (.ref 0))]⟩
@[irreducible] noncomputable def o11z (P : Params) : Obj := ⟨(.type "dict"), none, (.dict #[E P (S "__name__") 247 (.str (S "_sre") 246), E P (S "__doc__") 248 .none, E P (S "__package__") 250 (.str (S "") 249), E P (S "__loader__") 251 (.builtin "off-the-table:_sre.__loader__:shared#opaque"), E P (S "__spec__") 252 (.builtin "off-the-table:_sre.__spec__:shared#opaque"), E P (S "compile") 253 (.builtin "_sre.compile"), E P (S "template") 254 (.builtin "off-the-table:_sre.template:shared#opaque"), E P (S "getcodesize") 255 (.builtin "off-the-table:_sre.getcodesize:shared#opaque"), E P (S "ascii_iscased") 256 (.builtin "off-the-table:_sre.ascii_iscased:shared#opaque"), E P (S "unicode_iscased") 257 (.builtin "off-the-table:_sre.unicode_iscased:shared#opaque"), E P (S "ascii_tolower") 258 (.builtin "off-the-table:_sre.ascii_tolower:shared#opaque"), E P (S "unicode_tolower") 259 (.builtin "off-the-table:_sre.unicode_tolower:shared#opaque"), E P (S "MAGIC") 261 (.int (20230612) 260), E P (S "CODESIZE") 263 (.int (4) 262), E P (S "MAXREPEAT") 265 (.int (4294967295) 264), E P (S "MAXGROUPS") 267 (.int (1073741823) 266), E P (S "copyright") 269 (.str (S " SRE 2.2.2 Copyright (c) 1997-2002 by Secret Labs AB ") 268)] 17), #[]⟩
@[irreducible] noncomputable def o12z (P : Params) : Obj := ⟨(.type "module"), (some 11), .plain, #[]⟩
@[irreducible] noncomputable def o13z (P : Params) : Obj := ⟨(.type "dict"), none, (.dict #[E P (S "__module__") 189 (.str (S "_frozen_importlib") 186), E P (S "__firstlineno__") 190 (.int (971) 187), E P (S "__doc__") 191 (.builtin "_frozen_importlib.BuiltinImporter.__doc__:str#opaque"), E P (S "_ORIGIN") 192 (.str (S "built-in") 188), E P (S "find_spec") 193 (.builtin "_frozen_importlib.BuiltinImporter.find_spec#opaque"), E P (S "create_module") 194 (.builtin "_frozen_importlib.BuiltinImporter.create_module#opaque"), E P (S "exec_module") 195 (.builtin "_frozen_importlib.BuiltinImporter.exec_module#opaque"), E P (S "get_code") 196 (.builtin "_frozen_importlib.BuiltinImporter.get_code#opaque"), E P (S "get_source") 197 (.builtin "_frozen_importlib.BuiltinImporter.get_source#opaque"), E P (S "is_package") 198 (.builtin "_frozen_importlib.BuiltinImporter.is_package#opaque"), E P (S "load_module") 199 (.builtin "_frozen_importlib.BuiltinImporter.load_module#opaque"), E P (S "__static_attributes__") 200 (.ref 15), E P (S "__dict__") 202 (.ref 16), E P (S "__weakref__") 204 (.ref 17)] 14), #[]⟩
@[irreducible] noncomputable def o14z (P : Params) : Obj := ⟨(.type "type"), none, (.cls ⟨(S "BuiltinImporter"), [(.type "object")], [(.ref 14), (.type "object")], 13, (S "BuiltinImporter"), true, [], [], false, none, false⟩), #[]⟩
@[irreducible] noncomputable def o15z (P : Params) : Obj := ⟨(.type "tuple"), none, (.seq #[] 0), #[]⟩
@[irreducible] noncomputable def o16z (P : Params) : Obj := ⟨(.type "getset_descriptor"), none, (.fields #[(.str (S "__dict__") 201), (.ref 14), (.builtin "function.__dict__"), (.builtin "function.__dict__#set")]), #[]⟩
@[irreducible] noncomputable def o17z (P : Params) : Obj := ⟨(.type "getset_descriptor"), none, (.fields #[(.str (S "__weakref__") 203), (.ref 14), (.builtin "ExceptionGroup.__weakref__"), .none]), #[]⟩
@[irreducible] noncomputable def o18z (P : Params) : Obj := ⟨.none, none, (.seq #[(.int (13) 0), (.str (PySem.Str.mk #[6, 189, 10, 95, 95, 109, 111, 100, 117, 108, 101, 95, 95, 6, 186, 17, 95, 102, 114, 111, 122, 101, 110, 95, 105, 109, 112, 111, 114, 116, 108, 105, 98, 6, 190, 15, 95, 95, 102, 105, 114, 115, 116, 108, 105, 110, 101, 110, 111, 95, 95, 4, 187, 0, 971, 6, 191, 7, 95, 95, 100, 111, 99, 95, 95, 9, 52, 95, 102, 114, 111, 122, 101, 110, 95, 105, 109, 112, 111, 114, 116, 108, 105, 98, 46, 66, 117, 105, 108, 116, 105, 110, 73, 109, 112, 111, 114, 116, 101, 114, 46, 95, 95, 100, 111, 99, 95, 95, 58, 115, 116, 114, 35, 111, 112, 97, 113, 117, 101, 6, 192, 7, 95, 79, 82, 73, 71, 73, 78, 6, 188, 8, 98, 117, 105, 108, 116, 45, 105, 110, 6, 193, 9, 102, 105, 110, 100, 95, 115, 112, 101, 99, 9, 50, 95, 102, 114, 111, 122, 101, 110, 95, 105, 109, 112, 111, 114, 116, 108, 105, 98, 46, 66, 117, 105, 108, 116, 105, 110, 73, 109, 112, 111, 114, 116, 101, 114, 46, 102, 105, 110, 100, 95, 115, 112, 101, 99, 35, 111, 112, 97, 113, 117, 101, 6, 194, 13, 99, 114, 101, 97, 116, 101, 95, 109, 111, 100, 117, 108, 101, 9, 54, 95, 102, 114, 111, 122, 101, 110, 95, 105, 109, 112, 111, 114, 116, 108, 105, 98, 46, 66, 117, 105, 108, 116, 105, 110, 73, 109, 112, 111, 114, 116, 101, 114, 46, 99, 114, 101, 97, 116, 101, 95, 109, 111, 100, 117, 108, 101, 35, 111, 112, 97, 113, 117, 101, 6, 195, 11, 101, 120, 101, 99, 95, 109, 111, 100, 117, 108, 101, 9, 52, 95, 102, 114, 111, 122, 101, 110, 95, 105, 109, 112, 111, 114, 116, 108, 105, 98, 46, 66, 117, 105, 108, 116, 105, 110, 73, 109, 112, 111, 114, 116, 101, 114, 46, 101, 120, 101, 99, 95, 109, 111, 100, 117, 108, 101, 35, 111, 112, 97, 113, 117, 101, 6, 196, 8, 103, 101, 116, 95, 99, 111, 100, 101, 9, 49, 95, 102, 114, 111, 122, 101, 110, 95, 105, 109, 112, 111, 114, 116, 108, 105, 98, 46, 66, 117, 105, 108, 116, 105, 110, 73, 109, 112, 111, 114, 116, 101, 114, 46, 103, 101, 116, 95, 99, 111, 100, 101, 35, 111, 112, 97, 113, 117, 101, 6, 197, 10, 103, 101, 116, 95, 115, 111, 117, 114, 99, 101, 9, 51, 95, 102, 114, 111, 122, 101, 110, 95, 105, 109, 112, 111, 114, 116, 108, 105, 98, 46, 66, 117, 105, 108, 116, 105, 110, 73, 109, 112, 111, 114, 116, 101, 114, 46, 103, 101, 116, 95, 115, 111, 117, 114, 99, 101, 35, 111, 112, 97, 113, 117, 101, 6, 198, 10, 105, 115, 95, 112, 97, 99, 107, 97, 103, 101, 9, 51, 95, 102, 114, 111, 122, 101, 110, 95, 105, 109, 112, 111, 114, 116, 108, 105, 98, 46, 66, 117, 105, 108, 116, 105, 110, 73, 109, 112, 111, 114, 116, 101, 114, 46, 105, 115, 95, 112, 97, 99, 107, 97, 103, 101, 35, 111, 112, 97, 113, 117, 101, 6, 199, 11, 108, 111, 97, 100, 95, 109, 111, 100, 117, 108, 101, 9, 52, 95, 102, 114, 111, 122, 101, 110, 95, 105, 109, 112, 111, 114, 116, 108, 105, 98, 46, 66, 117, 105, 108, 116, 105, 110, 73, 109, 112, 111, 114, 116, 101, 114, 46, 108, 111, 97, 100, 95, 109, 111, 100, 117, 108, 101, 35, 111, 112, 97, 113, 117, 101, 6, 200, 21, 95, 95, 115, 116, 97, 116, 105, 99, 95, 97, 116, 116, 114, 105, 98, 117, 116, 101, 115, 95, 95, 4, 0, 0, 15, 6, 202, 8, 95, 95, 100, 105, 99, 116, 95, 95, 4, 0, 0, 16, 6, 204, 11, 95, 95, 119, 101, 97, 107, 114, 101, 102, 95, 95, 4, 0, 0, 17]) 0), (.bool true), (.bool true), (.str (S "") 205), (.int (21) 0), (.str (PySem.Str.mk #[6, 227, 10, 95, 95, 109, 111, 100, 117, 108, 101, 95, 95, 6, 217, 17, 95, 102, 114, 111, 122, 101, 110, 95, 105, 109, 112, 111, 114, 116, 108, 105, 98, 6, 228, 15, 95, 95, 102, 105, 114, 115, 116, 108, 105, 110, 101, 110, 111, 95, 95, 4, 218, 0, 562, 6, 229, 7, 95, 95, 100, 111, 99, 95, 95, 9, 47, 95, 102, 114, 111, 122, 101, 110, 95, 105, 109, 112, 111, 114, 116, 108, 105, 98, 46, 77, 111, 100, 117, 108, 101, 83, 112, 101, 99, 46, 95, 95, 100, 111, 99, 95, 95, 58, 115, 116, 114, 35, 111, 112, 97, 113, 117, 101, 6, 230, 8, 95, 95, 105, 110, 105, 116, 95, 95, 9, 44, 95, 102, 114, 111, 122, 101, 110, 95, 105, 109, 112, 111, 114, 116, 108, 105, 98, 46, 77, 111, 100, 117, 108, 101, 83, 112, 101, 99, 46, 95, 95, 105, 110, 105, 116, 95, 95, 35, 111, 112, 97, 113, 117, 101, 6, 231, 8, 95, 95, 114, 101, 112, 114, 95, 95, 9, 44, 95, 102, 114, 111, 122, 101, 110, 95, 105, 109, 112, 111, 114, 116, 108, 105, 98, 46, 77, 111, 100, 117, 108, 101, 83, 112, 101, 99, 46, 95, 95, 114, 101, 112, 114, 95, 95, 35, 111, 112, 97, 113, 117, 101, 6, 232, 6, 95, 95, 101, 113, 95, 95, 9, 42, 95, 102, 114, 111, 122, 101, 110, 95, 105, 109, 112, 111, 114, 116, 108, 105, 98, 46, 77, 111, 100, 117, 108, 101, 83, 112, 101, 99, 46, 95, 95, 101, 113, 95, 95, 35, 111, 112, 97, 113, 117, 101, 6, 233, 6, 99, 97, 99, 104, 101, 100, 9, 42, 95, 102, 114, 111, 122, 101, 110, 95, 105, 109, 112, 111, 114, 116, 108, 105, 98, 46, 77, 111, 100, 117, 108, 101, 83, 112, 101, 99, 46, 99, 97, 99, 104, 101, 100, 35, 111, 112, 97, 113, 117, 101, 6, 234, 6, 112, 97, 114, 101, 110, 116, 9, 42, 95, 102, 114, 111, 122, 101, 110, 95, 105, 109, 112, 111, 114, 116, 108, 105, 98, 46, 77, 111, 100, 117, 108, 101, 83, 112, 101, 99, 46, 112, 97, 114, 101, 110, 116, 35, 111, 112, 97, 113, 117, 101, 6, 235, 12, 104, 97, 115, 95, 108, 111, 99, 97, 116, 105, 111, 110, 9, 48, 95, 102, 114, 111, 122, 101, 110, 95, 105, 109, 112, 111, 114, 116, 108, 105, 98, 46, 77, 111, 100, 117, 108, 101, 83, 112, 101, 99, 46, 104, 97, 115, 95, 108, 111, 99, 97, 116, 105, 111, 110, 35, 111, 112, 97, 113, 117, 101, 6, 236, 21, 95, 95, 115, 116, 97, 116, 105, 99, 95, 97, 116, 116, 114, 105, 98, 117, 116, 101, 115, 95, 95, 4, 0, 0, 23, 6, 238, 8, 95, 95, 100, 105, 99, 116, 95, 95, 4, 0, 0, 24, 6, 240, 11, 95, 95, 119, 101, 97, 107, 114, 101, 102, 95, 95, 4, 0, 0, 25, 6, 241, 8, 95, 95, 104, 97, 115, 104, 95, 95, 0]) 0), (.bool true), (.bool true), (.str (S "") 242)] 1), #[]⟩
@[irreducible] noncomputable def o19z (P : Params) : Obj := ⟨(.type "list"), none, (.seq #[] 0), #[]⟩
@[irreducible] noncomputable def o20z (P : Params) : Obj := ⟨(.type "dict"), none, (.dict #[E P (S "name") 208 (.str (S "_sre") 207), E P (S "loader") 209 (.ref 14), E P (S "origin") 210 (.str (S "built-in") 184), E P (S "loader_state") 211 .none, E P (S "submodule_search_locations") 212 .none, E P (S "_uninitialized_submodules") 213 (.ref 19), E P (S "_set_fileattr") 214 (.bool false), E P (S "_cached") 215 .none, E P (S "_initializing") 243 (.bool false)] 9), #[]⟩
@[irreducible] noncomputable def o21z (P : Params) : Obj := ⟨(.type "dict"), none, (.dict #[E P (S "__module__") 227 (.str (S "_frozen_importlib") 217), E P (S "__firstlineno__") 228 (.int (562) 218), E P (S "__doc__") 229 (.builtin "_frozen_importlib.ModuleSpec.__doc__:str#opaque"), E P (S "__init__") 230 (.builtin "_frozen_importlib.ModuleSpec.__init__#opaque"), E P (S "__repr__") 231 (.builtin "_frozen_importlib.ModuleSpec.__repr__#opaque"), E P (S "__eq__") 232 (.builtin "_frozen_importlib.ModuleSpec.__eq__#opaque"), E P (S "cached") 233 (.builtin "_frozen_importlib.ModuleSpec.cached#opaque"), E P (S "parent") 234 (.builtin "_frozen_importlib.ModuleSpec.parent#opaque"), E P (S "has_location") 235 (.builtin "_frozen_importlib.ModuleSpec.has_location#opaque"), E P (S "__static_attributes__") 236 (.ref 23), E P (S "__dict__") 238 (.ref 24), E P (S "__weakref__") 240 (.ref 25), E P (S "__hash__") 241 .none] 13), #[]⟩
@[irreducible] noncomputable def o22z (P : Params) : Obj := ⟨(.type "type"), none, (.cls ⟨(S "ModuleSpec"), [(.type "object")], [(.ref 22), (.type "object")], 21, (S "ModuleSpec"), true, [], [], false, none, false⟩), #[]⟩
@[irreducible] noncomputable def o23z (P : Params) : Obj := ⟨(.type "tuple"), none, (.seq #[(.str (S "_cached") 219), (.str (S "_set_fileattr") 220), (.str (S "_uninitialized_submodules") 221), (.str (S "loader") 222), (.str (S "loader_state") 223), (.str (S "name") 224), (.str (S "origin") 225), (.str (S "submodule_search_locations") 226)] 0), #[]⟩
@[irreducible] noncomputable def o24z (P : Params) : Obj := ⟨(.type "getset_descriptor"), none, (.fields #[(.str (S "__dict__") 237), (.ref 22), (.builtin "function.__dict__"), (.builtin "function.__dict__#set")]), #[]⟩
@[irreducible] noncomputable def o25z (P : Params) : Obj := ⟨(.type "getset_descriptor"), none, (.fields #[(.str (S "__weakref__") 239), (.ref 22), (.builtin "ExceptionGroup.__weakref__"), .none]), #[]⟩
@[irreducible] noncomputable def o26z (P : Params) : Obj := ⟨(.ref 22), (some 20), .plain, #[]⟩
@[irreducible] noncomputable def o27z (P : Params) : Obj := ⟨.none, none, (.seq #[(.int (11) 0), (.str (PySem.Str.mk #[6, 247, 8, 95, 95, 110, 97, 109, 101, 95, 95, 6, 246, 4, 95, 115, 114, 101, 6, 248, 7, 95, 95, 100, 111, 99, 95, 95, 0, 6, 250, 11, 95, 95, 112, 97, 99, 107, 97, 103, 101, 95, 95, 6, 249, 0, 6, 251, 10, 95, 95, 108, 111, 97, 100, 101, 114, 95, 95, 4, 0, 0, 14, 6, 252, 8, 95, 95, 115, 112, 101, 99, 95, 95, 4, 0, 0, 26, 6, 253, 7, 99, 111, 109, 112, 105, 108, 101, 9, 12, 95, 115, 114, 101, 46, 99, 111, 109, 112, 105, 108, 101, 6, 254, 8, 116, 101, 109, 112, 108, 97, 116, 101, 9, 13, 95, 115, 114, 101, 46, 116, 101, 109, 112, 108, 97, 116, 101, 6, 255, 11, 103, 101, 116, 99, 111, 100, 101, 115, 105, 122, 101, 9, 16, 95, 115, 114, 101, 46, 103, 101, 116, 99, 111, 100, 101, 115, 105, 122, 101, 6, 256, 13, 97, 115, 99, 105, 105, 95, 105, 115, 99, 97, 115, 101, 100, 9, 18, 95, 115, 114, 101, 46, 97, 115, 99, 105, 105, 95, 105, 115, 99, 97, 115, 101, 100, 6, 257, 15, 117, 110, 105, 99, 111, 100, 101, 95, 105, 115, 99, 97, 115, 101, 100, 9, 20, 95, 115, 114, 101, 46, 117, 110, 105, 99, 111, 100, 101, 95, 105, 115, 99, 97, 115, 101, 100, 6, 258, 13, 97, 115, 99, 105, 105, 95, 116, 111, 108, 111, 119, 101, 114, 9, 18, 95, 115, 114, 101, 46, 97, 115, 99, 105, 105, 95, 116, 111, 108, 111, 119, 101, 114, 6, 259, 15, 117, 110, 105, 99, 111, 100, 101, 95, 116, 111, 108, 111, 119, 101, 114, 9, 20, 95, 115, 114, 101, 46, 117, 110, 105, 99, 111, 100, 101, 95, 116, 111, 108, 111, 119, 101, 114, 6, 261, 5, 77, 65, 71, 73, 67, 4, 260, 0, 20230612, 6, 263, 8, 67, 79, 68, 69, 83, 73, 90, 69, 4, 262, 0, 4, 6, 265, 9, 77, 65, 88, 82, 69, 80, 69, 65, 84, 4, 264, 0, 4294967295, 6, 267, 9, 77, 65, 88, 71, 82, 79, 85, 80, 83, 4, 266, 0, 1073741823, 6, 269, 9, 99, 111, 112, 121, 114, 105, 103, 104, 116, 6, 268, 53, 32, 83, 82, 69, 32, 50, 46, 50, 46, 50, 32, 67, 111, 112, 121, 114, 105, 103, 104, 116, 32, 40, 99, 41, 32, 49, 57, 57, 55, 45, 50, 48, 48, 50, 32, 98, 121, 32, 83, 101, 99, 114, 101, 116, 32, 76, 97, 98, 115, 32, 65, 66, 32]) 0), (.bool true), (.bool false), (.str (S "_sre") 271)] 0), #[]⟩
@[irreducible] noncomputable def tz (P : Params) : BT := (.node (o0z P) (.node (o1z P) (.node (o3z P) (.node (o7z P) (.node (o15z P) .nil .nil) (.node (o23z P) .nil .nil)) (.node (o11z P) (.node (o19z P) .nil .nil) (.node (o27z P) .nil .nil))) (.node (o5z P) (.node (o9z P) (.node (o17z P) .nil .nil) (.node (o25z P) .nil .nil)) (.node (o13z P) (.node (o21z P) .nil .nil) .nil))) (.node (o2z P) (.node (o4z P) (.node (o8z P) (.node (o16z P) .nil .nil) (.node (o24z P) .nil .nil)) (.node (o12z P) (.node (o20z P) .nil .nil) .nil)) (.node (o6z P) (.node (o10z P) (.node (o18z P) .nil .nil) (.node (o26z P) .nil .nil)) (.node (o14z P) (.node (o22z P) .nil .nil) .nil))))
@[irreducible] noncomputable def o28p (P : Params) : Obj := ⟨(.type "tuple"), none, (.seq #[] 0), #[]⟩
@[irreducible] noncomputable def o29p (P : Params) : Obj := ⟨.none, none, (.fields #[]), #[]⟩
@[irreducible] noncomputable def o30p (P : Params) : Obj := ⟨(.type "code"), none, (.fields #[(.str (S "<module>") 277), (.str (S "<module>") 278), (.str (S "/claim/cut.py") 279), (.int (1) 0), (.int (0) 0), (.int (0) 0), (.int (0) 0), (.int (0) 0), (.ref 28), (.bool false), (.int (276) 0), (.ref 29), .none, .none, .none, .none, (.int (280) 0), (.int (1) 0), (.str (S "/claim/cut.py") 281)]), #[]⟩
@[irreducible] noncomputable def o31p (P : Params) : Obj := ⟨(.type "frame"), none, .plain, #[(some (.ref 30)), (some (.ref 3)), (some (.ref 3)), none, (some (.str (S "__main__") 164)), none, (some (.ref 0))]⟩
@[irreducible] noncomputable def tp (P : Params) : BT := (.node (o0z P) (.node (o1z P) (.node (o3z P) (.node (o7z P) (.node (o15z P) (.node (o31p P) .nil .nil) .nil) (.node (o23z P) .nil .nil)) (.node (o11z P) (.node (o19z P) .nil .nil) (.node (o27z P) .nil .nil))) (.node (o5z P) (.node (o9z P) (.node (o17z P) .nil .nil) (.node (o25z P) .nil .nil)) (.node (o13z P) (.node (o21z P) .nil .nil) (.node (o29p P) .nil .nil)))) (.node (o2z P) (.node (o4z P) (.node (o8z P) (.node (o16z P) .nil .nil) (.node (o24z P) .nil .nil)) (.node (o12z P) (.node (o20z P) .nil .nil) (.node (o28p P) .nil .nil))) (.node (o6z P) (.node (o10z P) (.node (o18z P) .nil .nil) (.node (o26z P) .nil .nil)) (.node (o14z P) (.node (o22z P) .nil .nil) (.node (o30p P) .nil .nil)))))
@[irreducible] noncomputable def o3a (P : Params) : Obj := ⟨(.type "dict"), none, (.dict #[E P (S "__name__") 165 (.str (S "cpy313.stringprep") 401), E P (S "__doc__") 166 .none, E P (S "__package__") 167 .none, E P (S "__loader__") 168 (.builtin "__main__.__loader__#opaque"), E P (S "__spec__") 169 .none, E P (S "__annotations__") 170 (.ref 6), E P (S "__builtins__") 171 (.ref 4), E P (S "__file__") 173 (.str (S "/claim/cut.py") 172), E P (S "__cached__") 174 .none, E P (S "_sre") 275 (.ref 12), E P (S "_iter_escaped_chars") 293 (.ref 38), E P (S "_strip_quoted_realnames") 305 (.ref 45), E P (S "_check_parenthesis") 315 (.ref 52), E P (S "bisect_left") 331 (.ref 61), E P (S "_twin_re_1") 349 (.ref 66), E P (S "_twin_re_2") 391 (.ref 71), E P (S "CRLF") 393 (.str (PySem.Str.mk #[13, 10]) 392), E P (S "quotedata") 400 (.ref 78)] 18), #[]⟩
@[irreducible] noncomputable def o29a (P : Params) : Obj := ⟨.none, none, (.fields #[(.int (3) 0), (.int (0) 0), (.ref 37), (.int (16) 0), (.int (0) 0), (.ref 44), (.int (34) 0), (.int (0) 0), (.ref 51), (.int (46) 0), (.int (0) 0), (.ref 60), (.int (70) 0), (.int (0) 0), (.ref 77)]), #[]⟩
@[irreducible] noncomputable def o32a (P : Params) : Obj := ⟨(.type "tuple"), none, (.seq #[] 0), #[]⟩
@[irreducible] noncomputable def o33a (P : Params) : Obj := ⟨.none, none, (.fields #[]), #[]⟩
@[irreducible] noncomputable def o34a (P : Params) : Obj := ⟨(.type "tuple"), none, (.seq #[(.str (S "addr") 287), (.str (S "pos") 288), (.str (S "escape") 289), (.str (S "ch") 290)] 0), #[]⟩
@[irreducible] noncomputable def o35a (P : Params) : Obj := ⟨(.type "tuple"), none, (.seq #[] 0), #[]⟩
@[irreducible] noncomputable def o36a (P : Params) : Obj := ⟨.none, none, (.func (fnO 2 0 .none .none .none .none)), #[]⟩
@[irreducible] noncomputable def o37a (P : Params) : Obj := ⟨(.type "code"), none, (.fields #[(.str (S "_iter_escaped_chars") 284), (.str (S "_iter_escaped_chars") 285), (.str (S "/claim/cut.py") 286), (.int (3) 0), (.int (1) 0), (.int (0) 0), (.int (0) 0), (.int (35) 0), (.ref 32), (.bool true), (.int (276) 0), (.ref 33), .none, (.ref 34), (.ref 35), (.ref 36), (.int (291) 0), (.int (3) 0), (.str (S "/claim/cut.py") 292)]), #[]⟩
@[irreducible] noncomputable def o38a (P : Params) : Obj := ⟨(.type "function"), none, (.func (fnO 2 3 (.ref 37) .none .none (.str (S "cpy313.email.utils") 282))), #[]⟩
@[irreducible] noncomputable def o39a (P : Params) : Obj := ⟨(.type "tuple"), none, (.seq #[] 0), #[]⟩
@[irreducible] noncomputable def o40a (P : Params) : Obj := ⟨.none, none, (.fields #[]), #[]⟩
@[irreducible] noncomputable def o41a (P : Params) : Obj := ⟨(.type "tuple"), none, (.seq #[(.str (S "addr") 297), (.str (S "start") 298), (.str (S "open_pos") 299), (.str (S "result") 300), (.str (S "pos") 301), (.str (S "ch") 302)] 0), #[]⟩
@[irreducible] noncomputable def o42a (P : Params) : Obj := ⟨(.type "tuple"), none, (.seq #[] 0), #[]⟩
@[irreducible] noncomputable def o43a (P : Params) : Obj := ⟨.none, none, (.func (fnO 3 0 .none .none .none .none)), #[]⟩
@[irreducible] noncomputable def o44a (P : Params) : Obj := ⟨(.type "code"), none, (.fields #[(.str (S "_strip_quoted_realnames") 294), (.str (S "_strip_quoted_realnames") 295), (.str (S "/claim/cut.py") 296), (.int (16) 0), (.int (1) 0), (.int (0) 0), (.int (0) 0), (.int (3) 0), (.ref 39), (.bool true), (.int (276) 0), (.ref 40), .none, (.ref 41), (.ref 42), (.ref 43), (.int (303) 0), (.int (16) 0), (.str (S "/claim/cut.py") 304)]), #[]⟩
@[irreducible] noncomputable def o45a (P : Params) : Obj := ⟨(.type "function"), none, (.func (fnO 3 3 (.ref 44) .none .none (.str (S "cpy313.email.utils") 282))), #[]⟩
@[irreducible] noncomputable def o46a (P : Params) : Obj := ⟨(.type "tuple"), none, (.seq #[] 0), #[]⟩
@[irreducible] noncomputable def o47a (P : Params) : Obj := ⟨.none, none, (.fields #[]), #[]⟩
@[irreducible] noncomputable def o48a (P : Params) : Obj := ⟨(.type "tuple"), none, (.seq #[(.str (S "addr") 309), (.str (S "opens") 310), (.str (S "pos") 311), (.str (S "ch") 312)] 0), #[]⟩
@[irreducible] noncomputable def o49a (P : Params) : Obj := ⟨(.type "tuple"), none, (.seq #[] 0), #[]⟩
@[irreducible] noncomputable def o50a (P : Params) : Obj := ⟨.none, none, (.func (fnO 4 0 .none .none .none .none)), #[]⟩
@[irreducible] noncomputable def o51a (P : Params) : Obj := ⟨(.type "code"), none, (.fields #[(.str (S "_check_parenthesis") 306), (.str (S "_check_parenthesis") 307), (.str (S "/claim/cut.py") 308), (.int (34) 0), (.int (1) 0), (.int (0) 0), (.int (0) 0), (.int (3) 0), (.ref 46), (.bool true), (.int (276) 0), (.ref 47), .none, (.ref 48), (.ref 49), (.ref 50), (.int (313) 0), (.int (34) 0), (.str (S "/claim/cut.py") 314)]), #[]⟩
@[irreducible] noncomputable def o52a (P : Params) : Obj := ⟨(.type "function"), none, (.func (fnO 4 3 (.ref 51) .none .none (.str (S "cpy313.email.utils") 282))), #[]⟩
@[irreducible] noncomputable def o53a (P : Params) : Obj := ⟨(.type "tuple"), none, (.seq #[(.int (0) 318), .none] 0), #[]⟩
@[irreducible] noncomputable def o54a (P : Params) : Obj := ⟨(.type "dict"), none, (.dict #[E P (S "key") 319 .none] 1), #[]⟩
@[irreducible] noncomputable def o55a (P : Params) : Obj := ⟨(.type "tuple"), none, (.seq #[] 0), #[]⟩
@[irreducible] noncomputable def o56a (P : Params) : Obj := ⟨.none, none, (.fields #[]), #[]⟩
@[irreducible] noncomputable def o57a (P : Params) : Obj := ⟨(.type "tuple"), none, (.seq #[(.str (S "a") 323), (.str (S "x") 324), (.str (S "lo") 325), (.str (S "hi") 326), (.str (S "key") 327), (.str (S "mid") 328)] 0), #[]⟩
@[irreducible] noncomputable def o58a (P : Params) : Obj := ⟨(.type "tuple"), none, (.seq #[] 0), #[]⟩
@[irreducible] noncomputable def o59a (P : Params) : Obj := ⟨.none, none, (.func (fnO 6 0 .none .none .none .none)), #[]⟩
@[irreducible] noncomputable def o60a (P : Params) : Obj := ⟨(.type "code"), none, (.fields #[(.str (S "bisect_left") 320), (.str (S "bisect_left") 321), (.str (S "/claim/cut.py") 322), (.int (46) 0), (.int (4) 0), (.int (0) 0), (.int (1) 0), (.int (3) 0), (.ref 55), (.bool true), (.int (276) 0), (.ref 56), .none, (.ref 57), (.ref 58), (.ref 59), (.int (329) 0), (.int (46) 0), (.str (S "/claim/cut.py") 330)]), #[]⟩
@[irreducible] noncomputable def o61a (P : Params) : Obj := ⟨(.type "function"), none, (.func (fnO 6 3 (.ref 60) (.ref 53) (.ref 54) (.str (S "cpy313.bisect") 316))), #[]⟩
@[irreducible] noncomputable def o62a (P : Params) : Obj := ⟨(.type "list"), none, (.seq #[(.int (14) 337), (.int (4) 338), (.int (0) 339), (.int (1) 340), (.int (1) 341), (.int (6) 342), (.int (1) 343), (.int (16) 344), (.int (46) 345), (.int (1) 346)] 0), #[]⟩
@[irreducible] noncomputable def o63a (P : Params) : Obj := ⟨(.type "dict"), none, (.dict #[] 0), #[]⟩
@[irreducible] noncomputable def o64a (P : Params) : Obj := ⟨(.type "tuple"), none, (.seq #[.none] 0), #[]⟩
@[irreducible] noncomputable def o65a (P : Params) : Obj := ⟨(.type "tuple"), none, (.seq #[(.int (14) 0), (.int (4) 0), (.int (0) 0), (.int (1) 0), (.int (1) 0), (.int (6) 0), (.int (1) 0), (.int (16) 0), (.int (46) 0), (.int (1) 0)] 0), #[]⟩
@[irreducible] noncomputable def o66a (P : Params) : Obj := ⟨(.type "re.Pattern"), none, (.fields #[(.str (PySem.Str.mk #[40, 63, 109, 41, 94, 92, 46]) 335), (.int (40) 348), (.int (0) 0), .none, .none, (.ref 65), (.int (0) 0)]), #[]⟩
@[irreducible] noncomputable def o67a (P : Params) : Obj := ⟨(.type "list"), none, (.seq #[(.int (14) 353), (.int (9) 354), (.int (4) 355), (.int (1) 356), (.int (2) 357), (.int (16) 358), (.int (10) 359), (.int (16) 360), (.int (13) 361), (.int (0) 362), (.int (7) 363), (.int (7) 364), (.int (16) 365), (.int (13) 366), (.int (16) 367), (.int (10) 368), (.int (15) 369), (.int (18) 370), (.int (5) 371), (.int (16) 372), (.int (10) 373), (.int (15) 374), (.int (13) 375), (.int (11) 376), (.int (16) 377), (.int (13) 378), (.int (5) 379), (.int (5) 380), (.int (0) 381), (.int (16) 382), (.int (10) 383), (.int (1) 384), (.int (15) 385), (.int (2) 386), (.int (0) 387), (.int (1) 388)] 0), #[]⟩
@[irreducible] noncomputable def o68a (P : Params) : Obj := ⟨(.type "dict"), none, (.dict #[] 0), #[]⟩
@[irreducible] noncomputable def o69a (P : Params) : Obj := ⟨(.type "tuple"), none, (.seq #[.none] 0), #[]⟩
@[irreducible] noncomputable def o70a (P : Params) : Obj := ⟨(.type "tuple"), none, (.seq #[(.int (14) 0), (.int (9) 0), (.int (4) 0), (.int (1) 0), (.int (2) 0), (.int (16) 0), (.int (10) 0), (.int (16) 0), (.int (13) 0), (.int (0) 0), (.int (7) 0), (.int (7) 0), (.int (16) 0), (.int (13) 0), (.int (16) 0), (.int (10) 0), (.int (15) 0), (.int (18) 0), (.int (5) 0), (.int (16) 0), (.int (10) 0), (.int (15) 0), (.int (13) 0), (.int (11) 0), (.int (16) 0), (.int (13) 0), (.int (5) 0), (.int (5) 0), (.int (0) 0), (.int (16) 0), (.int (10) 0), (.int (1) 0), (.int (15) 0), (.int (2) 0), (.int (0) 0), (.int (1) 0)] 0), #[]⟩
@[irreducible] noncomputable def o71a (P : Params) : Obj := ⟨(.type "re.Pattern"), none, (.fields #[(.str (PySem.Str.mk #[40, 63, 58, 92, 114, 92, 110, 124, 92, 110, 124, 92, 114, 40, 63, 33, 92, 110, 41, 41]) 351), (.int (32) 390), (.int (0) 0), .none, .none, (.ref 70), (.int (0) 0)]), #[]⟩
@[irreducible] noncomputable def o72a (P : Params) : Obj := ⟨(.type "tuple"), none, (.seq #[] 0), #[]⟩
@[irreducible] noncomputable def o73a (P : Params) : Obj := ⟨.none, none, (.fields #[]), #[]⟩
@[irreducible] noncomputable def o74a (P : Params) : Obj := ⟨(.type "tuple"), none, (.seq #[(.str (S "data") 397)] 0), #[]⟩
@[irreducible] noncomputable def o75a (P : Params) : Obj := ⟨(.type "tuple"), none, (.seq #[] 0), #[]⟩
@[irreducible] noncomputable def o76a (P : Params) : Obj := ⟨.none, none, (.func (fnO 11 0 .none .none .none .none)), #[]⟩
@[irreducible] noncomputable def o77a (P : Params) : Obj := ⟨(.type "code"), none, (.fields #[(.str (S "quotedata") 394), (.str (S "quotedata") 395), (.str (S "/claim/cut.py") 396), (.int (70) 0), (.int (1) 0), (.int (0) 0), (.int (0) 0), (.int (3) 0), (.ref 72), (.bool true), (.int (276) 0), (.ref 73), .none, (.ref 74), (.ref 75), (.ref 76), (.int (398) 0), (.int (70) 0), (.str (S "/claim/cut.py") 399)]), #[]⟩
@[irreducible] noncomputable def o78a (P : Params) : Obj := ⟨(.type "function"), none, (.func (fnO 11 3 (.ref 77) .none .none (.str (S "cpy313.smtplib") 332))), #[]⟩
@[irreducible] noncomputable def ta (P : Params) : BT := (.node (o0z P) (.node (o1z P) (.node (o3a P) (.node (o7z P) (.node (o15z P) (.node (o31p P) (.node (o63a P) .nil .nil) .nil) (.node (o47a P) .nil .nil)) (.node (o23z P) (.node (o39a P) (.node (o71a P) .nil .nil) .nil) (.node (o55a P) .nil .nil))) (.node (o11z P) (.node (o19z P) (.node (o35a P) (.node (o67a P) .nil .nil) .nil) (.node (o51a P) .nil .nil)) (.node (o27z P) (.node (o43a P) (.node (o75a P) .nil .nil) .nil) (.node (o59a P) .nil .nil)))) (.node (o5z P) (.node (o9z P) (.node (o17z P) (.node (o33a P) (.node (o65a P) .nil .nil) .nil) (.node (o49a P) .nil .nil)) (.node (o25z P) (.node (o41a P) (.node (o73a P) .nil .nil) .nil) (.node (o57a P) .nil .nil))) (.node (o13z P) (.node (o21z P) (.node (o37a P) (.node (o69a P) .nil .nil) .nil) (.node (o53a P) .nil .nil)) (.node (o29a P) (.node (o45a P) (.node (o77a P) .nil .nil) .nil) (.node (o61a P) .nil .nil))))) (.node (o2z P) (.node (o4z P) (.node (o8z P) (.node (o16z P) (.node (o32a P) (.node (o64a P) .nil .nil) .nil) (.node (o48a P) .nil .nil)) (.node (o24z P) (.node (o40a P) (.node (o72a P) .nil .nil) .nil) (.node (o56a P) .nil .nil))) (.node (o12z P) (.node (o20z P) (.node (o36a P) (.node (o68a P) .nil .nil) .nil) (.node (o52a P) .nil .nil)) (.node (o28p P) (.node (o44a P) (.node (o76a P) .nil .nil) .nil) (.node (o60a P) .nil .nil)))) (.node (o6z P) (.node (o10z P) (.node (o18z P) (.node (o34a P) (.node (o66a P) .nil .nil) .nil) (.node (o50a P) .nil .nil)) (.node (o26z P) (.node (o42a P) (.node (o74a P) .nil .nil) .nil) (.node (o58a P) .nil .nil))) (.node (o14z P) (.node (o22z P) (.node (o38a P) (.node (o70a P) .nil .nil) .nil) (.node (o54a P) .nil .nil)) (.node (o30p P) (.node (o46a P) (.node (o78a P) .nil .nil) .nil) (.node (o62a P) .nil .nil))))))
@[irreducible] noncomputable def o3c (P : Params) : Obj := ⟨(.type "dict"), none, (.dict #[E P (S "__name__") 165 (.str (S "cpy313.stringprep") 401), E P (S "__doc__") 166 .none, E P (S "__package__") 167 .none, E P (S "__loader__") 168 (.builtin "__main__.__loader__#opaque"), E P (S "__spec__") 169 .none, E P (S "__annotations__") 170 (.ref 6), E P (S "__builtins__") 171 (.ref 4), E P (S "__file__") 173 (.str (S "/claim/cut.py") 172), E P (S "__cached__") 174 .none, E P (S "_sre") 275 (.ref 12), E P (S "_iter_escaped_chars") 293 (.ref 38), E P (S "_strip_quoted_realnames") 305 (.ref 45), E P (S "_check_parenthesis") 315 (.ref 52), E P (S "bisect_left") 331 (.ref 61), E P (S "_twin_re_1") 349 (.ref 66), E P (S "_twin_re_2") 391 (.ref 71), E P (S "CRLF") 393 (.str (PySem.Str.mk #[13, 10]) 392), E P (S "quotedata") 400 (.ref 78), E P (S "b1_set") 462 (.ref 86), E P (S "in_table_b1") 469 (.ref 96)] 20), #[]⟩
@[irreducible] noncomputable def o29c (P : Params) : Obj := ⟨.none, none, (.fields #[(.int (3) 0), (.int (0) 0), (.ref 37), (.int (16) 0), (.int (0) 0), (.ref 44), (.int (34) 0), (.int (0) 0), (.ref 51), (.int (46) 0), (.int (0) 0), (.ref 60), (.int (70) 0), (.int (0) 0), (.ref 77), (.int (74) 0), (.int (0) 0), (.ref 95)]), #[]⟩
@[irreducible] noncomputable def o79c (P : Params) : Obj := ⟨(.type "list"), none, (.seq #[(.int (173) 403), (.int (847) 404), (.int (6150) 405), (.int (6155) 406), (.int (6156) 407), (.int (6157) 408), (.int (8203) 409), (.int (8204) 410), (.int (8205) 411), (.int (8288) 412), (.int (65279) 413)] 0), #[]⟩
@[irreducible] noncomputable def o80c (P : Params) : Obj := ⟨(.type "range"), none, (.fields #[(.int (65024) 414), (.int (65040) 415), (.int (1) 416)]), #[]⟩
@[irreducible] noncomputable def o81c (P : Params) : Obj := ⟨(.type "list"), none, (.seq #[(.int (65024) 419), (.int (65025) 420), (.int (65026) 421), (.int (65027) 422), (.int (65028) 423), (.int (65029) 424), (.int (65030) 425), (.int (65031) 426), (.int (65032) 427), (.int (65033) 428), (.int (65034) 429), (.int (65035) 430), (.int (65036) 431), (.int (65037) 432), (.int (65038) 433), (.int (65039) 434)] 18), #[]⟩
@[irreducible] noncomputable def o82c (P : Params) : Obj := ⟨(.type "range_iterator"), none, (.fields #[(.int (65040) 0), (.int (0) 0), (.int (1) 0)]), #[]⟩
@[irreducible] noncomputable def o83c (P : Params) : Obj := ⟨(.type "tuple"), none, (.seq #[] 0), #[]⟩
@[irreducible] noncomputable def o84c (P : Params) : Obj := ⟨(.type "StopIteration"), none, (.fields #[(.ref 83), .none, .none, .none, (.bool false), .none]), #[]⟩
@[irreducible] noncomputable def o85c (P : Params) : Obj := ⟨(.type "list"), none, (.seq #[(.int (173) 403), (.int (847) 404), (.int (6150) 405), (.int (6155) 406), (.int (6156) 407), (.int (6157) 408), (.int (8203) 409), (.int (8204) 410), (.int (8205) 411), (.int (8288) 412), (.int (65279) 413), (.int (65024) 419), (.int (65025) 420), (.int (65026) 421), (.int (65027) 422), (.int (65028) 423), (.int (65029) 424), (.int (65030) 425), (.int (65031) 426), (.int (65032) 427), (.int (65033) 428), (.int (65034) 429), (.int (65035) 430), (.int (65036) 431), (.int (65037) 432), (.int (65038) 433), (.int (65039) 434)] 0), #[]⟩
@[irreducible] noncomputable def o86c (P : Params) : Obj := ⟨(.type "set"), none, (.set #[(65024, (.int (65024) 419)), (65025, (.int (65025) 420)), (65026, (.int (65026) 421)), (65027, (.int (65027) 422)), (65028, (.int (65028) 423)), (65029, (.int (65029) 424)), (6150, (.int (6150) 405)), (65030, (.int (65030) 425)), (65031, (.int (65031) 426)), (65032, (.int (65032) 427)), (65033, (.int (65033) 428)), (6155, (.int (6155) 406)), (6156, (.int (6156) 407)), (6157, (.int (6157) 408)), (8203, (.int (8203) 409)), (8204, (.int (8204) 410)), (8205, (.int (8205) 411)), (65034, (.int (65034) 429)), (65035, (.int (65035) 430)), (65036, (.int (65036) 431)), (65037, (.int (65037) 432)), (65038, (.int (65038) 433)), (65039, (.int (65039) 434)), (173, (.int (173) 403)), (847, (.int (847) 404)), (8288, (.int (8288) 412)), (65279, (.int (65279) 413))] 29 ⟨127, #[0, 1, 2, 3, 4, 5, 6, 7, 8, 9, 10, 11, 12, 13, 14, 15, 16, 17, 18, 19, 20, 21, 22, 45, 79, 96, 127], #[], 0, (!P.followText "set-order"), 2, true⟩), #[]⟩
@[irreducible] noncomputable def o87c (P : Params) : Obj := ⟨(.type "list_iterator"), none, (.fields #[.none, (.int (27) 0)]), #[]⟩
@[irreducible] noncomputable def o88c (P : Params) : Obj := ⟨(.type "tuple"), none, (.seq #[] 0), #[]⟩
@[irreducible] noncomputable def o89c (P : Params) : Obj := ⟨(.type "StopIteration"), none, (.fields #[(.ref 88), .none, .none, .none, (.bool false), .none]), #[]⟩
@[irreducible] noncomputable def o90c (P : Params) : Obj := ⟨(.type "tuple"), none, (.seq #[] 0), #[]⟩
@[irreducible] noncomputable def o91c (P : Params) : Obj := ⟨.none, none, (.fields #[]), #[]⟩
@[irreducible] noncomputable def o92c (P : Params) : Obj := ⟨(.type "tuple"), none, (.seq #[(.str (S "code") 466)] 0), #[]⟩
@[irreducible] noncomputable def o93c (P : Params) : Obj := ⟨(.type "tuple"), none, (.seq #[] 0), #[]⟩
@[irreducible] noncomputable def o94c (P : Params) : Obj := ⟨.none, none, (.func (fnO 14 0 .none .none .none .none)), #[]⟩
@[irreducible] noncomputable def o95c (P : Params) : Obj := ⟨(.type "code"), none, (.fields #[(.str (S "in_table_b1") 463), (.str (S "in_table_b1") 464), (.str (S "/claim/cut.py") 465), (.int (74) 0), (.int (1) 0), (.int (0) 0), (.int (0) 0), (.int (3) 0), (.ref 90), (.bool true), (.int (276) 0), (.ref 91), .none, (.ref 92), (.ref 93), (.ref 94), (.int (467) 0), (.int (74) 0), (.str (S "/claim/cut.py") 468)]), #[]⟩
@[irreducible] noncomputable def o96c (P : Params) : Obj := ⟨(.type "function"), none, (.func (fnO 14 3 (.ref 95) .none .none (.str (S "cpy313.stringprep") 401))), #[]⟩
@[irreducible] noncomputable def tc (P : Params) : BT := (.node (o0z P) (.node (o1z P) (.node (o3c P) (.node (o7z P) (.node (o15z P) (.node (o31p P) (.node (o63a P) .nil .nil) (.node (o95c P) .nil .nil)) (.node (o47a P) (.node (o79c P) .nil .nil) .nil)) (.node (o23z P) (.node (o39a P) (.node (o71a P) .nil .nil) .nil) (.node (o55a P) (.node (o87c P) .nil .nil) .nil))) (.node (o11z P) (.node (o19z P) (.node (o35a P) (.node (o67a P) .nil .nil) .nil) (.node (o51a P) (.node (o83c P) .nil .nil) .nil)) (.node (o27z P) (.node (o43a P) (.node (o75a P) .nil .nil) .nil) (.node (o59a P) (.node (o91c P) .nil .nil) .nil)))) (.node (o5z P) (.node (o9z P) (.node (o17z P) (.node (o33a P) (.node (o65a P) .nil .nil) .nil) (.node (o49a P) (.node (o81c P) .nil .nil) .nil)) (.node (o25z P) (.node (o41a P) (.node (o73a P) .nil .nil) .nil) (.node (o57a P) (.node (o89c P) .nil .nil) .nil))) (.node (o13z P) (.node (o21z P) (.node (o37a P) (.node (o69a P) .nil .nil) .nil) (.node (o53a P) (.node (o85c P) .nil .nil) .nil)) (.node (o29c P) (.node (o45a P) (.node (o77a P) .nil .nil) .nil) (.node (o61a P) (.node (o93c P) .nil .nil) .nil))))) (.node (o2z P) (.node (o4z P) (.node (o8z P) (.node (o16z P) (.node (o32a P) (.node (o64a P) .nil .nil) (.node (o96c P) .nil .nil)) (.node (o48a P) (.node (o80c P) .nil .nil) .nil)) (.node (o24z P) (.node (o40a P) (.node (o72a P) .nil .nil) .nil) (.node (o56a P) (.node (o88c P) .nil .nil) .nil))) (.node (o12z P) (.node (o20z P) (.node (o36a P) (.node (o68a P) .nil .nil) .nil) (.node (o52a P) (.node (o84c P) .nil .nil) .nil)) (.node (o28p P) (.node (o44a P) (.node (o76a P) .nil .nil) .nil) (.node (o60a P) (.node (o92c P) .nil .nil) .nil)))) (.node (o6z P) (.node (o10z P) (.node (o18z P) (.node (o34a P) (.node (o66a P) .nil .nil) .nil) (.node (o50a P) (.node (o82c P) .nil .nil) .nil)) (.node (o26z P) (.node (o42a P) (.node (o74a P) .nil .nil) .nil) (.node (o58a P) (.node (o90c P) .nil .nil) .nil))) (.node (o14z P) (.node (o22z P) (.node (o38a P) (.node (o70a P) .nil .nil) .nil) (.node (o54a P) (.node (o86c P) .nil .nil) .nil)) (.node (o30p P) (.node (o46a P) (.node (o78a P) .nil .nil) .nil) (.node (o62a P) (.node (o94c P) .nil .nil) .nil))))))
@[irreducible] noncomputable def o3e (P : Params) : Obj := ⟨(.type "dict"), none, (.dict #[E P (S "__name__") 165 (.str (S "law_us0015_01") 2429), E P (S "__doc__") 166 .none, E P (S "__package__") 167 .none, E P (S "__loader__") 168 (.builtin "__main__.__loader__#opaque"), E P (S "__spec__") 169 .none, E P (S "__annotations__") 170 (.ref 6), E P (S "__builtins__") 171 (.ref 4), E P (S "__file__") 173 (.str (S "/claim/cut.py") 172), E P (S "__cached__") 174 .none, E P (S "_sre") 275 (.ref 12), E P (S "_iter_escaped_chars") 293 (.ref 38), E P (S "_strip_quoted_realnames") 305 (.ref 45), E P (S "_check_parenthesis") 315 (.ref 52), E P (S "bisect_left") 331 (.ref 61), E P (S "_twin_re_1") 349 (.ref 66), E P (S "_twin_re_2") 391 (.ref 71), E P (S "CRLF") 393 (.str (PySem.Str.mk #[13, 10]) 392), E P (S "quotedata") 400 (.ref 78), E P (S "b1_set") 462 (.ref 86), E P (S "in_table_b1") 469 (.ref 96), E P (S "b3_exceptions") 2420 (.ref 97), E P (S "map_table_b3") 2428 (.ref 142), E P (S "_law_sign") 2445 (.ref 149), E P (S "_law_read") 2455 (.ref 156), E P (S "_law_parked") 2461 (.ref 161), E P (S "_law_told") 2467 (.ref 166), E P (S "_law_piece") 2477 (.ref 173), E P (S "law") 2483 (.ref 178)] 28), #[]⟩
@[irreducible] noncomputable def o29e (P : Params) : Obj := ⟨.none, none, (.fields #[(.int (3) 0), (.int (0) 0), (.ref 37), (.int (16) 0), (.int (0) 0), (.ref 44), (.int (34) 0), (.int (0) 0), (.ref 51), (.int (46) 0), (.int (0) 0), (.ref 60), (.int (70) 0), (.int (0) 0), (.ref 77), (.int (74) 0), (.int (0) 0), (.ref 95), (.int (77) 0), (.int (0) 0), (.ref 141), (.int (83) 0), (.int (0) 0), (.ref 148), (.int (101) 0), (.int (0) 0), (.ref 155), (.int (110) 0), (.int (0) 0), (.ref 160), (.int (125) 0), (.int (0) 0), (.ref 165), (.int (136) 0), (.int (0) 0), (.ref 172), (.int (139) 0), (.int (0) 0), (.ref 177)]), #[]⟩
@[irreducible] noncomputable def o136e (P : Params) : Obj := ⟨(.type "tuple"), none, (.seq #[] 0), #[]⟩
@[irreducible] noncomputable def o137e (P : Params) : Obj := ⟨.none, none, (.fields #[]), #[]⟩
@[irreducible] noncomputable def o138e (P : Params) : Obj := ⟨(.type "tuple"), none, (.seq #[(.str (S "code") 2424), (.str (S "r") 2425)] 0), #[]⟩
@[irreducible] noncomputable def o139e (P : Params) : Obj := ⟨(.type "tuple"), none, (.seq #[] 0), #[]⟩
@[irreducible] noncomputable def o140e (P : Params) : Obj := ⟨.none, none, (.func (fnO 16 0 .none .none .none .none)), #[]⟩
@[irreducible] noncomputable def o141e (P : Params) : Obj := ⟨(.type "code"), none, (.fields #[(.str (S "map_table_b3") 2421), (.str (S "map_table_b3") 2422), (.str (S "/claim/cut.py") 2423), (.int (77) 0), (.int (1) 0), (.int (0) 0), (.int (0) 0), (.int (3) 0), (.ref 136), (.bool true), (.int (276) 0), (.ref 137), .none, (.ref 138), (.ref 139), (.ref 140), (.int (2426) 0), (.int (77) 0), (.str (S "/claim/cut.py") 2427)]), #[]⟩
@[irreducible] noncomputable def o142e (P : Params) : Obj := ⟨(.type "function"), none, (.func (fnO 16 3 (.ref 141) .none .none (.str (S "cpy313.stringprep") 401))), #[]⟩
@[irreducible] noncomputable def o143e (P : Params) : Obj := ⟨(.type "tuple"), none, (.seq #[] 0), #[]⟩
@[irreducible] noncomputable def o144e (P : Params) : Obj := ⟨.none, none, (.fields #[]), #[]⟩
@[irreducible] noncomputable def o145e (P : Params) : Obj := ⟨(.type "tuple"), none, (.seq #[(.str (S "number") 2434), (.str (S "kind") 2435), (.str (S "rest") 2436), (.str (S "nothing") 2437), (.str (S "alphabets") 2438), (.str (S "start") 2439), (.str (S "several") 2440), (.str (S "code") 2441), (.str (S "meant") 2442)] 0), #[]⟩
@[irreducible] noncomputable def o146e (P : Params) : Obj := ⟨(.type "tuple"), none, (.seq #[] 0), #[]⟩
@[irreducible] noncomputable def o147e (P : Params) : Obj := ⟨.none, none, (.func (fnO 18 0 .none .none .none .none)), #[]⟩
@[irreducible] noncomputable def o148e (P : Params) : Obj := ⟨(.type "code"), none, (.fields #[(.str (S "_law_sign") 2431), (.str (S "_law_sign") 2432), (.str (S "/claim/cut.py") 2433), (.int (83) 0), (.int (1) 0), (.int (0) 0), (.int (0) 0), (.int (3) 0), (.ref 143), (.bool true), (.int (276) 0), (.ref 144), .none, (.ref 145), (.ref 146), (.ref 147), (.int (2443) 0), (.int (83) 0), (.str (S "/claim/cut.py") 2444)]), #[]⟩
@[irreducible] noncomputable def o149e (P : Params) : Obj := ⟨(.type "function"), none, (.func (fnO 18 3 (.ref 148) .none .none (.str (S "law_us0015_01") 2429))), #[]⟩
@[irreducible] noncomputable def o150e (P : Params) : Obj := ⟨(.type "tuple"), none, (.seq #[] 0), #[]⟩
@[irreducible] noncomputable def o151e (P : Params) : Obj := ⟨.none, none, (.fields #[]), #[]⟩
@[irreducible] noncomputable def o152e (P : Params) : Obj := ⟨(.type "tuple"), none, (.seq #[(.str (S "text") 2449), (.str (S "letters") 2450), (.str (S "sign") 2451), (.str (S "held") 2452)] 0), #[]⟩
@[irreducible] noncomputable def o153e (P : Params) : Obj := ⟨(.type "tuple"), none, (.seq #[] 0), #[]⟩
@[irreducible] noncomputable def o154e (P : Params) : Obj := ⟨.none, none, (.func (fnO 19 0 .none .none .none .none)), #[]⟩
@[irreducible] noncomputable def o155e (P : Params) : Obj := ⟨(.type "code"), none, (.fields #[(.str (S "_law_read") 2446), (.str (S "_law_read") 2447), (.str (S "/claim/cut.py") 2448), (.int (101) 0), (.int (1) 0), (.int (0) 0), (.int (0) 0), (.int (3) 0), (.ref 150), (.bool true), (.int (276) 0), (.ref 151), .none, (.ref 152), (.ref 153), (.ref 154), (.int (2453) 0), (.int (101) 0), (.str (S "/claim/cut.py") 2454)]), #[]⟩
@[irreducible] noncomputable def o156e (P : Params) : Obj := ⟨(.type "function"), none, (.func (fnO 19 3 (.ref 155) .none .none (.str (S "law_us0015_01") 2429))), #[]⟩
@[irreducible] noncomputable def o157e (P : Params) : Obj := ⟨(.type "tuple"), none, (.seq #[] 0), #[]⟩
@[irreducible] noncomputable def o158e (P : Params) : Obj := ⟨.none, none, (.fields #[]), #[]⟩
@[irreducible] noncomputable def o159e (P : Params) : Obj := ⟨.none, none, (.func (fnO 20 0 .none .none .none .none)), #[]⟩
@[irreducible] noncomputable def o160e (P : Params) : Obj := ⟨(.type "code"), none, (.fields #[(.str (S "_law_parked") 2456), (.str (S "_law_parked") 2457), (.str (S "/claim/cut.py") 2458), (.int (110) 0), (.int (2) 0), (.int (0) 0), (.int (0) 0), (.int (3) 0), (.ref 157), (.bool true), (.int (276) 0), (.ref 158), .none, .none, .none, (.ref 159), (.int (2459) 0), (.int (110) 0), (.str (S "/claim/cut.py") 2460)]), #[]⟩
@[irreducible] noncomputable def o161e (P : Params) : Obj := ⟨(.type "function"), none, (.func (fnO 20 3 (.ref 160) .none .none (.str (S "law_us0015_01") 2429))), #[]⟩
@[irreducible] noncomputable def o162e (P : Params) : Obj := ⟨(.type "tuple"), none, (.seq #[] 0), #[]⟩
@[irreducible] noncomputable def o163e (P : Params) : Obj := ⟨.none, none, (.fields #[]), #[]⟩
@[irreducible] noncomputable def o164e (P : Params) : Obj := ⟨.none, none, (.func (fnO 21 0 .none .none .none .none)), #[]⟩
@[irreducible] noncomputable def o165e (P : Params) : Obj := ⟨(.type "code"), none, (.fields #[(.str (S "_law_told") 2462), (.str (S "_law_told") 2463), (.str (S "/claim/cut.py") 2464), (.int (125) 0), (.int (2) 0), (.int (0) 0), (.int (0) 0), (.int (3) 0), (.ref 162), (.bool true), (.int (276) 0), (.ref 163), .none, .none, .none, (.ref 164), (.int (2465) 0), (.int (125) 0), (.str (S "/claim/cut.py") 2466)]), #[]⟩
@[irreducible] noncomputable def o166e (P : Params) : Obj := ⟨(.type "function"), none, (.func (fnO 21 3 (.ref 165) .none .none (.str (S "law_us0015_01") 2429))), #[]⟩
@[irreducible] noncomputable def o167e (P : Params) : Obj := ⟨(.type "tuple"), none, (.seq #[] 0), #[]⟩
@[irreducible] noncomputable def o168e (P : Params) : Obj := ⟨.none, none, (.fields #[]), #[]⟩
@[irreducible] noncomputable def o169e (P : Params) : Obj := ⟨(.type "tuple"), none, (.seq #[(.str (S "place") 2471), (.str (S "wishes") 2472), (.str (S "mark") 2473), (.str (S "hidden") 2474)] 0), #[]⟩
@[irreducible] noncomputable def o170e (P : Params) : Obj := ⟨(.type "tuple"), none, (.seq #[] 0), #[]⟩
@[irreducible] noncomputable def o171e (P : Params) : Obj := ⟨.none, none, (.func (fnO 22 0 .none .none .none .none)), #[]⟩
@[irreducible] noncomputable def o172e (P : Params) : Obj := ⟨(.type "code"), none, (.fields #[(.str (S "_law_piece") 2468), (.str (S "_law_piece") 2469), (.str (S "/claim/cut.py") 2470), (.int (136) 0), (.int (3) 0), (.int (0) 0), (.int (0) 0), (.int (3) 0), (.ref 167), (.bool true), (.int (276) 0), (.ref 168), .none, (.ref 169), (.ref 170), (.ref 171), (.int (2475) 0), (.int (136) 0), (.str (S "/claim/cut.py") 2476)]), #[]⟩
@[irreducible] noncomputable def o173e (P : Params) : Obj := ⟨(.type "function"), none, (.func (fnO 22 3 (.ref 172) .none .none (.str (S "law_us0015_01") 2429))), #[]⟩
@[irreducible] noncomputable def o174e (P : Params) : Obj := ⟨(.type "tuple"), none, (.seq #[] 0), #[]⟩
@[irreducible] noncomputable def o175e (P : Params) : Obj := ⟨.none, none, (.fields #[]), #[]⟩
@[irreducible] noncomputable def o176e (P : Params) : Obj := ⟨.none, none, (.func (fnO 23 0 .none .none .none .none)), #[]⟩
@[irreducible] noncomputable def o177e (P : Params) : Obj := ⟨(.type "code"), none, (.fields #[(.str (S "law") 2478), (.str (S "law") 2479), (.str (S "/claim/cut.py") 2480), (.int (139) 0), (.int (1) 0), (.int (0) 0), (.int (0) 0), (.int (3) 0), (.ref 174), (.bool true), (.int (276) 0), (.ref 175), .none, .none, .none, (.ref 176), (.int (2481) 0), (.int (139) 0), (.str (S "/claim/cut.py") 2482)]), #[]⟩
@[irreducible] noncomputable def o178e (P : Params) : Obj := ⟨(.type "function"), none, (.func (fnO 23 3 (.ref 177) .none .none (.str (S "law_us0015_01") 2429))), #[]⟩
@[irreducible] noncomputable def te (P : Params) : BT := (.node (o0z P) (.node (o1z P) (.node (o3e P) (.node (o7z P) (.node (o15z P) (.node (o31p P) (.node (o63a P) (.node (dO 30) .nil .nil) .nil) (.node (o95c P) (.node (o159e P) .nil .nil) .nil)) (.node (o47a P) (.node (o79c P) (.node (o143e P) .nil .nil) .nil) (.node (dO 14) (.node (o175e P) .nil .nil) .nil))) (.node (o23z P) (.node (o39a P) (.node (o71a P) (.node (dO 38) .nil .nil) .nil) (.node (dO 6) (.node (o167e P) .nil .nil) .nil)) (.node (o55a P) (.node (o87c P) (.node (o151e P) .nil .nil) .nil) (.node (dO 22) .nil .nil)))) (.node (o11z P) (.node (o19z P) (.node (o35a P) (.node (o67a P) (.node (dO 34) .nil .nil) .nil) (.node (dO 2) (.node (o163e P) .nil .nil) .nil)) (.node (o51a P) (.node (o83c P) (.node (o147e P) .nil .nil) .nil) (.node (dO 18) .nil .nil))) (.node (o27z P) (.node (o43a P) (.node (o75a P) (.node (o139e P) .nil .nil) .nil) (.node (dO 10) (.node (o171e P) .nil .nil) .nil)) (.node (o59a P) (.node (o91c P) (.node (o155e P) .nil .nil) .nil) (.node (dO 26) .nil .nil))))) (.node (o5z P) (.node (o9z P) (.node (o17z P) (.node (o33a P) (.node (o65a P) (.node (dO 32) .nil .nil) .nil) (.node (dO 0) (.node (o161e P) .nil .nil) .nil)) (.node (o49a P) (.node (o81c P) (.node (o145e P) .nil .nil) .nil) (.node (dO 16) (.node (o177e P) .nil .nil) .nil))) (.node (o25z P) (.node (o41a P) (.node (o73a P) (.node (o137e P) .nil .nil) .nil) (.node (dO 8) (.node (o169e P) .nil .nil) .nil)) (.node (o57a P) (.node (o89c P) (.node (o153e P) .nil .nil) .nil) (.node (dO 24) .nil .nil)))) (.node (o13z P) (.node (o21z P) (.node (o37a P) (.node (o69a P) (.node (dO 36) .nil .nil) .nil) (.node (dO 4) (.node (o165e P) .nil .nil) .nil)) (.node (o53a P) (.node (o85c P) (.node (o149e P) .nil .nil) .nil) (.node (dO 20) .nil .nil))) (.node (o29e P) (.node (o45a P) (.node (o77a P) (.node (o141e P) .nil .nil) .nil) (.node (dO 12) (.node (o173e P) .nil .nil) .nil)) (.node (o61a P) (.node (o93c P) (.node (o157e P) .nil .nil) .nil) (.node (dO 28) .nil .nil)))))) (.node (o2z P) (.node (o4z P) (.node (o8z P) (.node (o16z P) (.node (o32a P) (.node (o64a P) (.node (dO 31) .nil .nil) .nil) (.node (o96c P) (.node (o160e P) .nil .nil) .nil)) (.node (o48a P) (.node (o80c P) (.node (o144e P) .nil .nil) .nil) (.node (dO 15) (.node (o176e P) .nil .nil) .nil))) (.node (o24z P) (.node (o40a P) (.node (o72a P) (.node (o136e P) .nil .nil) .nil) (.node (dO 7) (.node (o168e P) .nil .nil) .nil)) (.node (o56a P) (.node (o88c P) (.node (o152e P) .nil .nil) .nil) (.node (dO 23) .nil .nil)))) (.node (o12z P) (.node (o20z P) (.node (o36a P) (.node (o68a P) (.node (dO 35) .nil .nil) .nil) (.node (dO 3) (.node (o164e P) .nil .nil) .nil)) (.node (o52a P) (.node (o84c P) (.node (o148e P) .nil .nil) .nil) (.node (dO 19) .nil .nil))) (.node (o28p P) (.node (o44a P) (.node (o76a P) (.node (o140e P) .nil .nil) .nil) (.node (dO 11) (.node (o172e P) .nil .nil) .nil)) (.node (o60a P) (.node (o92c P) (.node (o156e P) .nil .nil) .nil) (.node (dO 27) .nil .nil))))) (.node (o6z P) (.node (o10z P) (.node (o18z P) (.node (o34a P) (.node (o66a P) (.node (dO 33) .nil .nil) .nil) (.node (dO 1) (.node (o162e P) .nil .nil) .nil)) (.node (o50a P) (.node (o82c P) (.node (o146e P) .nil .nil) .nil) (.node (dO 17) (.node (o178e P) .nil .nil) .nil))) (.node (o26z P) (.node (o42a P) (.node (o74a P) (.node (o138e P) .nil .nil) .nil) (.node (dO 9) (.node (o170e P) .nil .nil) .nil)) (.node (o58a P) (.node (o90c P) (.node (o154e P) .nil .nil) .nil) (.node (dO 25) .nil .nil)))) (.node (o14z P) (.node (o22z P) (.node (o38a P) (.node (o70a P) (.node (dO 37) .nil .nil) .nil) (.node (dO 5) (.node (o166e P) .nil .nil) .nil)) (.node (o54a P) (.node (o86c P) (.node (o150e P) .nil .nil) .nil) (.node (dO 21) .nil .nil))) (.node (o30p P) (.node (o46a P) (.node (o78a P) (.node (o142e P) .nil .nil) .nil) (.node (dO 13) (.node (o174e P) .nil .nil) .nil)) (.node (o62a P) (.node (o94c P) (.node (o158e P) .nil .nil) .nil) (.node (dO 29) .nil .nil)))))))
end
section
noncomputable def Γ0 : Ctx := Ctx.of (.builtin "claim.caller" {}) []
noncomputable def env0 : Env := { scope := pw.main.scope, locals := mainNs, globals := mainNs, cells := [], code := .ref 30, frame := some 31 }
noncomputable def cB : Code := .body topStmts env0
noncomputable def Γ1 (q : Pos) : Ctx := Γ0.enter cB none q
noncomputable def stg (w : World) : Setting := ⟨pw, w.params⟩
noncomputable def denP : { d : Code → Sem Fin // d = denote table } := by
  first
  | exact ⟨PySem.W.ZFast.zw11892475500146522536 PySem.W.ZFast.tableZ, by rw [← PySem.W.ZFast.tableZ_eq, ← PySem.W.ZFast.ze11892475500146522536]⟩
  | exact ⟨denote tableX, by rw [tableX_eq]⟩
noncomputable def denX : Code → Sem Fin := denP.1
theorem denX_eq : denX = denote table := denP.2
noncomputable def execsP : { d : List Stmt → Env → Sem Flow // d = execs } := by
  first
  | exact ⟨PySem.W.Fast.tw12563942051412417395, PySem.W.Fast.te12563942051412417395.symm⟩
  | exact ⟨execs, rfl⟩
noncomputable def execsX : List Stmt → Env → Sem Flow := execsP.1
theorem execsX_eq : execsX = execs := execsP.2
noncomputable def evX (w : World) (α : Type) (Γ : Ctx) (p : Pos) (X : SharedT) (t : Sem α) : Option (Except Value α × SharedT) := (ev denX (stg w) 60000 α Γ p X t).map fun r => (r.1, r.2.2)
noncomputable def Xz (w : World) (os : OsState) : SharedT := ⟨tz w.params, 28, {}, #[], {}, 276, os⟩
noncomputable def Xp (w : World) (os : OsState) : SharedT := ⟨tp w.params, 32, {}, #[], {}, 282, os⟩
noncomputable def Xa (w : World) (os : OsState) : SharedT := ⟨ta w.params, 79, {}, #[], {}, 403, os⟩
noncomputable def Xc (w : World) (os : OsState) : SharedT := ⟨tc w.params, 97, {}, #[], {}, 470, os⟩
noncomputable def Xe (w : World) (os : OsState) : SharedT := ⟨te w.params, 179, {}, #[], {}, 2484, os⟩
theorem seg_p : ∀ (w : World) (os : OsState) (p : Pos), evX w (Value × Addr) Γ0 p (Xz w os) (do let c ← moduleCode pw.main; let f ← newBodyFrame c mainNs mainNs; pure (c, f)) = some (.ok (.ref 30, 31), Xp w os) := by
  intro w os p
  kernel_rfl
theorem seg_a : ∀ (w : World) (os : OsState) (q p : Pos), evX w Flow (Γ1 q) p (Xp w os) (execsX (topStmts.take 12) env0) = some (.ok .next, Xa w os) := by
  intro w os q p
  kernel_rfl
end
section
theorem seg_b2f : ∀ (w : World) (os : OsState) (q p : Pos), evX (w.withFollow "special-get-raises" false) Flow (Γ1 q) p (Xa (w.withFollow "special-get-raises" false) os) (execsX ((topStmts.drop 12).take 2) env0) = some (.ok .next, Xc (w.withFollow "special-get-raises" false) os) := by
  intro w os q p
  kernel_rfl
theorem seg_b2t : ∀ (w : World) (os : OsState) (q p : Pos), evX (w.withFollow "special-get-raises" true) Flow (Γ1 q) p (Xa (w.withFollow "special-get-raises" true) os) (execsX ((topStmts.drop 12).take 2) env0) = some (.ok .next, Xc (w.withFollow "special-get-raises" true) os) := by
  intro w os q p
  kernel_rfl
end
section
theorem seg_open : ∀ (w : World), (fencedOpening treeTable pw w 3000).map (fun s => (s.heap, s.gens, s.drawn, s.toks)) = some (absHeap (tz w.params) 28 {}, #[], {}, 276) := by
  intro w
  kernel_rfl
end
section
noncomputable def insAll : BT → Nat → List Obj → BT
  | T, _, [] => T
  | T, n, o :: r => insAll (T.ins n o) (n + 1) r
noncomputable def insOk : BT → Nat → List Obj → Bool
  | _, _, [] => true
  | T, n, o :: r => match ((T.ins n o).get n).isSome with
    | true => insOk (T.ins n o) (n + 1) r
    | false => false
theorem insAll_spec : ∀ (l : List Obj) (T : BT) (n : Nat) (life : Life), insOk T n l = true → pushAll (absHeap T n life) l = absHeap (insAll T n l) (n + l.length) life
  | [], T, n, life, _ => pushAll_nil _
  | o :: r, T, n, life, h => by
    unfold insOk at h
    cases e : ((T.ins n o).get n).isSome with
    | false => rw [e] at h; cases h
    | true =>
      rw [e] at h
      have ih := insAll_spec r (T.ins n o) (n + 1) life h
      rw [absHeap_ins e] at ih
      have e1 : pushAll (absHeap T n life) (o :: r) = pushAll ((absHeap T n life).push o) r := by
        rw [pushAll_one]
        simp [pushAll]
      rw [e1, ih, insAll, List.length_cons]
      congr 1
      lia
noncomputable def Xd (w : World) (os : OsState) : SharedT := ⟨insAll (tc w.params) 97 dAll, 136, {}, #[], {}, 2420, os⟩
theorem d_ok (w : World) : insOk (tc w.params) 97 dAll = true := by kernel_rfl
theorem d_len : dAll.length = 39 := by kernel_rfl
theorem d_total : total (chunkAt 0 :: (chunksMid ++ [chunkLast])) = 650 := by kernel_rfl
theorem kvs_split : b3kvs = chunkAt 0 ++ (chunksMid.flatten ++ chunkLast) := by kernel_rfl
noncomputable def rises : List (Int × Str) → Bool
  | a :: b :: r => decide (a.1 < b.1) && rises (b :: r)
  | _ => true
theorem rises_lt : ∀ {l : List (Int × Str)} {a : Int × Str}, rises (a :: l) = true → ∀ b ∈ l, a.1 < b.1
  | [], _, _, b, hb => nomatch hb
  | c :: r, a, h, b, hb => by
    unfold rises at h
    obtain ⟨h1, h2⟩ := Bool.and_eq_true_iff.mp h
    have h1 := of_decide_eq_true h1
    rcases List.mem_cons.mp hb with rfl | hm
    · exact h1
    · have := rises_lt h2 b hm; lia
theorem rises_nodup : ∀ {l : List (Int × Str)}, rises l = true → (l.map (·.1)).Nodup
  | [], _ => List.nodup_nil
  | a :: r, h => by
    rw [List.map_cons, List.nodup_cons]
    refine ⟨fun hm => ?_, rises_nodup (l := r) ?_⟩
    · obtain ⟨b, hb, e⟩ := List.mem_map.mp hm
      have := rises_lt h b hb
      lia
    · cases r with
      | nil => rfl
      | cons c r => exact (Bool.and_eq_true_iff.mp h).2
theorem kvs_rise : rises b3kvs = true := by kernel_rfl
noncomputable def constI : Option Expr → Bool
  | some (.Constant (.int _) _ _) => true
  | _ => false
noncomputable def constS : Expr → Bool
  | .Constant (.str _) _ _ => true
  | _ => false
theorem constI_is {k : Option Expr} (h : constI k = true) : ∃ i a b, k = some (.Constant (.int i) a b) := by
  cases k with
  | none => exact Bool.noConfusion (show false = true from h)
  | some e =>
    cases e with
    | Constant c a b =>
      cases c with
      | int i => exact ⟨i, a, b, rfl⟩
      | _ => exact Bool.noConfusion (show false = true from h)
    | _ => exact Bool.noConfusion (show false = true from h)
theorem constS_is {e : Expr} (h : constS e = true) : ∃ x a b, e = .Constant (.str x) a b := by
  cases e with
  | Constant c a b =>
    cases c with
    | str x => exact ⟨x, a, b, rfl⟩
    | _ => exact Bool.noConfusion (show false = true from h)
  | _ => exact Bool.noConfusion (show false = true from h)
noncomputable def allConst : List (Option Expr) → List Expr → Bool
  | [], vs => vs.isEmpty
  | k :: ks, vs => match vs with
    | [] => false
    | v :: vs => constI k && constS v && allConst ks vs
theorem const_pairs {prog : Program} {w : World} {env : Env} {pos : Pos} (ks : List (Option Expr)) : ∀ (vs : List Expr), allConst ks vs = true →
    ∃ ps, (evalEachOpt ks env).zip ((evalEach vs env).map fun v => (do let x ← v; standAt pos; pure x : Sem Value)) = ps.map itemOf ∧ All2 (PairIs prog w) ps (kvsOf ks vs) := by
  induction ks with
  | nil =>
    intro vs h
    cases vs with
    | nil => exact ⟨[], rfl, .nil⟩
    | cons v vs => exact Bool.noConfusion (show false = true from h)
  | cons k ks ih =>
    intro vs h
    cases vs with
    | nil => exact Bool.noConfusion (show false = true from h)
    | cons v vs =>
      obtain ⟨h12, h3⟩ := Bool.and_eq_true_iff.mp (show (constI k && constS v && allConst ks vs) = true from h)
      obtain ⟨h1, h2⟩ := Bool.and_eq_true_iff.mp h12
      obtain ⟨k, kk, kp, rfl⟩ := constI_is h1
      obtain ⟨x, vk, vp, rfl⟩ := constS_is h2
      obtain ⟨ps, e, f⟩ := ih vs h3
      refine ⟨(eval (.Constant (.int k) kk kp) env, (do let x ← eval (.Constant (.str x) vk vp) env; standAt pos; pure x)) :: ps, ?_, .cons ⟨fun A E s Q q => wpAny_Constant_int (env := env) (k := kk) (pos := kp) q, fun A E s Q q => wpAny_bind (wpAny_Constant_str (env := env) (k := vk) (pos := vp) (wpAny_bind (wpAny_standAt (wpAny_pure q))))⟩ f⟩
      rw [List.map_cons, ← e]
      rfl
theorem dict_const : allConst dictParts.1 dictParts.2.1 = true := by kernel_rfl
theorem dict_stmt : topStmts.drop 14 = .Assign [.Name (S "b3_exceptions") dictParts.2.2.1] (.Dict dictParts.1 dictParts.2.1 dictParts.2.2.2.1) dictParts.2.2.2.2 :: topStmts.drop 15 := by kernel_rfl
theorem eval_dict {w : World} {os : OsState} {A : Around} {E : Value → Shared → Prop} {Q : Value → Shared → Prop} (h : Q (.ref 97) (Xd w os).abs) :
    wpAny (model pw w) A (eval (.Dict dictParts.1 dictParts.2.1 dictParts.2.2.2.1) env0) Q E (Xc w os).abs := by
  obtain ⟨ps, e, f⟩ := const_pairs (prog := pw) (w := w) (env := env0) (pos := dictParts.2.2.2.1) _ _ dict_const
  rw [arm_eval_Dict, e]
  refine wpAny_bind (wpAny_standAt ?_)
  have hsz : (Xc w os).abs.heap.objs.size = 97 := absHeap_size ..
  have f' : All2 (PairIs pw w) ps (chunkAt 0 ++ (chunksMid.flatten ++ chunkLast)) := by rw [← kvs_split, b3kvs]; exact f
  have hlen : (chunkAt 0 ++ (chunksMid.flatten ++ chunkLast)).length = 650 := by rw [← kvs_split]; kernel_rfl
  refine display (c0 := chunkAt 0) (cs := chunksMid) (last := chunkLast) (by rw [hsz]; decide) (by kernel_rfl) ?_ ?_ ?_ f' ?_ ?_ ?_
  · have : chunksMid.all (fun c => c.length == 17) = true := by kernel_rfl
    intro c hc
    exact eq_of_beq (List.all_eq_true.mp this c hc)
  · have : chunkLast.length = 4 := by kernel_rfl
    lia
  · have : chunkLast.length = 4 := by kernel_rfl
    intro q; rw [q] at this; cases this
  · rw [← kvs_split]; exact rises_nodup kvs_rise
  · rw [hlen, sizeLine_eq]; decide
  · rw [hsz]
    have ht : (Xc w os).abs.toks = 470 := rfl
    rw [ht, d_total]
    have e2 : pushAll (Xc w os).abs.heap dAll = (Xd w os).abs.heap := by
      have := insAll_spec dAll (tc w.params) 97 {} (d_ok w)
      rw [d_len] at this
      exact this
    have e3 : (dictObj (entAll 470 (chunkAt 0 :: (chunksMid ++ [chunkLast]))) 650 :: garbAll (470 + 3 * 17) (chunksMid ++ [chunkLast])) = dAll := by
      unfold dAll b3ents
      rw [d_total]
    rw [e3, e2]
    have e4 : ({ (Xc w os).abs with heap := (Xd w os).abs.heap, toks := 470 + 3 * 650 } : Shared) = (Xd w os).abs := rfl
    rw [e4]
    exact h
end
section
theorem evX_wp {w : World} {α : Type} {Γ : Ctx} {p : Pos} {X X' : SharedT} {t : Sem α} {a : α} (h : evX w α Γ p X t = some (.ok a, X')) {Q : α → Pos → Shared → Prop} {E : Value → Pos → Shared → Prop}
    (hQ : ∀ p', Q a p' X'.abs) : Sem.wp (model pw w) Γ t Q E p X.abs := by
  unfold evX at h
  obtain ⟨⟨r, p', X₁⟩, e, e'⟩ := Option.map_eq_some_iff.mp h
  simp only [Prod.mk.injEq] at e'
  obtain ⟨rfl, rfl⟩ := e'
  have hm : model pw w = ⟨denX, pw, w⟩ := by rw [denX_eq]; rfl
  rw [hm]
  exact ev_spec (M := ⟨denX, pw, w⟩) _ _ _ _ _ _ _ _ _ e Q E (hQ p')
theorem execs_append (env : Env) : ∀ (l₁ l₂ : List Stmt), execs (l₁ ++ l₂) env = (do match ← execs l₁ env with | .next => execs l₂ env | f => pure f)
  | [], l₂ => by rw [List.nil_append, execs_nil, pure_bind]
  | st :: l₁, l₂ => by
    rw [List.cons_append, execs_cons, execs_cons, bind_assoc]
    refine congrArg _ (funext fun f => ?_)
    cases f
    · exact execs_append env l₁ l₂
    all_goals rw [pure_bind]
theorem seg_d : ∀ (w : World) (os : OsState) (q p : Pos), evX w Flow (Γ1 q) p (Xd w os) (do
    standAt dictParts.2.2.1
    bindName env0 (S "b3_exceptions") (.ref 97)
    match Flow.next with | .next => execsX (topStmts.drop 15) env0 | f => pure f) = some (.ok .next, Xe w os) := by
  intro w os q p
  kernel_rfl
theorem seg_b : ∀ (w : World) (os : OsState) (q p : Pos), evX w Flow (Γ1 q) p (Xa w os) (execsX ((topStmts.drop 12).take 2) env0) = some (.ok .next, Xc w os) := by
  intro w os q p
  have h : ∀ w : World, evX w Flow (Γ1 q) p (Xa w os) (execsX ((topStmts.drop 12).take 2) env0) = some (.ok .next, Xc w os) :=
    byRow2 "special-get-raises" (P := fun w => evX w Flow (Γ1 q) p (Xa w os) (execsX ((topStmts.drop 12).take 2) env0) = some (.ok .next, Xc w os)) (fun w => seg_b2f w os q p) (fun w => seg_b2t w os q p)
  exact h w
end
section
open Sem (wp)
theorem hann : hasAnns topStmts = false := by kernel_rfl
theorem hdoc : docOf topStmts = none := by kernel_rfl
theorem block_start : blockStart topStmts env0 = pure () := by
  unfold blockStart
  rw [hann, hdoc]
  cases interactive env0 <;> rfl
theorem stmts_split : topStmts = topStmts.take 12 ++ ((topStmts.drop 12).take 2 ++ topStmts.drop 14) := by
  rw [show topStmts.drop 14 = (topStmts.drop 12).drop 2 by rw [List.drop_drop], List.take_append_drop, List.take_append_drop]
theorem execs_top (w : World) (os : OsState) (q p : Pos) {Q : Flow → Pos → Shared → Prop} {E : Value → Pos → Shared → Prop} (h : ∀ p', Q .next p' (Xe w os).abs) :
    wp (model pw w) (Γ1 q) (execs topStmts env0) Q E p (Xp w os).abs := by
  rw [stmts_split, execs_append]
  rw [Sem.wp_bind']
  refine evX_wp (execsX_eq ▸ seg_a w os q p) fun p1 => ?_
  dsimp only
  rw [execs_append, Sem.wp_bind']
  refine evX_wp (execsX_eq ▸ seg_b w os q p1) fun p2 => ?_
  dsimp only
  rw [dict_stmt, execs_cons, Sem.wp_bind', exec_Assign_Name _ _ _ _ _ (by rfl), Sem.wp_bind', Sem.wp_cmd_standAt, Sem.wp_bind']
  have hA : (Γ1 q).In { handled := (Γ1 q).handled, depth := frameCount (Γ1 q).below + (Γ1 q).code.weight, frames := none, guards := none, units := (Γ1 q).units } := by
    refine ⟨rfl, Nat.le_refl _, ?_, ?_, Nat.le_refl _⟩
    · intro l hl; cases hl
    · intro l hl; cases hl
  refine Sem.wp_mono (post := fun v _ s => v = .ref 97 ∧ s = (Xd w os).abs) (exc := fun _ _ _ => False) _ _ _ (fun v p3 s3 hv => ?_) (fun _ _ _ x => x.elim) _ _
    (eval_dict (w := w) (os := os) (Q := fun v s => v = .ref 97 ∧ s = (Xd w os).abs) (E := fun _ _ => False) ⟨rfl, rfl⟩ (Γ1 q) _ hA)
  obtain ⟨rfl, rfl⟩ := hv
  have hd := evX_wp (execsX_eq ▸ seg_d w os q p3) (Q := Q) (E := E) h
  simp only [Sem.wp_bind', Sem.wp_pure', Sem.wp_cmd_standAt] at hd ⊢
  exact hd
noncomputable abbrev topTree : Sem PySem.Fin := (do let code ← moduleCode pw.main
                                                    let frame ← newBodyFrame code mainNs mainNs
                                                    let _ ← run (.body (behindTheImports pw) { scope := pw.main.scope, locals := mainNs, globals := mainNs, cells := [], code, frame := some frame })
                                                    ret .none)
theorem top_wp (w : World) (os : OsState) {Q : PySem.Fin → Pos → Shared → Prop} {E : Value → Pos → Shared → Prop} (h : ∀ p', Q (.done (.ret .none)) p' (Xe w os).abs) :
    wp (model pw w) Γ0 topTree Q E default (Xz w os).abs := by
  have hp := evX_wp (seg_p w os default) (E := E) (Q := fun cf p s => wp (model pw w) Γ0 (do
      let _ ← run (.body (behindTheImports pw) { scope := pw.main.scope, locals := mainNs, globals := mainNs, cells := [], code := cf.1, frame := some cf.2 })
      ret .none) Q E p s) (fun q => ?_)
  · simp only [Sem.wp_bind', Sem.wp_pure'] at hp
    simp only [topTree, Sem.wp_bind']
    exact hp
  · rw [show behindTheImports pw = topStmts by unfold topStmts; rfl]
    show wp (model pw w) Γ0 (run cB >>= fun _ => ret .none) Q E q (Xp w os).abs
    rw [Sem.wp_bind', Sem.wp_run]
    show wpCode (model pw w) (Γ1 q) _ q _
    rw [wpCode_iff_wp]
    show wp (model pw w) (Γ1 q) (do blockStart topStmts env0; return Fin.done (← (execs topStmts env0).onRaise (leaving env0))) _ _ _ _
    rw [block_start, Sem.wp_bind', Sem.wp_pure', Sem.wp_bind', Sem.wp_onRaise]
    refine execs_top w os q q fun p' => ?_
    exact h q
end
section
noncomputable abbrev mods : List Str := importedModules pw.main.body
theorem k_statics (w : World) (os : OsState) : staticsOk mods (Xz w os).abs.heap (Xe w os).abs.heap = true := by kernel_rfl
theorem k_bound (w : World) (os : OsState) : namesBound pw (Xe w os).abs.heap = true := by kernel_rfl
theorem k_laid (w : World) (os : OsState) : laidKept (Xz w os).abs.heap (Xe w os).abs.heap = true := by kernel_rfl
theorem k_acc (w : World) (os : OsState) : (Xe w os).abs.heap.accountedOkI mods = true := by kernel_rfl
theorem k_main (w : World) (os : OsState) : (Xe w os).abs.heap.isNs mainGlobals = true := by kernel_rfl
theorem k_blt (w : World) (os : OsState) : (Xe w os).abs.heap.isNs builtinsNs = true := by kernel_rfl
theorem k_bltv (w : World) (os : OsState) : (Xe w os).abs.heap.bltView = bltViewBooted := by kernel_rfl
theorem k_bmain (w : World) (os : OsState) : (Xe w os).abs.heap.bmainOk = true := by kernel_rfl
end
section
noncomputable def dn : Step → Bool
  | .halt (.done _) _ => true
  | _ => false
theorem nd {P : Prop} {x : Step} {f : Flow} {s' : Shared} (h : x = .halt (.done f) s') (hx : dn x = false) : P := by
  subst h; exact Bool.noConfusion hx
theorem halt_done {den : Code → Sem PySem.Fin} {p : Program} {w : World} {s s' : Shared} {t : Thread} {f : Flow} (h : step den p w s t = .halt (.done f) s') : s' = s ∧ t.stack = [] ∧ t.cur = .pure (.done f) := by
  obtain ⟨heap, gens, drawn, toks, os⟩ := s
  obtain ⟨cur, code, pos, stack⟩ := t
  cases cur with
  | pure fin =>
    cases fin with
    | done g =>
      cases stack with
      | nil =>
        have h : finish (.done g) ⟨heap, gens, drawn, toks, os⟩ = .halt (.done f) s' := h
        delta finish at h
        dsimp only at h
        split at h
        · cases h
        · cases h; exact ⟨rfl, rfl, rfl⟩
      | cons fr r => cases fr <;> exact nd h rfl
    | again c => exact nd h rfl
  | raise e =>
    cases stack with
    | nil =>
      have h : finish (.uncaught e) ⟨heap, gens, drawn, toks, os⟩ = .halt (.done f) s' := h
      delta finish at h
      dsimp only at h
      split at h <;> exact nd h rfl
    | cons fr r => cases fr <;> exact nd h rfl
  | finish e => delta step at h; dsimp only at h; split at h <;> exact nd h rfl
  | load a q k => delta step at h; dsimp only at h; split at h <;> exact nd h rfl
  | update a q f k => delta step at h; dsimp only at h; split at h <;> exact nd h rfl
  | choose src n k => delta step at h; dsimp only at h; split at h <;> exact nd h rfl
  | genState g k => delta step at h; dsimp only at h; split at h <;> exact nd h rfl
  | resume g r l k =>
    delta step at h; dsimp only at h
    split at h
    · exact nd h rfl
    · split at h <;> exact nd h rfl
    · exact nd h rfl
    · exact nd h rfl
    · exact nd h rfl
  | «yield» v g0 l kk => delta step at h; dsimp only at h; split at h <;> exact nd h rfl
  | _ => exact nd h rfl
theorem last_running {den : Code → Sem PySem.Fin} {p : Program} {w : World} : ∀ {n : Nat} {s s' : Shared} {t : Thread} {f : Flow}, runN den p w n s t = .halted (.done f) s' →
    ∃ k t', runN den p w k s t = .running s' t' ∧ through t' = true
  | 0, s, s', t, f, h => by cases h
  | n + 1, s, s', t, f, h => by
    simp only [runN] at h
    cases hs : step den p w s t with
    | halt o s₂ =>
      rw [hs] at h
      simp only [Run.halted.injEq] at h
      obtain ⟨rfl, rfl⟩ := h
      obtain ⟨rfl, e1, e2⟩ := halt_done hs
      refine ⟨0, t, rfl, ?_⟩
      unfold through
      rw [e1, e2]
      rfl
    | go s₂ t₂ =>
      rw [hs] at h
      obtain ⟨k, t', hk, ht⟩ := last_running h
      exact ⟨k + 1, t', by simp only [runN, hs]; exact hk, ht⟩
theorem through_of_wp {p : Program} {w : World} {t : Sem PySem.Fin} {c : Code} {s s₁ : Shared} (hz : s.asleep) (hg : s₁.gens = #[])
    (h : Sem.wp (model p w) ⟨c, none, none, [], none⟩ t (fun fin _ s' => fin = .done (.ret .none) ∧ s' = s₁) (fun _ _ _ => False) default s) :
    ∃ n t', schedN (denote table) p w n (.single s ⟨t, c, default, []⟩) = .running (.single s₁ t') ∧ through t' = true := by
  have hc : leftWithCleanup s₁.gens = false := by rw [hg]; simp [leftWithCleanup]
  obtain ⟨n, r, s', hn, hR⟩ := (wp_iff_halts (M := model p w) t (fun r s' => r = .ok (.ret .none) ∧ s' = s₁) default s).mp
    (Sem.wp_mono _ _ _ (fun fin _ s' hf => by obtain ⟨rfl, rfl⟩ := hf; exact ⟨⟨rfl, rfl⟩, hc⟩) (fun _ _ _ x => x.elim) _ _ h)
  obtain ⟨rfl, rfl⟩ := hR
  have ho : (outcomeOf (.ok (.ret .none))).ends = true := outcomeOf_ends _
  obtain ⟨s'', hr, hf, hcalm⟩ := runNI_real (model p w).den (model p w).prog (model p w).w hn ho
  have hne : ∀ k s₂, runN (model p w).den (model p w).prog (model p w).w k s ⟨t, c, default, []⟩ ≠ .halted (.unsupported "lifetime:generator-with-cleanup-left-suspended") s₂ := by
    intro k s₂ hk
    have a := runN_mono (model p w).den (model p w).prog (model p w).w n k s ⟨t, c, default, []⟩ _ s'' hr
    have b := runN_mono (model p w).den (model p w).prog (model p w).w k n s ⟨t, c, default, []⟩ _ s₂ hk
    rw [Nat.add_comm, b] at a
    injection a with a1 _
    cases a1
  have e : s'' = s' := Shared.eq_of_forget_eq hf hg
  subst e
  obtain ⟨k, t', hk, ht⟩ := last_running hr
  refine ⟨k, t', ?_, ht⟩
  have := schedN_eq_runN (model p w).den (model p w).prog (model p w).w s ⟨t, c, default, []⟩ hz ⟨hcalm, hne⟩ k
  exact this.trans (congrArg Run.lift hk)
theorem top_through (w : World) (os : OsState) (hz : (Xz w os).abs.asleep) :
    ∃ n t', schedN (denote table) pw w n (.single (Xz w os).abs (topStub pw)) = .running (.single (Xe w os).abs t') ∧ through t' = true := by
  refine through_of_wp (t := topTree) hz rfl ?_
  exact top_wp w os fun _ => ⟨rfl, rfl⟩
end
section
theorem k_old (w : World) (os : OsState) : ((List.range 28).filter fun b => !(Nat.beq b 2) && !(Nat.beq b 3)).map (Xz w os).abs.heap.get? = ((List.range 28).filter fun b => !(Nat.beq b 2) && !(Nat.beq b 3)).map (Xe w os).abs.heap.get? := by kernel_rfl
theorem old_kept (w : World) (os : OsState) (b : Addr) (o : Obj) (hb : (Xz w os).abs.heap.get? b = some o) (hn : ¬ theTopsOwn (Xz w os).abs.heap b) : (Xe w os).abs.heap.get? b = some o := by
  have hlt : b < 28 := by
    have := Heap.lt_size hb
    rwa [show (Xz w os).abs.heap.objs.size = 28 from absHeap_size ..] at this
  have h2 : b ≠ 2 := fun e => hn (.inr (.inl e))
  have h3 : b ≠ 3 := fun e => hn (.inl e)
  have e := List.map_inj_left.mp (k_old w os) b (List.mem_filter.mpr ⟨List.mem_range.mpr hlt, by
    rw [BT.beq_eq, BT.beq_eq, decide_eq_false h2, decide_eq_false h3]; rfl⟩)
  rw [← e]; exact hb
theorem k_law_glob (w : World) (os : OsState) : globalOf (Xe w os).abs.heap (S "law") = some (.ref 178) := by kernel_rfl
theorem k_law_get (w : World) (os : OsState) : (Xe w os).abs.heap.get? 178 = some ⟨.type "function", none, .func (fnO 23 3 (.ref 177) .none .none (.str (S "law_us0015_01") 2429)), #[]⟩ := by kernel_rfl
theorem k_law_def : pw.theDef (S "law") = some ((defAt 23).2.1, (defAt 23).2.2.1, (defAt 23).2.2.2) := by kernel_rfl
theorem k_law_name : (defAt 23).1 = S "law" := by kernel_rfl
theorem k_law_dflt : (defAt 23).2.1.defaults = [] := by kernel_rfl
theorem k_law_kw : kwWritten? (defAt 23).2.1.kwonlyargs (defAt 23).2.1.kw_defaults = some [] := by kernel_rfl
theorem law_pinned (w : World) (os : OsState) : isTheDefsW pw (Xe w os).abs.heap (S "law") :=
  ⟨178, _, _, _, _, _, k_law_glob w os, k_law_get w os, rfl, k_law_def, k_law_name, k_law_name, rfl, rfl, rfl, rfl, rfl, rfl, .inl ⟨k_law_dflt, rfl⟩, [], k_law_kw, .inl ⟨rfl, rfl⟩⟩
theorem Xz_asleep (w : World) (os : OsState) : (Xz w os).abs.asleep := ⟨rfl, rfl⟩
theorem Xe_asleep (w : World) (os : OsState) : (Xe w os).abs.asleep := ⟨rfl, rfl⟩
theorem top_ran (w : World) (os : OsState) : TopRan pw w (Xz w os).abs (Xe w os).abs := by
  obtain ⟨n, t, h1, h2⟩ := top_through w os (Xz_asleep w os)
  refine ⟨⟨n, t, h1, h2⟩, rfl, rfl, fun b o hb hn => old_kept w os b o hb hn, Heap.accountedI_of_ok (k_acc w os), statics_of_ok (k_statics w os), Pin.keysAreStrs_of (k_main w os),
    fun x hx => (Pin.builtinOf_eq (k_blt w os) x).trans (Heap.of_bltView (k_blt w os) (k_bltv w os) x hx), ?_, ?_, names_of_bound (k_bound w os), laid_of_kept (k_laid w os)⟩
  · obtain ⟨bm, ob, a, _, c, d, f, _⟩ := Heap.bmainOk_spec (k_bmain w os)
    exact ⟨bm, ob, (Pin.globalOf_eq (k_main w os) _).trans a, c, d, f⟩
  · intro g hg
    have e : (Xe w os).abs.gens = #[] := rfl
    rw [e] at hg
    simp at hg
theorem head (w : World) : (∃ s, AfterRun (opening pw) w s) ∧ ∀ s, AfterRun (opening pw) w s → ∃ os, fenceModules? pw s = some (Xz w os).abs := by
  have h := seg_open w
  rw [← table_eq_tree] at h
  obtain ⟨⟨hp, gs, d, k, os⟩, e1, e2⟩ := Option.map_eq_some_iff.mp h
  simp only [Prod.mk.injEq] at e2
  obtain ⟨rfl, rfl, rfl, rfl⟩ := e2
  obtain ⟨s, h4, h5⟩ := Option.bind_eq_some_iff.mp e1
  have A := AfterImport.of_importEnds h4
  refine ⟨⟨s, A⟩, fun s' hs' => ?_⟩
  obtain rfl : s' = s := AfterImport.unique hs' A
  exact ⟨os, h5⟩
end
section
noncomputable def LawCall : Prop := ∀ (w : World) (os : OsState) (s : Shared) (l : Addr) (vs : List Value) (ns : List Int),
  (∀ b o, (Xe w os).abs.heap.get? b = some o → s.heap.get? b = some o) → s.gens = #[] → s.heap.IsList l vs.toArray → IntsAre vs ns → ns.length ≤ 63 →
  wpAny (model pw w) callerA (call (.ref 178) [.ref l]) (fun v s' => v = .bool true ∧ (∀ b o, s.heap.get? b = some o → s'.heap.get? b = some o) ∧ s'.os = s.os ∧ AllBare s'.gens) (fun _ _ => False) s
noncomputable abbrev rr : RowW := PySem.Challenge.rw_us0015_01.row.toRowW
theorem k_opens : opensWell pw = true := by kernel_rfl
theorem k_frees : (frees rr && rr.within.isEmpty) = true := by kernel_rfl
theorem k_bare : pw.bare := ⟨rfl, rfl, rfl, rfl, rfl, by decide +kernel⟩
theorem main_ns (w : World) (os : OsState) : (Xe w os).abs.heap.Ns mainGlobals ((Xe w os).abs.heap.nsMap mainGlobals) := .of_isNs (k_main w os)
theorem ints_of {h : Heap} {cl : Str → Option Addr} : ∀ (xs : List WData), WShape.hasItems [] xs .int = true → ∀ {vs : List Value} {as : List Addr}, ReadsAllW rr.records cl h vs xs as → ∃ ns, IntsAre vs ns ∧ ns.length = xs.length := by
  intro xs
  induction xs with
  | nil => intro _ vs as hr; cases hr; exact ⟨[], .nil, rfl⟩
  | cons x xs ih =>
    intro hx vs as hr
    obtain ⟨hx1, hx2⟩ := Bool.and_eq_true_iff.mp (show (WShape.has [] x .int && WShape.hasItems [] xs .int) = true from hx)
    cases hr with
    | cons ha hb =>
      obtain ⟨ns, q1, q2⟩ := ih hx2 hb
      cases x with
      | int i => cases ha; exact ⟨_ :: ns, .cons _ _ q1, congrArg (· + 1) q2⟩
      | _ => exact Bool.noConfusion (show false = true from hx1)
theorem list_of {d : WData} (h : WShape.has [] d (.list .int) = true) : ∃ xs, d = .list xs ∧ WShape.hasItems [] xs .int = true := by
  cases d with
  | list xs => exact ⟨xs, rfl, by have := (show (WShape.hasItems [] xs .int || false) = true from h); rwa [Bool.or_false] at this⟩
  | _ => exact Bool.noConfusion (show false = true from h)
theorem most_of {xs : List WData} (h2 : WTm.holds [] (OpenLaw.pre PySem.Challenge.rw_us0015_01) { args := [.list xs] } = true) : xs.length ≤ 63 := by
  have hv : (((WTm.lit (WData.int ((63 : Nat) : Int))).lt (WTm.arg 0).len).not.and (WTm.lit (WData.bool true))).value [] { args := [WData.list xs] } = some (.bool ((!(decide (((63 : Nat) : Int) < (xs.length : Int)))) && true)) :=
    w_and (w_not (w_lt w_lit (w_len_list (w_arg rfl)))) w_lit
  have h3 : WTm.holds [] (((WTm.lit (WData.int ((63 : Nat) : Int))).lt (WTm.arg 0).len).not.and (WTm.lit (WData.bool true))) { args := [.list xs] } = true := h2
  unfold WTm.holds at h3
  rw [hv] at h3
  rcases Nat.lt_or_ge 63 xs.length with q | q
  · rw [decide_eq_true (Int.ofNat_lt.mpr q)] at h3
    exact Bool.noConfusion h3
  · exact q
theorem script_of {h : Heap} {vs : List Value} {args : List WData} {as : List Addr} {cl : Str → Option Addr} (hp : rr.claim.pre args = true) (hr : ReadsAllW rr.records cl h vs args as) :
    ∃ l items ns, vs = [.ref l] ∧ h.IsList l items.toArray ∧ IntsAre items ns ∧ ns.length ≤ 63 := by
  obtain ⟨h1, h2⟩ := Bool.and_eq_true_iff.mp hp
  have h1' : WShape.hasAll [] args [.list .int] = true := h1
  cases args with
  | nil => exact Bool.noConfusion (show false = true from h1')
  | cons d r =>
    obtain ⟨h3, h4⟩ := Bool.and_eq_true_iff.mp (show (WShape.has [] d (.list .int) && WShape.hasAll [] r []) = true from h1')
    cases r with
    | cons x y => exact Bool.noConfusion (show false = true from h4)
    | nil =>
      obtain ⟨xs, rfl, hx⟩ := list_of h3
      cases hr with
      | cons hd hr' =>
        cases hr'
        cases hd with
        | list ho hc hdt hr =>
          obtain ⟨ns, q1, q2⟩ := ints_of xs hx hr
          exact ⟨_, _, ns, rfl, ⟨_, ho, hc, _, by rw [hdt]⟩, q1, q2 ▸ most_of h2⟩
end
section
inductive D where
  | none
  | bool (b : Bool)
  | int (i : Int)
  | str (x : Str)
  | ref (k : Nat)
  | glob (v : Value)
noncomputable abbrev Km := Nat → Option Addr
noncomputable def Le (ρ ρ' : Km) : Prop := ∀ k a, ρ k = some a → ρ' k = some a
theorem Le.rfl' {ρ : Km} : Le ρ ρ := fun _ _ e => e
theorem Le.trans {ρ ρ' ρ'' : Km} (h : Le ρ ρ') (h' : Le ρ' ρ'') : Le ρ ρ'' := fun k a e => h' k a (h k a e)
noncomputable def Val (ρ : Km) : D → Value → Prop
  | .none, v => v = .none
  | .bool b, v => v = .bool b
  | .int i, v => ∃ t, v = .int i t
  | .str x, v => ∃ t, v = .str x t
  | .ref k, v => ∃ a, ρ k = some a ∧ v = .ref a
  | .glob u, v => v = u
theorem Val.mono {ρ ρ' : Km} (h : Le ρ ρ') {d : D} {v : Value} (x : Val ρ d v) : Val ρ' d v := by
  cases d <;> first | exact x | (obtain ⟨a, e, q⟩ := x; exact ⟨a, h _ _ e, q⟩)
theorem All2.imp {α β : Type} {R R' : α → β → Prop} (f : ∀ a b, R a b → R' a b) {l : List α} {m : List β} (h : All2 R l m) : All2 R' l m := by
  induction h with
  | nil => exact .nil
  | cons h1 _ ih => exact .cons (f _ _ h1) ih
theorem All2.append {α β : Type} {R : α → β → Prop} {l l' : List α} {m m' : List β} (h : All2 R l m) (h' : All2 R l' m') : All2 R (l ++ l') (m ++ m') := by
  induction h with
  | nil => exact h'
  | cons h1 _ ih => exact .cons h1 ih
theorem All2.get {α β : Type} {R : α → β → Prop} {l : List α} {m : List β} (h : All2 R l m) : ∀ {k : Nat} {a : α}, l[k]? = some a → ∃ b, m[k]? = some b ∧ R a b := by
  induction h with
  | nil => intro k a e; cases e
  | cons h1 _ ih =>
    intro k a e
    cases k with
    | zero => simp only [List.getElem?_cons_zero, Option.some.injEq] at e; subst e; exact ⟨_, rfl, h1⟩
    | succ k => exact ih (by simpa using e)
theorem All2.get' {α β : Type} {R : α → β → Prop} {l : List α} {m : List β} (h : All2 R l m) : ∀ {k : Nat} {b : β}, m[k]? = some b → ∃ a, l[k]? = some a ∧ R a b := by
  induction h with
  | nil => intro k a e; cases e
  | cons h1 _ ih =>
    intro k a e
    cases k with
    | zero => simp only [List.getElem?_cons_zero, Option.some.injEq] at e; subst e; exact ⟨_, rfl, h1⟩
    | succ k => exact ih (by simpa using e)
theorem All2.len {α β : Type} {R : α → β → Prop} {l : List α} {m : List β} (h : All2 R l m) : l.length = m.length := by
  induction h with
  | nil => rfl
  | cons _ _ ih => simp [ih]
theorem All2.c {α β : Type} {R : α → β → Prop} {a : α} {l : List α} {vs : List β} (h : All2 R (a :: l) vs) : ∃ v us, vs = v :: us ∧ R a v ∧ All2 R l us := by
  cases h with
  | cons h1 h2 => exact ⟨_, _, rfl, h1, h2⟩
theorem All2.n {α β : Type} {R : α → β → Prop} {vs : List β} (h : All2 R [] vs) : vs = [] := by cases h; rfl
theorem len0 {α : Type} {l : List α} (h : l.length = 0) : l = [] := List.eq_nil_of_length_eq_zero h
theorem lenS {α : Type} {n : Nat} {l : List α} (h : l.length = n + 1) : ∃ a r, l = a :: r ∧ r.length = n := by
  cases l with
  | nil => exact nomatch h
  | cons a r => exact ⟨a, r, rfl, Nat.succ.inj h⟩
theorem len1 {α : Type} {l : List α} (h : l.length = 1) : ∃ a, l = [a] := by
  obtain ⟨a, r, rfl, h'⟩ := lenS h
  exact ⟨a, by rw [len0 h']⟩
theorem len2 {α : Type} {l : List α} (h : l.length = 2) : ∃ a b, l = [a, b] := by
  obtain ⟨a, r, rfl, h'⟩ := lenS h
  obtain ⟨b, rfl⟩ := len1 h'
  exact ⟨a, b, rfl⟩
theorem len3 {α : Type} {l : List α} (h : l.length = 3) : ∃ a b c, l = [a, b, c] := by
  obtain ⟨a, r, rfl, h'⟩ := lenS h
  obtain ⟨b, c, rfl⟩ := len2 h'
  exact ⟨a, b, c, rfl⟩
structure Sp where
  ty : String
  ds : List D
  fz : Bool := false
  px : Bool := true
structure St where
  loc : List (Str × D)
  cel : List (Str × D)
  objs : List (Nat × Sp)
  nx : Nat
noncomputable def lk : List (Str × D) → Str → Option D
  | [], _ => Option.none
  | (x, d) :: r, y => if y = x then some d else lk r y
noncomputable def setl : List (Str × D) → Str → D → List (Str × D)
  | [], y, e => [(y, e)]
  | (x, d) :: r, y, e => if y = x then (x, e) :: r else (x, d) :: setl r y e
theorem lk_setl (l : List (Str × D)) (y : Str) (e : D) (x : Str) : lk (setl l y e) x = if x = y then some e else lk l x := by
  induction l with
  | nil => rfl
  | cons p r ih =>
    obtain ⟨z, d⟩ := p
    simp only [setl]
    by_cases h : y = z
    · subst h
      by_cases h1 : x = y
      · simp [lk, h1]
      · simp [lk, h1]
    · simp only [if_neg h, lk, ih]
      by_cases h1 : x = z
      · subst h1; simp [Ne.symm h]
      · simp [h1]
noncomputable def fd : List (Nat × Sp) → Nat → Option Sp
  | [], _ => Option.none
  | (k, sp) :: r, j => bif Nat.beq j k then some sp else fd r j
noncomputable def upd : List (Nat × Sp) → Nat → Sp → List (Nat × Sp)
  | [], _, _ => []
  | (k, sp) :: r, j, e => bif Nat.beq j k then (k, e) :: r else (k, sp) :: upd r j e
theorem beq_iff (j k : Nat) : Nat.beq j k = true ↔ j = k := ⟨Nat.eq_of_beq_eq_true, fun h => by subst h; exact Nat.beq_refl _⟩
theorem beq_ff {j k : Nat} : Nat.beq j k = false ↔ j ≠ k := by
  cases h : Nat.beq j k
  · exact ⟨fun _ e => (by rw [(beq_iff j k).mpr e] at h; cases h), fun _ => rfl⟩
  · exact ⟨fun e => (by cases e), fun e => absurd ((beq_iff j k).mp h) e⟩
theorem fd_upd (l : List (Nat × Sp)) (j : Nat) (e : Sp) (i : Nat) : fd (upd l j e) i = if i = j then (fd l j).map fun _ => e else fd l i := by
  induction l with
  | nil => simp [upd, fd]
  | cons p r ih =>
    obtain ⟨k, sp⟩ := p
    simp only [upd]
    cases h : Nat.beq j k
    · simp only [cond_false, fd, ih, h]
      cases h1 : Nat.beq i k
      · rfl
      · have := (beq_iff _ _).mp h1; subst this
        have h2 : i ≠ j := fun e => by subst e; rw [Nat.beq_refl] at h; cases h
        simp [h2]
    · have := (beq_iff _ _).mp h; subst this
      simp only [cond_true, fd, Nat.beq_refl]
      cases h1 : Nat.beq i j
      · simp [beq_ff.mp h1]
      · have := (beq_iff _ _).mp h1; subst this; simp
noncomputable def seqO (ty : String) (vs : List Value) (n : Nat) : Obj := { cls := .type ty, data := .seq vs.toArray n }
inductive Has (ρ : Km) (h : Heap) (a : Addr) (sp : Sp) : Prop
  | mk (o : Obj) (vs : List Value) (n : Nat) (e : h.get? a = some o) (c : o.cls = .type sp.ty) (d : o.data = .seq vs.toArray n) (p : sp.px = true → o = seqO sp.ty vs n) (q : All2 (Val ρ) sp.ds vs)
theorem Has.mono {ρ ρ' : Km} {h h' : Heap} {a : Addr} {sp : Sp} (x : Has ρ h a sp) (p : Le ρ ρ') (k : ∀ o, h.get? a = some o → h'.get? a = some o) : Has ρ' h' a sp :=
  let ⟨o, vs, n, e, c, d, px, q⟩ := x; ⟨o, vs, n, k _ e, c, d, px, q.imp fun _ _ y => y.mono p⟩
theorem Has.fr {ρ : Km} {h : Heap} {a : Addr} {sp : Sp} (x : Has ρ h a sp) (b : Bool) : Has ρ h a { sp with fz := b } := by
  obtain ⟨o, vs, n, e, c, d, p, q⟩ := x
  exact ⟨o, vs, n, e, c, d, p, q⟩
theorem Has.of {ρ : Km} {h : Heap} {a : Addr} {ty : String} {ds : List D} {fz : Bool} {vs : List Value} {n : Nat} (e : h.get? a = some (seqO ty vs n)) (q : All2 (Val ρ) ds vs) : Has ρ h a ⟨ty, ds, fz, true⟩ :=
  ⟨_, vs, n, e, rfl, rfl, fun _ => rfl, q⟩
noncomputable def X1 (w : World) : Heap := absHeap (te w.params) 179 {}
theorem Xe_heap (w : World) (os : OsState) : (Xe w os).abs.heap = X1 w := rfl
noncomputable abbrev Kp := Addr → Option Obj
structure Og where
  o : OsState
  g : List GenState
noncomputable def GOk (os : Og) (gens : Array GenState) : Prop := AllBare gens ∧ ∃ r, gens.toList = os.g ++ r
structure Z (w : World) (ox : Og) (env : Env) (cw : Bool) (κ : Kp) (ρ : Km) (σ : St) (s : Shared) : Prop where
  top : ∀ b o, (X1 w).get? b = some o → κ b = some o
  keep : ∀ b o, κ b = some o → s.heap.get? b = some o
  ns : ∃ m, s.heap.Ns env.locals m ∧ ∀ x d, lk σ.loc x = some d → ∃ v, m x = some v ∧ Val ρ d v
  lf : κ env.locals = Option.none
  cel : ∀ x d, lk σ.cel x = some d → ∃ c v, env.cells.lookup x = some c ∧ s.heap.IsCell c (some v) ∧ Val ρ d v
  cc : ∀ x c, env.cells.lookup x = some c → (∃ o, s.heap.IsCell c o) ∧ c ≠ env.locals ∧ (∀ k, ρ k ≠ some c) ∧ (cw = true → κ c = Option.none)
  ca : ∀ x y c, env.cells.lookup x = some c → env.cells.lookup y = some c → x = y
  obj : ∀ k sp, fd σ.objs k = some sp → ∃ a, ρ k = some a ∧ Has ρ s.heap a sp ∧ (sp.fz = false → κ a = Option.none)
  lt : ∀ k a, ρ k = some a → k < σ.nx ∧ a ≠ env.locals ∧ ∃ o, s.heap.get? a = some o
  inj : ∀ k k' a, ρ k = some a → ρ k' = some a → k = k'
  os : s.os = ox.o
  gens : GOk ox s.gens
structure Room (n : Nat) (A : Around) : Prop where
  d : A.depth + n < recursionLimit
  u : A.units + 20 * n < cLine
  h : A.handled = Option.none
section
variable {w : World} {os : Og} {env : Env} {cw : Bool} {κ : Kp} {ρ : Km} {σ : St} {s : Shared}
theorem Z.grown (z : Z w os env cw κ ρ σ s) {s' : Shared} (hk : ∀ b o, s.heap.get? b = some o → s'.heap.get? b = some o) (ho : s'.os = s.os) (hg : GOk os s'.gens) : Z w os env cw κ ρ σ s' where
  top := z.top
  keep := fun b o e => hk b o (z.keep b o e)
  ns := let ⟨m, F, h⟩ := z.ns; ⟨m, F.keeps hk, h⟩
  lf := z.lf
  cel := fun x d e => let ⟨c, v, a, b, q⟩ := z.cel x d e; ⟨c, v, a, b.keeps hk, q⟩
  cc := fun x c e => let ⟨⟨o, a⟩, r⟩ := z.cc x c e; ⟨⟨o, a.keeps hk⟩, r⟩
  ca := z.ca
  obj := fun k sp e => let ⟨a, h1, h2, h3⟩ := z.obj k sp e; ⟨a, h1, h2.mono Le.rfl' (fun o => hk a o), h3⟩
  lt := fun k a e => let ⟨h1, hL, o, h2⟩ := z.lt k a e; ⟨h1, hL, o, hk _ _ h2⟩
  inj := z.inj
  os := ho.trans z.os
  gens := hg
theorem Z.tok (z : Z w os env cw κ ρ σ s) (t : Nat) : Z w os env cw κ ρ σ { s with toks := t } := z.grown (fun _ _ e => e) rfl z.gens
theorem Z.heap (z : Z w os env cw κ ρ σ s) {h' : Heap} {t : Nat} (hk : ∀ b o, s.heap.get? b = some o → h'.get? b = some o) : Z w os env cw κ ρ σ { s with heap := h', toks := t } := z.grown hk rfl z.gens
theorem Z.push (z : Z w os env cw κ ρ σ s) (o : Obj) : Z w os env cw κ ρ σ { s with heap := s.heap.push o } := z.grown (fun _ _ e => Heap.get?_push_of_some _ e) rfl z.gens
noncomputable def put (ρ : Km) (k : Nat) (a : Addr) : Km := fun j => if j = k then some a else ρ j
theorem Z.fresh (z : Z w os env cw κ ρ σ s) : ρ σ.nx = Option.none := by
  cases e : ρ σ.nx with
  | none => rfl
  | some a => exact absurd (z.lt _ _ e).1 (Nat.lt_irrefl _)
theorem le_put {ρ : Km} {k : Nat} {a : Addr} (h : ρ k = Option.none) : Le ρ (put ρ k a) := fun j b e => by
  unfold put
  by_cases hj : j = k
  · subst hj; rw [h] at e; cases e
  · rw [if_neg hj]; exact e
noncomputable def St.mk' (σ : St) (sp : Sp) : St := { σ with objs := (σ.nx, sp) :: σ.objs, nx := σ.nx + 1 }
theorem Z.made (z : Z w os env cw κ ρ σ s) {s' : Shared} {a : Addr} {sp : Sp} (hn : s.heap.get? a = Option.none) (hk : ∀ b o, s.heap.get? b = some o → s'.heap.get? b = some o) (ho : s'.os = s.os) (hg : GOk os s'.gens)
    (hh : Has (put ρ σ.nx a) s'.heap a sp) : Z w os env cw κ (put ρ σ.nx a) (σ.mk' sp) s' := by
  have z' := z.grown hk ho hg
  have L := le_put (a := a) z.fresh
  have nk : ∀ k b, ρ k = some b → b ≠ a := fun k b e h => by
    obtain ⟨_, _, o, h2⟩ := z.lt k b e
    rw [h, hn] at h2; cases h2
  have hc : ∀ x c, env.cells.lookup x = some c → c ≠ a := fun x c e h => by
    obtain ⟨⟨o, o', h1, _⟩, _⟩ := z.cc x c e
    rw [h, hn] at h1; cases h1
  have hL : a ≠ env.locals := fun h => by
    obtain ⟨m, ⟨o, _, _, h1, _⟩, _⟩ := z.ns
    rw [← h, hn] at h1; cases h1
  have pn : put ρ σ.nx a σ.nx = some a := if_pos rfl
  have po : ∀ {k}, k ≠ σ.nx → put ρ σ.nx a k = ρ k := fun h => if_neg h
  refine ⟨z'.top, z'.keep, ?_, z'.lf, ?_, ?_, z'.ca, ?_, ?_, ?_, z'.os, z'.gens⟩
  · obtain ⟨m, F, h⟩ := z'.ns
    exact ⟨m, F, fun x d e => let ⟨v, q, y⟩ := h x d e; ⟨v, q, y.mono L⟩⟩
  · exact fun x d e => let ⟨c, v, e1, b, q⟩ := z'.cel x d e; ⟨c, v, e1, b, q.mono L⟩
  · intro x c e
    obtain ⟨h1, h2, h3, h4⟩ := z'.cc x c e
    refine ⟨h1, h2, fun k e' => ?_, h4⟩
    by_cases hj : k = σ.nx
    · subst hj; rw [pn] at e'; cases e'; exact hc x _ e rfl
    · rw [po hj] at e'; exact h3 k e'
  · intro k sp' e
    simp only [St.mk', fd] at e
    cases hb : Nat.beq k σ.nx
    · rw [hb] at e
      obtain ⟨b, h1, h2, h3⟩ := z'.obj k sp' e
      exact ⟨b, L _ _ h1, h2.mono L fun _ e => e, h3⟩
    · rw [hb] at e
      have := (beq_iff _ _).mp hb; subst this
      cases e
      refine ⟨a, pn, hh, fun _ => ?_⟩
      cases e' : κ a with
      | none => rfl
      | some o => have := z.keep a o e'; rw [hn] at this; cases this
  · intro k b e
    by_cases hj : k = σ.nx
    · subst hj; rw [pn] at e; cases e
      obtain ⟨o, vs, n, h1, _⟩ := hh
      exact ⟨Nat.lt_succ_self _, hL, _, h1⟩
    · rw [po hj] at e
      obtain ⟨h1, h2⟩ := z'.lt k b e
      exact ⟨Nat.lt_succ_of_lt h1, h2⟩
  · intro k k' b e e'
    by_cases hj : k = σ.nx <;> by_cases hj' : k' = σ.nx
    · rw [hj, hj']
    · subst hj; rw [pn] at e; cases e; rw [po hj'] at e'; exact absurd rfl (nk _ _ e')
    · subst hj'; rw [pn] at e'; cases e'; rw [po hj] at e; exact absurd rfl (nk _ _ e)
    · rw [po hj] at e; rw [po hj'] at e'; exact z.inj _ _ _ e e'
theorem Z.alloc (z : Z w os env cw κ ρ σ s) (ty : String) {ds : List D} {vs : List Value} (h : All2 (Val ρ) ds vs) (n : Nat := 0) :
    Z w os env cw κ (put ρ σ.nx s.heap.objs.size) (σ.mk' ⟨ty, ds, false, true⟩) { s with heap := s.heap.push (seqO ty vs n) } := by
  refine z.made (s' := { s with heap := s.heap.push (seqO ty vs n) }) ?_ (fun _ _ e => Heap.get?_push_of_some _ e) rfl z.gens
    (.of (Heap.get?_push_size _ rfl) (h.imp fun _ _ y => y.mono (le_put z.fresh)))
  cases e : s.heap.get? s.heap.objs.size with
  | none => rfl
  | some o => exact absurd (Heap.lt_size e) (Nat.lt_irrefl _)
theorem Z.setLoc (z : Z w os env cw κ ρ σ s) {x : Str} {d : D} {v : Value} (hv : Val ρ d v) {h' : Heap} {t : Nat} {m : Str → Option Value} (hm : s.heap.Ns env.locals m)
    (hn : h'.Ns env.locals (fun y => if y = x then some v else m y)) (hs : Heap.SameBut env.locals s.heap h') :
    Z w os env cw κ ρ { σ with loc := setl σ.loc x d } { s with heap := h', toks := t } := by
  have old : ∀ b o, b ≠ env.locals → s.heap.get? b = some o → h'.get? b = some o := fun b o hb e => hs.extBut b o hb e
  refine ⟨z.top, fun b o e => old b o (fun h => by subst h; rw [z.lf] at e; cases e) (z.keep b o e), ⟨_, hn, fun y e he => ?_⟩, z.lf, ?_, ?_, z.ca, ?_, ?_, z.inj, z.os, z.gens⟩
  · rw [lk_setl] at he
    by_cases hy : y = x
    · rw [if_pos hy] at he; cases he; exact ⟨v, if_pos hy, hv⟩
    · rw [if_neg hy] at he
      obtain ⟨m', F', h⟩ := z.ns
      obtain ⟨u, q, r⟩ := h y e he
      refine ⟨u, ?_, r⟩
      show (if y = x then some v else m y) = some u
      rw [if_neg hy, ← q]
      obtain ⟨o1, e1, _, g1, g2, _, g3⟩ := hm
      obtain ⟨o2, e2, _, k1, k2, _, k3⟩ := F'
      rw [g1] at k1; cases k1; rw [g2] at k2; cases k2
      rw [← g3, ← k3]
  · exact fun y e he => let ⟨c, u, e1, b, q⟩ := z.cel y e he; ⟨c, u, e1, b.sameBut hs (z.cc y c e1).2.1, q⟩
  · exact fun y c e => let ⟨⟨o, h1⟩, h2, h3⟩ := z.cc y c e; ⟨⟨o, h1.sameBut hs h2⟩, h2, h3⟩
  · exact fun k sp e => let ⟨a, h1, h2, h3⟩ := z.obj k sp e; ⟨a, h1, h2.mono Le.rfl' (fun o => old a o (z.lt k a h1).2.1), h3⟩
  · exact fun k a e => let ⟨h1, h2, o, h3⟩ := z.lt k a e; ⟨h1, h2, o, old a o h2 h3⟩
theorem Z.setCel (z : Z w os env cw κ ρ σ s) (hcw : cw = true) {x : Str} {d : D} {v : Value} (hv : Val ρ d v) {h' : Heap} {c : Addr} (hc : env.cells.lookup x = some c)
    (hn : h'.IsCell c (some v)) (hs : Heap.SameBut c s.heap h') :
    Z w os env cw κ ρ { σ with cel := setl σ.cel x d } { s with heap := h' } := by
  obtain ⟨_, hcL, hcr, hcκ⟩ := z.cc x c hc
  have old : ∀ b o, b ≠ c → s.heap.get? b = some o → h'.get? b = some o := fun b o hb e => hs.extBut b o hb e
  refine ⟨z.top, fun b o e => old b o (fun h => by subst h; rw [hcκ hcw] at e; cases e) (z.keep b o e), ?_, z.lf, ?_, ?_, z.ca, ?_, ?_, z.inj, z.os, z.gens⟩
  · obtain ⟨m, F, h⟩ := z.ns
    exact ⟨m, F.sameBut hs (Ne.symm hcL), h⟩
  · intro y e he
    rw [lk_setl] at he
    by_cases hy : y = x
    · rw [if_pos hy] at he; cases he; subst hy; exact ⟨c, v, hc, hn, hv⟩
    · rw [if_neg hy] at he
      obtain ⟨c', u, e1, b, q⟩ := z.cel y e he
      exact ⟨c', u, e1, b.sameBut hs (fun h => hy (z.ca _ _ c (h ▸ e1) hc)), q⟩
  · intro y c' e
    obtain ⟨⟨o, h1⟩, h2⟩ := z.cc y c' e
    by_cases h : c' = c
    · subst h; exact ⟨⟨_, hn⟩, h2⟩
    · exact ⟨⟨o, h1.sameBut hs h⟩, h2⟩
  · exact fun k sp e => let ⟨a, h1, h2, h3⟩ := z.obj k sp e; ⟨a, h1, h2.mono Le.rfl' (fun o => old a o (fun h => hcr k (h ▸ h1))), h3⟩
  · exact fun k a e => let ⟨h1, h2, o, h3⟩ := z.lt k a e; ⟨h1, h2, o, old a o (fun h => hcr k (h ▸ e)) h3⟩
theorem Z.setObj (z : Z w os env cw κ ρ σ s) {k : Nat} {sp : Sp} {ds : List D} (hk : fd σ.objs k = some sp) (hf : sp.fz = false) {a : Addr} (ha : ρ k = some a) {h' : Heap} {px : Bool} {t : Nat}
    (hn : Has ρ h' a { sp with ds := ds, px := px }) (hs : Heap.SameBut a s.heap h') :
    Z w os env cw κ ρ { σ with objs := upd σ.objs k { sp with ds := ds, px := px } } { s with heap := h', toks := t } := by
  obtain ⟨a', e1, _, h3⟩ := z.obj k sp hk
  rw [ha] at e1; cases e1
  have haκ := h3 hf
  have haL := (z.lt k a ha).2.1
  have old : ∀ b o, b ≠ a → s.heap.get? b = some o → h'.get? b = some o := fun b o hb e => hs.extBut b o hb e
  have ac : ∀ x c, env.cells.lookup x = some c → c ≠ a := fun x c e h => (z.cc x c e).2.2.1 k (h ▸ ha)
  refine ⟨z.top, fun b o e => old b o (fun h => by subst h; rw [haκ] at e; cases e) (z.keep b o e), ?_, z.lf, ?_, ?_, z.ca, ?_, ?_, z.inj, z.os, z.gens⟩
  · obtain ⟨m, F, h⟩ := z.ns
    exact ⟨m, F.sameBut hs (Ne.symm haL), h⟩
  · exact fun y e he => let ⟨c, u, e1, b, q⟩ := z.cel y e he; ⟨c, u, e1, b.sameBut hs (ac y c e1), q⟩
  · exact fun y c e => let ⟨⟨o, h1⟩, h2⟩ := z.cc y c e; ⟨⟨o, h1.sameBut hs (ac y c e)⟩, h2⟩
  · intro j sp' e
    rw [fd_upd] at e
    by_cases hj : j = k
    · subst hj
      rw [if_pos rfl, hk] at e
      cases e
      exact ⟨a, ha, hn, fun _ => haκ⟩
    · rw [if_neg hj] at e
      obtain ⟨b, h1, h2, h3⟩ := z.obj j sp' e
      exact ⟨b, h1, h2.mono Le.rfl' (fun o => old b o (fun h => hj (z.inj _ _ a (h ▸ h1) ha))), h3⟩
  · intro j b e
    obtain ⟨h1, h2, o, h3⟩ := z.lt j b e
    by_cases hb : b = a
    · subst hb
      obtain ⟨o', _, _, g, _⟩ := hn
      exact ⟨h1, h2, o', g⟩
    · exact ⟨h1, h2, o, old b o hb h3⟩
end
end
section
noncomputable def Nw (b : Nat) (κ : Kp) (ρ : Km) : Prop := ∀ k a, b ≤ k → ρ k = some a → κ a = Option.none
noncomputable def EqB (b : Nat) (κ : Kp) (ρ ρ' : Km) : Prop := (∀ k, k < b → ρ' k = ρ k) ∧ (Nw b κ ρ → Nw b κ ρ')
theorem EqB.rfl' {b : Nat} {κ : Kp} {ρ : Km} : EqB b κ ρ ρ := ⟨fun _ _ => rfl, fun h => h⟩
theorem EqB.less {b b' : Nat} {κ : Kp} {ρ ρ' : Km} (h : EqB b κ ρ ρ') (l : b' ≤ b) : EqB b' κ ρ ρ' :=
  ⟨fun k e => h.1 k (Nat.lt_of_lt_of_le e l), fun hn k a hk e => by
    by_cases hb : k < b
    · rw [h.1 k hb] at e; exact hn k a hk e
    · exact h.2 (fun k a hk e => hn k a (Nat.le_trans l hk) e) k a (Nat.le_of_not_lt hb) e⟩
theorem EqB.trans {b b' : Nat} {κ : Kp} {ρ ρ' ρ'' : Km} (h : EqB b κ ρ ρ') (h' : EqB b' κ ρ' ρ'') (l : b ≤ b') : EqB b κ ρ ρ'' :=
  ⟨fun k e => (h'.1 k (Nat.lt_of_lt_of_le e l)).trans (h.1 k e), fun hn => (h'.less l).2 (h.2 hn)⟩
theorem eqb_put {b : Nat} {κ : Kp} {ρ : Km} {a : Addr} (ha : κ a = Option.none) : EqB b κ ρ (put ρ b a) :=
  ⟨fun k e => if_neg (Nat.ne_of_lt e), fun hn k c hk e => by
    unfold put at e
    split at e
    · cases e; exact ha
    · exact hn k c hk e⟩
theorem Z.fr {w os env cw κ ρ σ s} (z : Z w os env cw κ ρ σ s) : κ s.heap.objs.size = Option.none := by
  cases e : κ s.heap.objs.size with
  | none => rfl
  | some o => exact absurd (Heap.lt_size (z.keep _ _ e)) (Nat.lt_irrefl _)
structure Fm where
  names : List (Str × NameKind)
  cw : Bool
structure Fm.Ok (F : Fm) (env : Env) : Prop where
  names : env.scope.names = F.names
  kind : env.scope.kind = .function
  globals : env.globals = mainGlobals
  builtins : env.builtins = builtinsNs
  cells : F.cw = true → ∀ x, F.names.lookup x = some .cell → ∃ c, env.cells.lookup x = some c
inductive Fl where
  | next | brk | cont
  | ret (d : D)
noncomputable def FlV (ρ : Km) : Fl → Flow → Prop
  | .next, f => f = .next
  | .brk, f => f = .brk
  | .cont, f => f = .cont
  | .ret d, f => ∃ v, f = .ret v ∧ Val ρ d v
section
variable (w : World) (F : Fm) (n : Nat)
inductive Po (os : Og) (env : Env) (κ : Kp) (ρ : Km) (b : Nat) {α δ : Type} (R : Km → δ → α → Prop) (Q : δ → St → Prop) (v : α) (s' : Shared) : Prop
  | mk (ρ' : Km) (d : δ) (σ' : St) (h1 : b ≤ σ'.nx) (h2 : EqB b κ ρ ρ') (h3 : R ρ' d v) (h4 : Z w os env F.cw κ ρ' σ' s') (h5 : Q d σ')
noncomputable def W0 {α δ : Type} (R : Km → δ → α → Prop) (σ : St) (t : Env → Sem α) (Q : δ → St → Prop) : Prop :=
  ∀ os env κ ρ s A (E : Value → Shared → Prop), F.Ok env → Z w os env F.cw κ ρ σ s → Room n A → wpAny (model pw w) A (t env) (Po w F os env κ ρ σ.nx R Q) E s
noncomputable def W1 {α δ : Type} (R : Km → δ → α → Prop) (σ : St) (d : D) (t : Env → Value → Sem α) (Q : δ → St → Prop) : Prop :=
  ∀ os env κ ρ s A (E : Value → Shared → Prop) v, F.Ok env → Z w os env F.cw κ ρ σ s → Room n A → Val ρ d v → wpAny (model pw w) A (t env v) (Po w F os env κ ρ σ.nx R Q) E s
noncomputable def W2 {α δ : Type} (R : Km → δ → α → Prop) (σ : St) (a b : D) (t : Env → Value → Value → Sem α) (Q : δ → St → Prop) : Prop :=
  ∀ os env κ ρ s A (E : Value → Shared → Prop) u v, F.Ok env → Z w os env F.cw κ ρ σ s → Room n A → Val ρ a u → Val ρ b v → wpAny (model pw w) A (t env u v) (Po w F os env κ ρ σ.nx R Q) E s
noncomputable def WL {α δ : Type} (R : Km → δ → α → Prop) (σ : St) (ds : List D) (t : Env → List Value → Sem α) (Q : δ → St → Prop) : Prop :=
  ∀ os env κ ρ s A (E : Value → Shared → Prop) vs, F.Ok env → Z w os env F.cw κ ρ σ s → Room n A → All2 (Val ρ) ds vs → wpAny (model pw w) A (t env vs) (Po w F os env κ ρ σ.nx R Q) E s
noncomputable def isB (_ : Km) (b : Bool) (c : Bool) : Prop := c = b
noncomputable def isU (_ : Km) (_ : Unit) (_ : Unit) : Prop := True
noncomputable abbrev Vals (ρ : Km) (ds : List D) (vs : List Value) : Prop := All2 (Val ρ) ds vs
noncomputable abbrev WE (σ : St) (e : Expr) (Q : D → St → Prop) : Prop := W0 w F n Val σ (fun env => eval e env) Q
noncomputable abbrev WT (σ : St) (e : Expr) (Q : Bool → St → Prop) : Prop := W0 w F n isB σ (fun env => isTrue e env (eval e env)) Q
noncomputable abbrev WEs (σ : St) (pos : Pos) (es : List Expr) (Q : List D → St → Prop) : Prop := W0 w F n Vals σ (fun env => spliced (backTo pos (starEach es env))) Q
noncomputable def WS (b : Nat) (σ : St) (t : Env → Sem Flow) (Q : Fl → St → Prop) : Prop :=
  b ≤ σ.nx → ∀ os env κ ρ s A (E : Value → Shared → Prop), F.Ok env → Z w os env F.cw κ ρ σ s → Room n A → wpAny (model pw w) A (t env) (Po w F os env κ ρ b FlV Q) E s
noncomputable abbrev WX (b : Nat) (σ : St) (st : Stmt) (Q : Fl → St → Prop) : Prop := WS w F n b σ (fun env => exec st env) Q
noncomputable abbrev WB (b : Nat) (σ : St) (st : List Stmt) (Q : Fl → St → Prop) : Prop := WS w F n b σ (fun env => execs st env) Q
end
noncomputable def Mk (σ : St) (sp : Sp) (Q : D → St → Prop) : Prop := Q (.ref σ.nx) (σ.mk' sp)
theorem mk_ {l c : List (Str × D)} {o : List (Nat × Sp)} {k : Nat} {sp : Sp} {Q : D → St → Prop} (h : Q (.ref k) ⟨l, c, (k, sp) :: o, k + 1⟩) : Mk ⟨l, c, o, k⟩ sp Q := h
section
variable {w : World} {F : Fm} {n : Nat} {σ : St}
theorem Z.nxLe {w os env cw κ ρ σ s} (_ : Z w os env cw κ ρ σ s) : σ.nx ≤ σ.nx := Nat.le_refl _
theorem Z.le {w os env cw κ ρ σ s} (z : Z w os env cw κ ρ σ s) {ρ' : Km} (h : EqB σ.nx κ ρ ρ') : Le ρ ρ' := fun k a e => (h.1 k (z.lt k a e).1).trans e
theorem vI {ρ : Km} {i : Int} {t : Nat} : Val ρ (.int i) (.int i t) := ⟨t, rfl⟩
theorem vS {ρ : Km} {x : Str} {t : Nat} : Val ρ (.str x) (.str x t) := ⟨t, rfl⟩
theorem vB {ρ : Km} {b : Bool} : Val ρ (.bool b) (.bool b) := rfl
theorem vN {ρ : Km} : Val ρ .none .none := rfl
theorem vG {ρ : Km} {v : Value} : Val ρ (.glob v) v := rfl
theorem po {os : Og} {env : Env} {κ : Kp} {ρ : Km} {s : Shared} {α δ : Type} {R : Km → δ → α → Prop} {Q : δ → St → Prop} {d : δ} {v : α} (z : Z w os env F.cw κ ρ σ s) (h : R ρ d v) (hQ : Q d σ) : Po w F os env κ ρ σ.nx R Q v s :=
  ⟨ρ, d, σ, Nat.le_refl _, EqB.rfl', h, z, hQ⟩
theorem Po.weak {os : Og} {env : Env} {κ : Kp} {ρ ρ₁ : Km} {b b₁ : Nat} {s : Shared} {α δ : Type} {R : Km → δ → α → Prop} {Q : δ → St → Prop} {v : α} (h : Po w F os env κ ρ₁ b₁ R Q v s) (hb : b ≤ b₁) (he : EqB b κ ρ ρ₁) : Po w F os env κ ρ b R Q v s :=
  let ⟨ρ', d, σ', h1, h2, h3, h4, h5⟩ := h; ⟨ρ', d, σ', Nat.le_trans hb h1, he.trans h2 hb, h3, h4, h5⟩
theorem Po.mono {os : Og} {env : Env} {κ : Kp} {ρ : Km} {b : Nat} {s : Shared} {α δ : Type} {R : Km → δ → α → Prop} {Q Q' : δ → St → Prop} {v : α} (h : Po w F os env κ ρ b R Q v s) (hq : ∀ d σ, Q d σ → Q' d σ) : Po w F os env κ ρ b R Q' v s :=
  let ⟨ρ', d, σ', h1, h2, h3, h4, h5⟩ := h; ⟨ρ', d, σ', h1, h2, h3, h4, hq _ _ h5⟩
theorem W0.mono {α δ : Type} {R : Km → δ → α → Prop} {t : Env → Sem α} {Q Q' : δ → St → Prop} (h : W0 w F n R σ t Q) (hq : ∀ d σ, Q d σ → Q' d σ) : W0 w F n R σ t Q' :=
  fun os env κ ρ s A E ok z r => wpAny_mono (h os env κ ρ s A E ok z r) (fun _ _ x => x.mono hq) fun _ _ x => x
theorem WS.mono {b : Nat} {t : Env → Sem Flow} {Q Q' : Fl → St → Prop} (h : WS w F n b σ t Q) (hq : ∀ d σ, Q d σ → Q' d σ) : WS w F n b σ t Q' :=
  fun hb os env κ ρ s A E ok z r => wpAny_mono (h hb os env κ ρ s A E ok z r) (fun _ _ x => x.mono hq) fun _ _ x => x
theorem W0.then {α δ β ε : Type} {R : Km → δ → α → Prop} {R' : Km → ε → β → Prop} {t : Env → Sem α} {u : Env → α → Sem β} {Q : ε → St → Prop}
    (h : W0 w F n R σ t (fun d σ₁ => ∀ os env κ ρ s A (E : Value → Shared → Prop) v, F.Ok env → Z w os env F.cw κ ρ σ₁ s → Room n A → R ρ d v → wpAny (model pw w) A (u env v) (Po w F os env κ ρ σ₁.nx R' Q) E s)) :
    ∀ os env κ ρ s A (E : Value → Shared → Prop), F.Ok env → Z w os env F.cw κ ρ σ s → Room n A → wpAny (model pw w) A (t env) (fun v s' => wpAny (model pw w) A (u env v) (Po w F os env κ ρ σ.nx R' Q) E s') E s := by
  intro os env κ ρ s A E ok z r
  refine wpAny_mono (h os env κ ρ s A E ok z r) (fun v s' h' => ?_) fun _ _ x => x
  obtain ⟨ρ', d, σ', h1, h2, h3, h4, h5⟩ := h'
  exact wpAny_mono (h5 os env κ ρ' s' A E v ok h4 r h3) (fun _ _ x => x.weak h1 h2) fun _ _ x => x
theorem wE_int {i : Int} {k : Nat} {pos : Pos} {Q : D → St → Prop} (h : Q (.int i) σ) : WE w F n σ (.Constant (.int i) k pos) Q :=
  fun _ _ _ _ _ _ _ _ z _ => wpAny_Constant_int (po (z.tok _) vI h)
theorem wE_str {x : Str} {k : Nat} {pos : Pos} {Q : D → St → Prop} (h : Q (.str x) σ) : WE w F n σ (.Constant (.str x) k pos) Q :=
  fun _ _ _ _ _ _ _ _ z _ => wpAny_Constant_str (po (z.tok _) vS h)
theorem wE_bool {b : Bool} {k : Nat} {pos : Pos} {Q : D → St → Prop} (h : Q (.bool b) σ) : WE w F n σ (.Constant (.bool b) k pos) Q :=
  fun _ _ _ _ _ _ _ _ z _ => wpAny_Constant_bool (po z vB h)
theorem wE_none {k : Nat} {pos : Pos} {Q : D → St → Prop} (h : Q .none σ) : WE w F n σ (.Constant .none k pos) Q :=
  fun _ _ _ _ _ _ _ _ z _ => wpAny_Constant_none (po z vN h)
theorem wE_loc {x : Str} {pos : Pos} {d : D} {Q : D → St → Prop} (hl : F.names.lookup x = some .local) (hd : lk σ.loc x = some d) (h : Q d σ) (hx : (x == ("__debug__" : Str)) = false := by decide) : WE w F n σ (.Name x pos) Q := by
  intro os env κ ρ s A E ok z r
  obtain ⟨m, N, hm⟩ := z.ns
  obtain ⟨v, hv, hV⟩ := hm x d hd
  exact wpAny_Name (wpAny_loadName_local ok.kind (by show env.scope.names.lookup x = _; rw [ok.names]; exact hl) N hv (po z hV h)) hx
theorem wE_cel {x : Str} {pos : Pos} {d : D} {Q : D → St → Prop} (hl : F.names.lookup x = some .cell) (hd : lk σ.cel x = some d) (h : Q d σ) (hx : (x == ("__debug__" : Str)) = false := by decide) : WE w F n σ (.Name x pos) Q := by
  intro os env κ ρ s A E ok z r
  obtain ⟨c, v, hc, hv, hV⟩ := z.cel x d hd
  exact wpAny_Name (wpAny_loadName_cell ok.kind (by show env.scope.names.lookup x = _; rw [ok.names]; exact hl) hc hv (po z hV h)) hx
theorem wE_free {x : Str} {pos : Pos} {d : D} {Q : D → St → Prop} (hl : F.names.lookup x = some .free) (hd : lk σ.cel x = some d) (h : Q d σ) (hx : (x == ("__debug__" : Str)) = false := by decide) (hn : (x == ("__classdict__" : Str)) = false := by decide) : WE w F n σ (.Name x pos) Q := by
  intro os env κ ρ s A E ok z r
  obtain ⟨c, v, hc, hv, hV⟩ := z.cel x d hd
  exact wpAny_Name (wpAny_loadName_free ok.kind (by show env.scope.names.lookup x = _; rw [ok.names]; exact hl) hc hv (po z hV h) hn) hx
theorem X1_ns (w : World) : (X1 w).Ns mainGlobals ((X1 w).nsMap mainGlobals) := .of_isNs (k_main w {})
theorem k_blt' (w : World) : (X1 w).isNs builtinsNs = true := by kernel_rfl
theorem X1_bs (w : World) : (X1 w).Ns builtinsNs ((X1 w).nsMap builtinsNs) := .of_isNs (k_blt' w)
theorem Z.x1 {w os env cw κ ρ σ s} (z : Z w os env cw κ ρ σ s) : ∀ b o, (X1 w).get? b = some o → s.heap.get? b = some o := fun b o e => z.keep b o (z.top b o e)
theorem wE_glob {x : Str} {pos : Pos} {v : Value} {Q : D → St → Prop} (hl : F.names.lookup x = some .globalImplicit) (hd : (X1 w).nsMap mainGlobals x = some v) (h : Q (.glob v) σ) (hx : (x == ("__debug__" : Str)) = false := by decide) : WE w F n σ (.Name x pos) Q := by
  intro os env κ ρ s A E ok z r
  refine Calls.Name_function_global ok.kind (by show env.scope.names.lookup x = _; rw [ok.names]; exact hl) ?_ hx
  exact Calls.loadGlobal_global (by rw [ok.globals]; exact (X1_ns w).keeps z.x1) hd (po z vG h)
theorem wE_bltn {x : Str} {pos : Pos} {v : Value} {Q : D → St → Prop} (hl : F.names.lookup x = some .globalImplicit) (hm : (X1 w).nsMap mainGlobals x = Option.none) (hd : (X1 w).nsMap builtinsNs x = some v) (h : Q (.glob v) σ) (hx : (x == ("__debug__" : Str)) = false := by decide) : WE w F n σ (.Name x pos) Q := by
  intro os env κ ρ s A E ok z r
  refine Calls.Name_function_global ok.kind (by show env.scope.names.lookup x = _; rw [ok.names]; exact hl) ?_ hx
  exact Calls.loadGlobal_builtin (by rw [ok.globals]; exact (X1_ns w).keeps z.x1) hm (by rw [ok.builtins]; exact (X1_bs w).keeps z.x1) hd (po z vG h)
theorem wE_BinOp {l r : Expr} {op : Operator} {pos : Pos} {Q : D → St → Prop} (h : WE w F n σ l (fun a σ₁ => WE w F n σ₁ r (fun b σ₂ => W2 w F n Val σ₂ a b (fun _ u v => binaryOp op u v) Q))) : WE w F n σ (.BinOp l op r pos) Q := by
  intro os env κ ρ s A E ok z r
  refine wpAny_BinOp (wpAny_mono (h os env κ ρ s A E ok z r) (fun u s₁ h₁ => ?_) fun _ _ x => x)
  obtain ⟨ρ₁, a, σ₁, g1, g2, g3, g4, g5⟩ := h₁
  refine wpAny_mono (g5 os env κ ρ₁ s₁ A E ok g4 r) (fun v s₂ h₂ => ?_) fun _ _ x => x
  obtain ⟨ρ₂, b, σ₂, k1, k2, k3, k4, k5⟩ := h₂
  exact wpAny_mono (k5 os env κ ρ₂ s₂ A E u v ok k4 r (g3.mono (g4.le k2)) k3) (fun _ _ x => x.weak (Nat.le_trans g1 k1) (g2.trans k2 g1)) fun _ _ x => x
theorem wE_Cmp {l r : Expr} {op : CmpOp} {pos : Pos} {Q : D → St → Prop} (hm : behindInMarks op r = false) (h : WE w F n σ l (fun a σ₁ => WE w F n σ₁ r (fun b σ₂ => W2 w F n Val σ₂ a b (fun _ u v => compareOp op u v) Q))) :
    WE w F n σ (.Compare l [op] [r] pos) Q := by
  intro os env κ ρ s A E ok z r
  refine wpAny_Compare1 (wpAny_mono (h os env κ ρ s A E ok z r) (fun u s₁ h₁ => ?_) fun _ _ x => x) hm
  obtain ⟨ρ₁, a, σ₁, g1, g2, g3, g4, g5⟩ := h₁
  refine wpAny_mono (g5 os env κ ρ₁ s₁ A E ok g4 r) (fun v s₂ h₂ => ?_) fun _ _ x => x
  obtain ⟨ρ₂, b, σ₂, k1, k2, k3, k4, k5⟩ := h₂
  exact wpAny_mono (k5 os env κ ρ₂ s₂ A E u v ok k4 r (g3.mono (g4.le k2)) k3) (fun _ _ x => x.weak (Nat.le_trans g1 k1) (g2.trans k2 g1)) fun _ _ x => x
theorem wT_Cmp {l r : Expr} {op : CmpOp} {pos : Pos} {Q : Bool → St → Prop} (hm : behindInMarks op r = false)
    (h : WE w F n σ l (fun a σ₁ => WE w F n σ₁ r (fun b σ₂ => W2 w F n Val σ₂ a b (fun _ u v => compareOp op u v) (fun d σ₃ => W1 w F n isB σ₃ d (fun _ v => truthy v) Q)))) :
    WT w F n σ (.Compare l [op] [r] pos) Q := by
  intro os env κ ρ s A E ok z r
  refine wpAny_isTrue_Compare1 (wpAny_mono (h os env κ ρ s A E ok z r) (fun u s₁ h₁ => ?_) fun _ _ x => x) hm
  obtain ⟨ρ₁, a, σ₁, g1, g2, g3, g4, g5⟩ := h₁
  refine wpAny_mono (g5 os env κ ρ₁ s₁ A E ok g4 r) (fun v s₂ h₂ => ?_) fun _ _ x => x
  obtain ⟨ρ₂, b, σ₂, k1, k2, k3, k4, k5⟩ := h₂
  refine wpAny_mono (k5 os env κ ρ₂ s₂ A E u v ok k4 r (g3.mono (g4.le k2)) k3) (fun x s₃ h₃ => ?_) fun _ _ x => x
  obtain ⟨ρ₃, d, σ₃, j1, j2, j3, j4, j5⟩ := h₃
  exact wpAny_mono (j5 os env κ ρ₃ s₃ A E x ok j4 r j3) (fun _ _ x => x.weak (Nat.le_trans g1 (Nat.le_trans k1 j1)) ((g2.trans k2 g1).trans j2 (Nat.le_trans g1 k1))) fun _ _ x => x
theorem w1_truthy_bool {b : Bool} {Q : Bool → St → Prop} (h : Q b σ) : W1 w F n isB σ (.bool b) (fun _ v => truthy v) Q := by
  intro os env κ ρ s A E v ok z r hv
  cases hv
  exact wpAny_truthy_bool (po z rfl h)
theorem wT_value {e : Expr} {Q : Bool → St → Prop} (he : ∀ env, isTrue e env (eval e env) = (do let v ← eval e env; standAt e.pos; holding [v] (truthy v)))
    (h : WE w F n σ e (fun d σ₁ => W1 w F n isB σ₁ d (fun _ v => truthy v) Q)) : WT w F n σ e Q := by
  intro os env κ ρ s A E ok z r
  refine wpAny_isTrue_value (wpAny_mono (h os env κ ρ s A E ok z r) (fun u s₁ h₁ => ?_) fun _ _ x => x) (he env)
  obtain ⟨ρ₁, a, σ₁, g1, g2, g3, g4, g5⟩ := h₁
  exact wpAny_mono (g5 os env κ ρ₁ s₁ A E u ok g4 r g3) (fun _ _ x => x.weak g1 g2) fun _ _ x => x
theorem wE_IfExp {t a b : Expr} {pos : Pos} {Q : D → St → Prop} (h : WT w F n σ t (fun c σ₁ => (c = true → WE w F n σ₁ a Q) ∧ (c = false → WE w F n σ₁ b Q))) : WE w F n σ (.IfExp t a b pos) Q := by
  intro os env κ ρ s A E ok z r
  refine wpAny_IfExp (wpAny_mono (h os env κ ρ s A E ok z r) (fun c s₁ h₁ => ?_) fun _ _ x => x)
  obtain ⟨ρ₁, b', σ₁, g1, g2, g3, g4, g5, g6⟩ := h₁
  cases g3
  cases c
  · exact wpAny_mono (g6 rfl os env κ ρ₁ s₁ A E ok g4 r) (fun _ _ x => x.weak g1 g2) fun _ _ x => x
  · exact wpAny_mono (g5 rfl os env κ ρ₁ s₁ A E ok g4 r) (fun _ _ x => x.weak g1 g2) fun _ _ x => x
theorem wE_And {x y : Expr} {pos : Pos} {Q : D → St → Prop} (h : WE w F n σ x (fun d σ₁ => ∃ c, d = .bool c ∧ (c = true → WE w F n σ₁ y Q) ∧ (c = false → Q (.bool false) σ₁))) : WE w F n σ (.BoolOp .And [x, y] pos) Q := by
  intro os env κ ρ s A E ok z r
  refine wpAny_And2 (wpAny_mono (h os env κ ρ s A E ok z r) (fun v s₁ h₁ => ?_) fun _ _ x => x)
  obtain ⟨ρ₁, d, σ₁, g1, g2, g3, g4, c, rfl, g5, g6⟩ := h₁
  cases g3
  refine wpAny_truthy_bool ?_
  cases c
  · exact ⟨ρ₁, .bool false, σ₁, g1, g2, vB, g4, g6 rfl⟩
  · exact wpAny_mono (g5 rfl os env κ ρ₁ s₁ A E ok g4 r) (fun _ _ x => x.weak g1 g2) fun _ _ x => x
theorem wEs_nil {pos : Pos} {Q : List D → St → Prop} (h : Q [] σ) : WEs w F n σ pos [] Q := fun _ _ _ _ _ _ _ _ z _ => wpAny_items_nil (po z .nil h)
theorem wEs_cons {pos : Pos} {e : Expr} {rest : List Expr} {Q : List D → St → Prop} (he : ∀ env, starEach (e :: rest) env = (false, eval e env) :: starEach rest env)
    (h : WE w F n σ e (fun d σ₁ => WEs w F n σ₁ pos rest (fun ds σ₂ => Q (d :: ds) σ₂))) : WEs w F n σ pos (e :: rest) Q := by
  intro os env κ ρ s A E ok z r
  refine wpAny_items_cons (wpAny_mono (h os env κ ρ s A E ok z r) (fun v s₁ h₁ => ?_) fun _ _ x => x) (he env)
  obtain ⟨ρ₁, d, σ₁, g1, g2, g3, g4, g5⟩ := h₁
  refine wpAny_mono (g5 os env κ ρ₁ s₁ A E ok g4 r) (fun vs s₂ h₂ => ?_) fun _ _ x => x
  obtain ⟨ρ₂, ds, σ₂, k1, k2, k3, k4, k5⟩ := h₂
  exact ⟨ρ₂, _, σ₂, Nat.le_trans g1 k1, g2.trans k2 g1, .cons (g3.mono (g4.le k2)) k3, k4, k5⟩
theorem wE_Tuple {es : List Expr} {k : Nat} {pos : Pos} {Q : D → St → Prop} (h : WEs w F n σ pos es (fun ds σ₁ => ds.length ≤ sizeLine ∧ Mk σ₁ ⟨"tuple", ds, false, true⟩ Q)) : WE w F n σ (.Tuple es k pos) Q := by
  intro os env κ ρ s A E ok z r
  refine wpAny_Tuple (wpAny_mono (h os env κ ρ s A E ok z r) (fun vs s₁ h₁ => ?_) fun _ _ x => x)
  obtain ⟨ρ₁, ds, σ₁, g1, g2, g3, g4, g5, g6⟩ := h₁
  refine ⟨by rw [← g3.len]; exact g5, _, _, _, ?_, ?_, ?_, g4.alloc "tuple" g3, g6⟩
  · exact Nat.le_trans g1 (Nat.le_succ _)
  · exact g2.trans (eqb_put g4.fr) g1
  · exact ⟨_, if_pos rfl, rfl⟩
theorem wE_List {es : List Expr} {pos : Pos} {Q : D → St → Prop} (h : WEs w F n σ pos es (fun ds σ₁ => ds.length ≤ sizeLine ∧ Mk σ₁ ⟨"list", ds, false, true⟩ Q)) : WE w F n σ (.List es pos) Q := by
  intro os env κ ρ s A E ok z r
  refine wpAny_List (wpAny_mono (h os env κ ρ s A E ok z r) (fun vs s₁ h₁ => ?_) fun _ _ x => x)
  obtain ⟨ρ₁, ds, σ₁, g1, g2, g3, g4, g5, g6⟩ := h₁
  refine ⟨by rw [← g3.len]; exact g5, _, _, _, ?_, ?_, ?_, g4.alloc "list" g3, g6⟩
  · exact Nat.le_trans g1 (Nat.le_succ _)
  · exact g2.trans (eqb_put g4.fr) g1
  · exact ⟨_, if_pos rfl, rfl⟩
end
end
section
section
variable {w : World} {F : Fm} {n b : Nat} {σ : St}
theorem wB_nil {Q : Fl → St → Prop} (h : Q .next σ) : WB w F n b σ [] Q := fun hb os env κ ρ s A E ok z r => wpAny_execs_nil ⟨ρ, .next, σ, hb, EqB.rfl', rfl, z, h⟩
noncomputable def thenB (w : World) (F : Fm) (n b : Nat) (rest : List Stmt) (Q : Fl → St → Prop) : Fl → St → Prop
  | .next, σ => WB w F n b σ rest Q
  | fl, σ => Q fl σ
theorem thenB_next {rest : List Stmt} {Q : Fl → St → Prop} (h : WB w F n b σ rest Q) : thenB w F n b rest Q .next σ := h
theorem thenB_ret {rest : List Stmt} {Q : Fl → St → Prop} {d : D} (h : Q (.ret d) σ) : thenB w F n b rest Q (.ret d) σ := h
theorem thenB_brk {rest : List Stmt} {Q : Fl → St → Prop} (h : Q .brk σ) : thenB w F n b rest Q .brk σ := h
theorem thenB_cont {rest : List Stmt} {Q : Fl → St → Prop} (h : Q .cont σ) : thenB w F n b rest Q .cont σ := h
theorem wB_cons {st : Stmt} {rest : List Stmt} {Q : Fl → St → Prop} (h : WX w F n b σ st (thenB w F n b rest Q)) : WB w F n b σ (st :: rest) Q := by
  intro hb os env κ ρ s A E ok z r
  refine wpAny_execs_cons (wpAny_mono (h hb os env κ ρ s A E ok z r) (fun f s₁ h₁ => ?_) fun _ _ x => x)
  obtain ⟨ρ₁, fl, σ₁, g1, g2, g3, g4, g5⟩ := h₁
  cases fl with
  | next => cases g3; exact wpAny_mono (g5 g1 os env κ ρ₁ s₁ A E ok g4 r) (fun _ _ x => x.weak (Nat.le_refl _) g2) fun _ _ x => x
  | brk => cases g3; exact ⟨ρ₁, .brk, σ₁, g1, g2, rfl, g4, g5⟩
  | cont => cases g3; exact ⟨ρ₁, .cont, σ₁, g1, g2, rfl, g4, g5⟩
  | ret d => obtain ⟨v, rfl, hv⟩ := g3; exact ⟨ρ₁, .ret d, σ₁, g1, g2, ⟨v, rfl, hv⟩, g4, g5⟩
noncomputable def SetTo (F : Fm) (σ : St) (x : Str) (d : D) (σ' : St) : Prop :=
  (F.names.lookup x = some .local ∧ σ' = { σ with loc := setl σ.loc x d }) ∨ (F.names.lookup x = some .cell ∧ F.cw = true ∧ σ' = { σ with cel := setl σ.cel x d })
theorem SetTo.nx {x : Str} {d : D} {σ' : St} (h : SetTo F σ x d σ') : σ'.nx = σ.nx := by rcases h with ⟨_, rfl⟩ | ⟨_, _, rfl⟩ <;> rfl
theorem store_ {os : Og} {env : Env} {κ : Kp} {ρ : Km} {s : Shared} {A : Around} {E : Value → Shared → Prop} {x : Str} {d : D} {v : Value} {σ' : St} {Q : Unit → Shared → Prop} (ok : F.Ok env) (z : Z w os env F.cw κ ρ σ s) (hv : Val ρ d v)
    (h : SetTo F σ x d σ') (hQ : ∀ s', Z w os env F.cw κ ρ σ' s' → Q () s') : wpAny (model pw w) A (storeName env x v) Q E s := by
  rcases h with ⟨h1, rfl⟩ | ⟨h1, h2, rfl⟩
  · obtain ⟨m, N, hm⟩ := z.ns
    exact wpAny_storeName_local (by show env.scope.names.lookup x = _; rw [ok.names]; exact h1) N (fun h' hn hs => hQ _ (z.setLoc hv N hn hs)) (by rw [ok.kind]; rfl)
  · obtain ⟨c, hc⟩ := ok.cells h2 x h1
    obtain ⟨⟨o, hco⟩, _⟩ := z.cc x c hc
    exact wpAny_storeName_cell ok.kind (by show env.scope.names.lookup x = _; rw [ok.names]; exact h1) hc hco fun h' hn hs => hQ _ (z.setCel h2 hv hc hn hs)
noncomputable def Sto (F : Fm) (σ : St) (x : Str) (d : D) (K : St → Prop) : Prop := ∃ σ₂, SetTo F σ x d σ₂ ∧ K σ₂
theorem sto_loc {x : Str} {d : D} {l l' c : List (Str × D)} {o : List (Nat × Sp)} {k : Nat} {K : St → Prop} (h : F.names.lookup x = some .local) (hl : setl l x d = l') (hK : K ⟨l', c, o, k⟩) : Sto F ⟨l, c, o, k⟩ x d K := ⟨_, .inl ⟨h, by rw [hl]⟩, hK⟩
theorem sto_cel {x : Str} {d : D} {l c c' : List (Str × D)} {o : List (Nat × Sp)} {k : Nat} {K : St → Prop} (h : F.names.lookup x = some .cell) (hw : F.cw = true) (hl : setl c x d = c') (hK : K ⟨l, c', o, k⟩) : Sto F ⟨l, c, o, k⟩ x d K := ⟨_, .inr ⟨h, hw, by rw [hl]⟩, hK⟩
theorem wX_Assign {x : Str} {p pos : Pos} {value : Expr} {Q : Fl → St → Prop} (hs : ∀ env : Env, swapsWith value (some (.Name x p)) pos.line env = pure false)
    (h : WE w F n σ value (fun d σ₁ => Sto F σ₁ x d (Q .next))) : WX w F n b σ (.Assign [.Name x p] value pos) Q := by
  intro hb os env κ ρ s A E ok z r
  refine wpAny_Assign_Name (wpAny_mono (h os env κ ρ s A E ok z r) (fun v s₁ h₁ => ?_) fun _ _ x => x) (hs env)
  obtain ⟨ρ₁, d, σ₁, g1, g2, g3, g4, σ₂, g5, g6⟩ := h₁
  exact store_ ok g4 g3 g5 fun s' z' => ⟨ρ₁, .next, σ₂, by rw [g5.nx]; exact Nat.le_trans hb g1, g2.less hb, rfl, z', g6⟩
theorem wX_Aug {x : Str} {p pos : Pos} {op : Operator} {value : Expr} {Q : Fl → St → Prop} {d₀ : D} (hl : F.names.lookup x = some .local) (hd : lk σ.loc x = some d₀)
    (h : WE w F n σ value (fun d σ₁ => W2 w F n Val σ₁ d₀ d (fun _ u v => inplaceOp op u v) (fun e σ₂ => Sto F σ₂ x e (Q .next)))) : WX w F n b σ (.AugAssign (.Name x p) op value pos) Q := by
  intro hb os env κ ρ s A E ok z r
  obtain ⟨m, N, hm⟩ := z.ns
  obtain ⟨u, hu, hV⟩ := hm x d₀ hd
  refine wpAny_AugAssign_Name (wpAny_loadName_local ok.kind (by show env.scope.names.lookup x = _; rw [ok.names]; exact hl) N hu ?_)
  refine wpAny_mono (h os env κ ρ s A E ok z r) (fun v s₁ h₁ => ?_) fun _ _ x => x
  obtain ⟨ρ₁, d, σ₁, g1, g2, g3, g4, g5⟩ := h₁
  refine wpAny_mono (g5 os env κ ρ₁ s₁ A E u v ok g4 r (hV.mono (z.le g2)) g3) (fun v s₂ h₂ => ?_) fun _ _ x => x
  obtain ⟨ρ₂, e, σ₂, k1, k2, k3, k4, σ₃, k5, k6⟩ := h₂
  exact store_ ok k4 k3 k5 fun s' z' => ⟨ρ₂, .next, σ₃, by rw [k5.nx]; exact Nat.le_trans hb (Nat.le_trans g1 k1), (g2.trans k2 g1).less hb, rfl, z', k6⟩
theorem wX_If {t : Expr} {body orelse : List Stmt} {pos : Pos} {Q : Fl → St → Prop} (h : WT w F n σ t (fun c σ₁ => (c = true → WB w F n b σ₁ body Q) ∧ (c = false → WB w F n b σ₁ orelse Q))) : WX w F n b σ (.If t body orelse pos) Q := by
  intro hb os env κ ρ s A E ok z r
  refine wpAny_If (wpAny_mono (h os env κ ρ s A E ok z r) (fun c s₁ h₁ => ?_) fun _ _ x => x)
  obtain ⟨ρ₁, c', σ₁, g1, g2, g3, g4, g5, g6⟩ := h₁
  cases g3
  cases c
  · exact wpAny_mono (g6 rfl (Nat.le_trans hb g1) os env κ ρ₁ s₁ A E ok g4 r) (fun _ _ x => x.weak (Nat.le_refl _) (g2.less hb)) fun _ _ x => x
  · exact wpAny_mono (g5 rfl (Nat.le_trans hb g1) os env κ ρ₁ s₁ A E ok g4 r) (fun _ _ x => x.weak (Nat.le_refl _) (g2.less hb)) fun _ _ x => x
theorem wX_Return {e : Expr} {pos : Pos} {Q : Fl → St → Prop} (h : WE w F n σ e (fun d σ₁ => Q (.ret d) σ₁)) : WX w F n b σ (.Return (some e) pos) Q := by
  intro hb os env κ ρ s A E ok z r
  refine wpAny_Return_some (wpAny_mono (h os env κ ρ s A E ok z r) (fun v s₁ h₁ => ?_) fun _ _ x => x)
  obtain ⟨ρ₁, d, σ₁, g1, g2, g3, g4, g5⟩ := h₁
  exact ⟨ρ₁, .ret d, σ₁, Nat.le_trans hb g1, g2.less hb, ⟨v, rfl, g3⟩, g4, g5⟩
theorem interactive_ff {env : Env} (ok : F.Ok env) : interactive env = false := by unfold interactive; rw [ok.kind]; rfl
theorem wX_Expr {e : Expr} {pos : Pos} {Q : Fl → St → Prop} (hs : ∀ env : Env, swapsWith e none pos.line env = pure false) (h : WE w F n σ e (fun d σ₁ => d = .none ∧ Q .next σ₁)) : WX w F n b σ (.Expr e pos) Q := by
  intro hb os env κ ρ s A E ok z r
  refine wpAny_Expr (wpAny_mono (h os env κ ρ s A E ok z r) (fun v s₁ h₁ => ?_) fun _ _ x => x) (interactive_ff ok) (hs env)
  obtain ⟨ρ₁, d, σ₁, g1, g2, g3, g4, rfl, g5⟩ := h₁
  cases g3
  exact ⟨ρ₁, .next, σ₁, Nat.le_trans hb g1, g2.less hb, rfl, g4, g5⟩
theorem wX_AssignSub {o i : Expr} {p pos : Pos} {value : Expr} {Q : Fl → St → Prop} (hs : ∀ env : Env, swapsWith value (some (.Subscript o i p)) pos.line env = pure false)
    (h : WE w F n σ value (fun d σ₁ => WE w F n σ₁ o (fun c σ₂ => WE w F n σ₂ i (fun j σ₃ => WL w F n isU σ₃ [c, j, d] (fun _ vs => match vs with | [x, y, z] => setItem x y z | _ => pure ()) (fun _ σ₄ => Q .next σ₄))))) :
    WX w F n b σ (.Assign [.Subscript o i p] value pos) Q := by
  intro hb os env κ ρ s A E ok z r
  refine wpAny_Assign_Subscript (wpAny_mono (h os env κ ρ s A E ok z r) (fun v s₁ h₁ => ?_) fun _ _ x => x) (hs env)
  obtain ⟨ρ₁, d, σ₁, g1, g2, g3, g4, g5⟩ := h₁
  refine wpAny_mono (g5 os env κ ρ₁ s₁ A E ok g4 r) (fun u s₂ h₂ => ?_) fun _ _ x => x
  obtain ⟨ρ₂, c, σ₂, k1, k2, k3, k4, k5⟩ := h₂
  refine wpAny_mono (k5 os env κ ρ₂ s₂ A E ok k4 r) (fun t s₃ h₃ => ?_) fun _ _ x => x
  obtain ⟨ρ₃, j, σ₃, j1, j2, j3, j4, j5⟩ := h₃
  refine wpAny_mono (j5 os env κ ρ₃ s₃ A E [u, t, v] ok j4 r (.cons (k3.mono (k4.le j2)) (.cons j3 (.cons (g3.mono (Le.trans (g4.le k2) (k4.le j2))) .nil)))) (fun _ s₄ h₄ => ?_) fun _ _ x => x
  obtain ⟨ρ₄, _, σ₄, i1, i2, i3, i4, i5⟩ := h₄
  exact ⟨ρ₄, .next, σ₄, Nat.le_trans hb (Nat.le_trans g1 (Nat.le_trans k1 (Nat.le_trans j1 i1))), (((g2.trans k2 g1).trans j2 (Nat.le_trans g1 k1)).trans i2 (Nat.le_trans g1 (Nat.le_trans k1 j1))).less hb, rfl, i4, i5⟩
/-! ints -/
theorem w2_add {a b : Int} {Q : D → St → Prop} (h : Q (.int (a + b)) σ) : W2 w F n Val σ (.int a) (.int b) (fun _ u v => binaryOp .Add u v) Q := by
  rintro os env κ ρ s A E _ _ ok z r ⟨t, rfl⟩ ⟨u, rfl⟩
  exact PyProof.Rows.add_int (po (z.tok _) vI h)
theorem w2_sub {a b : Int} {Q : D → St → Prop} (h : Q (.int (a - b)) σ) : W2 w F n Val σ (.int a) (.int b) (fun _ u v => binaryOp .Sub u v) Q := by
  rintro os env κ ρ s A E _ _ ok z r ⟨t, rfl⟩ ⟨u, rfl⟩
  exact PyProof.Rows.sub_int (po (z.tok _) vI h)
theorem w2_mod {a b : Int} {Q : D → St → Prop} (hb : b ≠ 0) (h : Q (.int (a.fmod b)) σ) : W2 w F n Val σ (.int a) (.int b) (fun _ u v => binaryOp .Mod u v) Q := by
  rintro os env κ ρ s A E _ _ ok z r ⟨t, rfl⟩ ⟨u, rfl⟩
  exact PyProof.Rows.mod_int hb (po (z.tok _) vI h)
theorem w2_iadd {a b : Int} {Q : D → St → Prop} (h : Q (.int (a + b)) σ) : W2 w F n Val σ (.int a) (.int b) (fun _ u v => inplaceOp .Add u v) Q := by
  rintro os env κ ρ s A E _ _ ok z r ⟨t, rfl⟩ ⟨u, rfl⟩
  exact PyProof.Rows.iadd_int (po (z.tok _) vI h)
theorem w2_lt {a b : Int} {Q : D → St → Prop} (h : Q (.bool (decide (a < b))) σ) : W2 w F n Val σ (.int a) (.int b) (fun _ u v => compareOp .Lt u v) Q := by
  rintro os env κ ρ s A E _ _ ok z r ⟨t, rfl⟩ ⟨u, rfl⟩
  exact PyProof.Rows.lt_int (po z vB h)
theorem w2_gt {a b : Int} {Q : D → St → Prop} (h : Q (.bool (decide (b < a))) σ) : W2 w F n Val σ (.int a) (.int b) (fun _ u v => compareOp .Gt u v) Q := by
  rintro os env κ ρ s A E _ _ ok z r ⟨t, rfl⟩ ⟨u, rfl⟩
  exact PyProof.Rows.gt_int (po z vB h)
theorem w2_eq {a b : Int} {Q : D → St → Prop} (h : Q (.bool (a == b)) σ) : W2 w F n Val σ (.int a) (.int b) (fun _ u v => compareOp .Eq u v) Q := by
  rintro os env κ ρ s A E _ _ ok z r ⟨t, rfl⟩ ⟨u, rfl⟩
  exact PyProof.Rows.eq_int (po z vB h)
theorem w2_ne {a b : Int} {Q : D → St → Prop} (h : Q (.bool (a != b)) σ) : W2 w F n Val σ (.int a) (.int b) (fun _ u v => compareOp .NotEq u v) Q := by
  rintro os env κ ρ s A E _ _ ok z r ⟨t, rfl⟩ ⟨u, rfl⟩
  exact PyProof.Rows.ne_int (po z vB h)
end
end
section
section
variable {w : World} {F : Fm} {n b : Nat} {σ : St}
inductive SeqOf (ρ : Km) (h : Heap) (k : Nat) (sp : Sp) (v : Value) : Prop
  | mk (a : Addr) (o : Obj) (vs : List Value) (m : Nat) (e : v = .ref a) (r : ρ k = some a) (g : h.get? a = some o) (c : o.cls = .type sp.ty) (d : o.data = .seq vs.toArray m) (p : sp.px = true → o = seqO sp.ty vs m) (q : All2 (Val ρ) sp.ds vs)
inductive LstOf (ρ : Km) (h : Heap) (k : Nat) (sp : Sp) (v : Value) : Prop
  | mk (a : Addr) (vs : List Value) (e : v = .ref a) (r : ρ k = some a) (l : h.IsList a vs.toArray) (q : All2 (Val ρ) sp.ds vs)
inductive TupOf (ρ : Km) (h : Heap) (k : Nat) (sp : Sp) (v : Value) : Prop
  | mk (a : Addr) (vs : List Value) (e : v = .ref a) (r : ρ k = some a) (l : IsTup h a vs.toArray) (q : All2 (Val ρ) sp.ds vs)
inductive PlnOf (ρ : Km) (h : Heap) (k : Nat) (sp : Sp) (v : Value) : Prop
  | mk (a : Addr) (vs : List Value) (m : Nat) (e : v = .ref a) (r : ρ k = some a) (l : IsL h a vs.toArray m) (q : All2 (Val ρ) sp.ds vs)
theorem Z.hasSeq {w os env cw κ ρ σ s} (z : Z w os env cw κ ρ σ s) {k : Nat} {sp : Sp} (h : fd σ.objs k = some sp) {v : Value} (hv : Val ρ (.ref k) v) : SeqOf ρ s.heap k sp v := by
  obtain ⟨a, e, rfl⟩ := hv
  obtain ⟨a', e', ⟨o, vs, m, h1, h2, h3, h4, h5⟩, _⟩ := z.obj k sp h
  rw [e] at e'; cases e'
  exact ⟨a, o, vs, m, rfl, e, h1, h2, h3, h4, h5⟩
theorem Z.list {w os env cw κ ρ σ s} (z : Z w os env cw κ ρ σ s) {k : Nat} {sp : Sp} (h : fd σ.objs k = some sp) (ht : sp.ty = "list") {v : Value} (hv : Val ρ (.ref k) v) : LstOf ρ s.heap k sp v := by
  obtain ⟨a, o, vs, m, ev, e, h1, h2, h3, _, h5⟩ := z.hasSeq h hv
  exact ⟨a, vs, ev, e, ⟨o, h1, by rw [h2, ht], m, h3⟩, h5⟩
theorem Z.tup {w os env cw κ ρ σ s} (z : Z w os env cw κ ρ σ s) {k : Nat} {sp : Sp} (h : fd σ.objs k = some sp) (ht : sp.ty = "tuple") {v : Value} (hv : Val ρ (.ref k) v) : TupOf ρ s.heap k sp v := by
  obtain ⟨a, o, vs, m, ev, e, h1, h2, h3, _, h5⟩ := z.hasSeq h hv
  exact ⟨a, vs, ev, e, ⟨o, h1, by rw [h2, ht], m, h3⟩, h5⟩
theorem Z.listL {w os env cw κ ρ σ s} (z : Z w os env cw κ ρ σ s) {k : Nat} {sp : Sp} (h : fd σ.objs k = some sp) (ht : sp.ty = "list") (hp : sp.px = true) {v : Value} (hv : Val ρ (.ref k) v) : PlnOf ρ s.heap k sp v := by
  obtain ⟨a, o, vs, m, ev, e, h1, h2, h3, h4, h5⟩ := z.hasSeq h hv
  exact ⟨a, vs, m, ev, e, by rw [h4 hp, ht] at h1; exact h1, h5⟩
noncomputable def smallI (i : Int) : Prop := -(2 ^ 64) < i ∧ i < 2 ^ 64
theorem w2_mul {a c : Int} {Q : D → St → Prop} (ha : smallI a) (h : Q (.int (a * c)) σ) : W2 w F n Val σ (.int a) (.int c) (fun _ u v => binaryOp .Mult u v) Q := by
  rintro os env κ ρ s A E _ _ ok z r ⟨t, rfl⟩ ⟨u, rfl⟩
  have hm : IntMulOk a c := .of_left (intBits_le_64 ha.1 ha.2)
  exact PySem.P.mul_int (po (z.tok _) vI h) hm
theorem w2_floordiv {a c : Int} {Q : D → St → Prop} (hc : c ≠ 0) (hp : c.natAbs < 1073741824) (h : Q (.int (a.fdiv c)) σ) : W2 w F n Val σ (.int a) (.int c) (fun _ u v => binaryOp .FloorDiv u v) Q := by
  rintro os env κ ρ s A E _ _ ok z r ⟨t, rfl⟩ ⟨u, rfl⟩
  exact PyProof.Rows.floordiv_int hc (po (z.tok _) vI h) (.inl (PyProof.noPylong_small hp))
theorem w2_isub {a c : Int} {Q : D → St → Prop} (h : Q (.int (a - c)) σ) : W2 w F n Val σ (.int a) (.int c) (fun _ u v => inplaceOp .Sub u v) Q := by
  rintro os env κ ρ s A E _ _ ok z r ⟨t, rfl⟩ ⟨u, rfl⟩
  exact PySem.P.isub_int (po (z.tok _) vI h)
theorem wE_neg {i : Int} {k : Nat} {p pos : Pos} {Q : D → St → Prop} (h : Q (.int (-i)) σ) : WE w F n σ (.UnaryOp .USub (.Constant (.int i) k p) pos) Q := by
  intro os env κ ρ s A E ok z r
  exact wpAny_UnaryOp (wpAny_Constant_int (PySem.P.neg_int (po ((z.tok _).tok _) vI h)))
/-! strs -/
theorem w2_sadd {x y : Str} {Q : D → St → Prop} (hs : x.length + y.length ≤ sizeLine) (h : Q (.str (x ++ y)) σ) : W2 w F n Val σ (.str x) (.str y) (fun _ u v => binaryOp .Add u v) Q := by
  rintro os env κ ρ s A E _ _ ok z r ⟨t, rfl⟩ ⟨u, rfl⟩
  refine PySem.P.add_str ?_
  split
  · rename_i hx
    have : x ++ y = y := by
      obtain ⟨x⟩ := x; obtain ⟨y⟩ := y
      have hx' : x.size = 0 := by simpa [Str.length] using hx
      have : x = #[] := Array.eq_empty_of_size_eq_zero hx'
      subst this
      show (⟨#[] ++ y⟩ : Str) = ⟨y⟩
      simp
    rw [this] at h
    exact po z vS h
  · split
    · rename_i hy
      have : x ++ y = x := by
        obtain ⟨x⟩ := x; obtain ⟨y⟩ := y
        have hy' : y.size = 0 := by simpa [Str.length] using hy
        have : y = #[] := Array.eq_empty_of_size_eq_zero hy'
        subst this
        show (⟨x ++ #[]⟩ : Str) = ⟨x⟩
        simp
      rw [this] at h
      exact po z vS h
    · exact ⟨by show (x ++ y).length ≤ sizeLine; rw [strLen_append]; exact hs, po (z.tok _) vS h⟩
theorem w2_seq {x y : Str} {Q : D → St → Prop} (h : Q (.bool (x.cps.toList == y.cps.toList)) σ) : W2 w F n Val σ (.str x) (.str y) (fun _ u v => compareOp .Eq u v) Q := by
  rintro os env κ ρ s A E _ _ ok z r ⟨t, rfl⟩ ⟨u, rfl⟩
  exact PySem.P.eq_str (po z vB h)
theorem w2_sne {x y : Str} {Q : D → St → Prop} (h : Q (.bool (x.cps.toList != y.cps.toList)) σ) : W2 w F n Val σ (.str x) (.str y) (fun _ u v => compareOp .NotEq u v) Q := by
  rintro os env κ ρ s A E _ _ ok z r ⟨t, rfl⟩ ⟨u, rfl⟩
  exact PySem.P.ne_str (po z vB h)
theorem w2_isNone {d : D} {Q : D → St → Prop} {c : Bool} (hd : ∀ ρ v, Val ρ d v → (v == Value.none) = c) (h : Q (.bool c) σ) : W2 w F n Val σ d .none (fun _ u v => compareOp .Is u v) Q := by
  rintro os env κ ρ s A E u v ok z r hu hv
  cases hv
  exact is_none (by rw [hd ρ u hu]; exact po z vB h)
theorem w2_isNotNone {d : D} {Q : D → St → Prop} {c : Bool} (hd : ∀ ρ v, Val ρ d v → (v == Value.none) = c) (h : Q (.bool (!c)) σ) : W2 w F n Val σ d .none (fun _ u v => compareOp .IsNot u v) Q := by
  rintro os env κ ρ s A E u v ok z r hu hv
  cases hv
  exact isNot_none (by rw [hd ρ u hu]; exact po z vB h)
theorem isn_none (ρ : Km) (v : Value) (h : Val ρ .none v) : (v == Value.none) = true := by cases h; rfl
theorem isn_int {i : Int} (ρ : Km) (v : Value) (h : Val ρ (.int i) v) : (v == Value.none) = false := by obtain ⟨t, rfl⟩ := h; rfl
theorem isn_str {x : Str} (ρ : Km) (v : Value) (h : Val ρ (.str x) v) : (v == Value.none) = false := by obtain ⟨t, rfl⟩ := h; rfl
theorem isn_bool {x : Bool} (ρ : Km) (v : Value) (h : Val ρ (.bool x) v) : (v == Value.none) = false := by cases h; rfl
theorem isn_ref {k : Nat} (ρ : Km) (v : Value) (h : Val ρ (.ref k) v) : (v == Value.none) = false := by obtain ⟨a, _, rfl⟩ := h; rfl
theorem w2_isBool {c d : Bool} {Q : D → St → Prop} (h : Q (.bool (c == d)) σ) : W2 w F n Val σ (.bool c) (.bool d) (fun _ u v => compareOp .Is u v) Q := by
  rintro os env κ ρ s A E u v ok z r hu hv
  cases hu; cases hv
  show wpAny _ _ (do return Value.bool (← isSame (.bool c) (.bool d))) _ _ _
  refine wpAny_bind (wpAny_of_eq (a := (c == d)) (by cases c <;> cases d <;> rfl) (wpAny_pure (po z vB h)))
theorem w2_isNotBool {c d : Bool} {Q : D → St → Prop} (h : Q (.bool (!(c == d))) σ) : W2 w F n Val σ (.bool c) (.bool d) (fun _ u v => compareOp .IsNot u v) Q := by
  rintro os env κ ρ s A E u v ok z r hu hv
  cases hu; cases hv
  show wpAny _ _ (do return Value.bool (!(← isSame (.bool c) (.bool d)))) _ _ _
  refine wpAny_bind (wpAny_of_eq (a := (c == d)) (by cases c <;> cases d <;> rfl) (wpAny_pure (po z vB h)))
/-! calls -/
noncomputable def plainE : Expr → Bool
  | .Starred _ _ => false
  | _ => true
theorem star_plain {es : List Expr} (h : es.all plainE = true) (env : Env) : starEach es env = es.map fun e => (false, eval e env) := by
  induction es with
  | nil => rfl
  | cons e r ih =>
    simp only [List.all_cons, Bool.and_eq_true] at h
    have := ih h.2
    cases e <;> first
      | (exact absurd h.1 Bool.false_ne_true)
      | (show (false, _) :: starEach r env = _; rw [this]; rfl)
theorem back_plain {es : List Expr} (h : es.all plainE = true) (env : Env) (pos : Pos) : (backTo pos (starEach es env)).any (·.1) = false := by
  rw [star_plain h, backTo]
  simp
theorem wE_CallFn {f : Str} {p pos : Pos} {e : Expr} {rest : List Expr} {a : Addr} {fd : FuncData} {o : Obj} {Q : D → St → Prop} (hf : WE w F n σ (.Name f p) (fun d σ₁ => d = .glob (.ref a) ∧ σ₁ = σ)) (ho : (X1 w).get? a = some o) (hd : o.data = .func fd)
    (hpl : (e :: rest).all plainE = true) (h : WEs w F n σ pos (e :: rest) (fun ds σ₂ => WL w F n Val σ₂ ds (fun _ vs => call (.ref a) vs) Q)) :
    WE w F n σ (.Call (.Name f p) (e :: rest) [] pos) Q := by
  intro os env κ ρ s A E ok z r
  refine wpAny_Call_Name_kw (wpAny_mono (hf os env κ ρ s A E ok z r) (fun fv s₁ h₁ => ?_) fun _ _ x => x)
  obtain ⟨ρ₁, d, σ₁, g1, g2, g3, g4, rfl, rfl⟩ := h₁
  cases g3
  refine callWith_def hd (wpAny_mono (h os env κ ρ₁ s₁ A E ok g4 r) (fun vs s₂ h₂ => ?_) fun _ _ x => x) (by have := star_plain hpl env; rw [this]; have h2 := star_plain (es := rest) (by simp only [List.all_cons, Bool.and_eq_true] at hpl; exact hpl.2) env; rw [h2]; rfl)
  obtain ⟨ρ₂, ds, σ₂, k1, k2, k3, k4, k5⟩ := h₂
  refine ⟨k4.x1 _ _ ho, ?_⟩
  exact wpAny_mono (k5 os env κ ρ₂ s₂ A E vs ok k4 r k3) (fun _ _ x => x.weak (Nat.le_trans g1 k1) (g2.trans k2 g1)) fun _ _ x => x
theorem wE_CallB {f : Str} {p pos : Pos} {e : Expr} {rest : List Expr} {id : String} {Q : D → St → Prop} (hf : WE w F n σ (.Name f p) (fun d σ₁ => d = .glob (.builtin id) ∧ σ₁ = σ))
    (hpl : (e :: rest).all plainE = true) (h : WEs w F n σ pos (e :: rest) (fun ds σ₂ => WL w F n Val σ₂ ds (fun _ vs => call (.builtin id) vs) Q)) :
    WE w F n σ (.Call (.Name f p) (e :: rest) [] pos) Q := by
  intro os env κ ρ s A E ok z r
  refine wpAny_Call_Name_kw (wpAny_mono (hf os env κ ρ s A E ok z r) (fun fv s₁ h₁ => ?_) fun _ _ x => x)
  obtain ⟨ρ₁, d, σ₁, g1, g2, g3, g4, rfl, rfl⟩ := h₁
  cases g3
  have h2 : rest.all plainE = true := by simp only [List.all_cons, Bool.and_eq_true] at hpl; exact hpl.2
  refine PyProof.Rows.callWith_builtin1 (wpAny_mono (h os env κ ρ₁ s₁ A E ok g4 r) (fun vs s₂ h₂ => ?_) fun _ _ x => x) (by rw [star_plain hpl env, star_plain h2 env]; rfl) (back_plain h2 env pos)
  obtain ⟨ρ₂, ds, σ₂, k1, k2, k3, k4, k5⟩ := h₂
  exact wpAny_mono (k5 os env κ ρ₂ s₂ A E vs ok k4 r k3) (fun _ _ x => x.weak (Nat.le_trans g1 k1) (g2.trans k2 g1)) fun _ _ x => x
theorem wE_CallT {f : Str} {p pos : Pos} {e : Expr} {rest : List Expr} {T : String} {Q : D → St → Prop} (hf : WE w F n σ (.Name f p) (fun d σ₁ => d = .glob (.type T) ∧ σ₁ = σ))
    (hpl : (e :: rest).all plainE = true) (h : WEs w F n σ pos (e :: rest) (fun ds σ₂ => WL w F n Val σ₂ ds (fun _ vs => call (.type T) vs) Q)) :
    WE w F n σ (.Call (.Name f p) (e :: rest) [] pos) Q := by
  intro os env κ ρ s A E ok z r
  refine wpAny_Call_Name_kw (wpAny_mono (hf os env κ ρ s A E ok z r) (fun fv s₁ h₁ => ?_) fun _ _ x => x)
  obtain ⟨ρ₁, d, σ₁, g1, g2, g3, g4, rfl, rfl⟩ := h₁
  cases g3
  have h2 : rest.all plainE = true := by simp only [List.all_cons, Bool.and_eq_true] at hpl; exact hpl.2
  refine PySem.callWith_type (back_plain hpl env pos) ?_
  rw [show backTo pos (starEach (e :: rest) env) = (false, eval e env) :: backTo pos (starEach rest env) by rw [star_plain hpl env, star_plain h2 env]; rfl]
  refine Calls.evalArgs_plain ?_
  rw [show (false, eval e env) :: backTo pos (starEach rest env) = backTo pos (starEach (e :: rest) env) by rw [star_plain hpl env, star_plain h2 env]; rfl]
  refine wpAny_mono (h os env κ ρ₁ s₁ A E ok g4 r) (fun vs s₂ h₂ => ?_) fun _ _ x => x
  obtain ⟨ρ₂, ds, σ₂, k1, k2, k3, k4, k5⟩ := h₂
  exact wpAny_mono (k5 os env κ ρ₂ s₂ A E vs ok k4 r k3) (fun _ _ x => x.weak (Nat.le_trans g1 k1) (g2.trans k2 g1)) fun _ _ x => x
theorem wL_one {d : D} {α δ : Type} {R : Km → δ → α → Prop} {t : Env → List Value → Sem α} {Q : δ → St → Prop} (h : W1 w F n R σ d (fun env v => t env [v]) Q) : WL w F n R σ [d] t Q := by
  intro os env κ ρ s A E vs ok z r hv
  cases hv with
  | cons h1 h2 => cases h2; exact h os env κ ρ s A E _ ok z r h1
theorem wL_two {a c : D} {α δ : Type} {R : Km → δ → α → Prop} {t : Env → List Value → Sem α} {Q : δ → St → Prop} (h : W2 w F n R σ a c (fun env u v => t env [u, v]) Q) : WL w F n R σ [a, c] t Q := by
  intro os env κ ρ s A E vs ok z r hv
  cases hv with
  | cons h1 h2 => cases h2 with
    | cons h3 h4 => cases h4; exact h os env κ ρ s A E _ _ ok z r h1 h3
theorem w1_lenS {x : Str} {Q : D → St → Prop} (hs : (x.length : Int) < 2 ^ 63) (h : Q (.int x.length) σ) : W1 w F n Val σ (.str x) (fun _ v => call (.builtin "len") [v]) Q := by
  rintro os env κ ρ s A E _ ok z r ⟨t, rfl⟩
  exact PySem.P.len_str (by lia) (po ((z.tok _).tok _) vI h)
theorem w1_lenL {k : Nat} {sp : Sp} {Q : D → St → Prop} (hk : fd σ.objs k = some sp) (ht : sp.ty = "list") (hs : (sp.ds.length : Int) < 2 ^ 63) (h : Q (.int sp.ds.length) σ) : W1 w F n Val σ (.ref k) (fun _ v => call (.builtin "len") [v]) Q := by
  rintro os env κ ρ s A E v ok z r hv
  obtain ⟨a, vs, rfl, _, h1, h2⟩ := z.list hk ht hv
  have hl : (vs.toArray.size : Int) = sp.ds.length := by rw [List.size_toArray, h2.len]
  refine PyProof.Rows.len_list h1 (by rw [hl]; exact hs) ?_
  rw [hl]
  exact po ((z.tok _).tok _) vI h
theorem w1_ord {x : Str} {Q : D → St → Prop} (hx : x.length = 1) (h : Q (.int (x.cps.getD 0 0 : Nat)) σ) : W1 w F n Val σ (.str x) (fun _ v => call (.builtin "ord") [v]) Q := by
  rintro os env κ ρ s A E _ ok z r ⟨t, rfl⟩
  exact PyProof.Rows.ord_of_one hx (po (z.tok _) vI h)
theorem w1_chr {i : Int} {Q : D → St → Prop} (h0 : 0 ≤ i) (h1 : i ≤ 1114111) (h : Q (.str ⟨#[i.toNat]⟩) σ) : W1 w F n Val σ (.int i) (fun _ v => call (.builtin "chr") [v]) Q := by
  rintro os env κ ρ s A E _ ok z r ⟨t, rfl⟩
  exact PyProof.Rows.chr_of_range h0 h1 (po (z.tok _) vS h)
theorem w2_max {a c : Int} {Q : D → St → Prop} (h : Q (.int (if c > a then c else a)) σ) : W2 w F n Val σ (.int a) (.int c) (fun _ u v => call (.builtin "max") [u, v]) Q := by
  rintro os env κ ρ s A E _ _ ok z r ⟨t, rfl⟩ ⟨u, rfl⟩
  refine max_two_ints r.h fun h' tk hk => ?_
  have z' : Z w os env F.cw κ ρ σ { s with heap := h', toks := tk } := z.heap hk
  by_cases c' : c > a
  · simp only [if_pos c'] at h ⊢; exact po z' vI h
  · simp only [if_neg c'] at h ⊢; exact po z' vI h
end
end
section
structure Apart (env : Env) (κ : Kp) (ρ : Km) (b : Addr) : Prop where
  k : κ b = Option.none
  l : b ≠ env.locals
  c : ∀ x c, env.cells.lookup x = some c → c ≠ b
  r : ∀ k, ρ k ≠ some b
noncomputable def freezeAll (l : List (Nat × Sp)) : List (Nat × Sp) := l.map fun p => (p.1, { p.2 with fz := true })
theorem fd_freeze (l : List (Nat × Sp)) (k : Nat) : fd (freezeAll l) k = (fd l k).map fun sp => { sp with fz := true } := by
  induction l with
  | nil => rfl
  | cons p r ih =>
    obtain ⟨j, sp⟩ := p
    show (bif Nat.beq k j then _ else fd (freezeAll r) k) = Option.map _ (bif Nat.beq k j then _ else fd r k)
    cases Nat.beq k j
    · exact ih
    · rfl
theorem fd_append (l m : List (Nat × Sp)) (k : Nat) : fd (l ++ m) k = (fd l k).or (fd m k) := by
  induction l with
  | nil => rfl
  | cons p r ih =>
    obtain ⟨j, sp⟩ := p
    show (bif Nat.beq k j then _ else fd (r ++ m) k) = Option.or (bif Nat.beq k j then _ else fd r k) _
    cases Nat.beq k j
    · exact ih
    · rfl
theorem fd_mem {l : List (Nat × Sp)} {k : Nat} {sp : Sp} (h : fd l k = some sp) : (k, sp) ∈ l := by
  induction l with
  | nil => cases h
  | cons p r ih =>
    obtain ⟨j, sp'⟩ := p
    simp only [fd] at h
    cases hb : Nat.beq k j
    · rw [hb] at h; exact List.mem_cons_of_mem _ (ih h)
    · rw [hb] at h; cases h
      have := (beq_iff _ _).mp hb; subst this; exact List.mem_cons_self
noncomputable def cld (b : Nat) (new : List (Nat × Sp)) : D → Bool
  | .ref k => Nat.blt k b || (fd new k).isSome
  | _ => true
noncomputable def newOk (b b' : Nat) (new : List (Nat × Sp)) : Bool := new.all fun p => Nat.ble b p.1 && Nat.blt p.1 b' && !p.2.fz && p.2.ds.all (cld b new)
section
variable {w : World} {os : Og} {env : Env} {cw : Bool} {κ : Kp} {ρ : Km} {σ : St} {s : Shared}
theorem Z.grownBut (z : Z w os env cw κ ρ σ s) {s' : Shared} {wr : List Addr} (ha : ∀ b ∈ wr, Apart env κ ρ b) (hk : ∀ b o, b ∉ wr → s.heap.get? b = some o → s'.heap.get? b = some o) (ho : s'.os = s.os) (hg : GOk os s'.gens) : Z w os env cw κ ρ σ s' where
  top := z.top
  keep := fun b o e => hk b o (fun h => by rw [(ha b h).k] at e; cases e) (z.keep b o e)
  ns := let ⟨m, F, h⟩ := z.ns; ⟨m, F.at' (fun o e => hk _ o (fun h => (ha _ h).l rfl) e), h⟩
  lf := z.lf
  cel := fun x d e => let ⟨c, v, a, ⟨o, b1, b2⟩, q⟩ := z.cel x d e; ⟨c, v, a, ⟨o, hk _ o (fun h => (ha _ h).c x c a rfl) b1, b2⟩, q⟩
  cc := fun x c e => let ⟨⟨o, o', a1, a2⟩, r⟩ := z.cc x c e; ⟨⟨o, o', hk _ _ (fun h => (ha _ h).c x c e rfl) a1, a2⟩, r⟩
  ca := z.ca
  obj := fun k sp e => let ⟨a, h1, h2, h3⟩ := z.obj k sp e; ⟨a, h1, h2.mono Le.rfl' (fun o => hk a o (fun h => (ha _ h).r k h1)), h3⟩
  lt := fun k a e => let ⟨h1, hL, o, h2⟩ := z.lt k a e; ⟨h1, hL, o, hk _ _ (fun h => (ha _ h).r k e) h2⟩
  inj := z.inj
  os := ho.trans z.os
  gens := hg
theorem Z.apart (z : Z w os env cw κ ρ σ s) {a : Addr} (hn : s.heap.get? a = Option.none) : Apart env κ ρ a where
  k := by
    cases e : κ a with
    | none => rfl
    | some o => have := z.keep a o e; rw [hn] at this; cases this
  l := fun h => by
    obtain ⟨m, ⟨o, _, _, h1, _⟩, _⟩ := z.ns
    rw [← h, hn] at h1; cases h1
  c := fun x c e h => by
    obtain ⟨⟨o, o', h1, _⟩, _⟩ := z.cc x c e
    rw [h, hn] at h1; cases h1
  r := fun k e => by
    obtain ⟨_, _, o, h2⟩ := z.lt k a e
    rw [hn] at h2; cases h2
theorem Z.made' (z : Z w os env cw κ ρ σ s) {a : Addr} {sp : Sp} (hn : Apart env κ ρ a) (hh : Has (put ρ σ.nx a) s.heap a sp) : Z w os env cw κ (put ρ σ.nx a) (σ.mk' sp) s := by
  have L := le_put (a := a) z.fresh
  have pn : put ρ σ.nx a σ.nx = some a := if_pos rfl
  have po : ∀ {k}, k ≠ σ.nx → put ρ σ.nx a k = ρ k := fun h => if_neg h
  refine ⟨z.top, z.keep, ?_, z.lf, ?_, ?_, z.ca, ?_, ?_, ?_, z.os, z.gens⟩
  · obtain ⟨m, F, h⟩ := z.ns
    exact ⟨m, F, fun x d e => let ⟨v, q, y⟩ := h x d e; ⟨v, q, y.mono L⟩⟩
  · exact fun x d e => let ⟨c, v, e1, b, q⟩ := z.cel x d e; ⟨c, v, e1, b, q.mono L⟩
  · intro x c e
    obtain ⟨h1, h2, h3, h4⟩ := z.cc x c e
    refine ⟨h1, h2, fun k e' => ?_, h4⟩
    by_cases hj : k = σ.nx
    · subst hj; rw [pn] at e'; cases e'; exact hn.c x _ e rfl
    · rw [po hj] at e'; exact h3 k e'
  · intro k sp' e
    simp only [St.mk', fd] at e
    cases hb : Nat.beq k σ.nx
    · rw [hb] at e
      obtain ⟨b, h1, h2, h3⟩ := z.obj k sp' e
      exact ⟨b, L _ _ h1, h2.mono L fun _ e => e, h3⟩
    · rw [hb] at e
      have := (beq_iff _ _).mp hb; subst this
      cases e
      exact ⟨a, pn, hh, fun _ => hn.k⟩
  · intro k b e
    by_cases hj : k = σ.nx
    · subst hj; rw [pn] at e; cases e
      obtain ⟨o, vs, n, h1, _⟩ := hh
      exact ⟨Nat.lt_succ_self _, hn.l, _, h1⟩
    · rw [po hj] at e
      obtain ⟨h1, h2⟩ := z.lt k b e
      exact ⟨Nat.lt_succ_of_lt h1, h2⟩
  · intro k k' b e e'
    by_cases hj : k = σ.nx <;> by_cases hj' : k' = σ.nx
    · rw [hj, hj']
    · subst hj; rw [pn] at e; cases e; rw [po hj'] at e'; exact absurd e' (hn.r _)
    · subst hj'; rw [pn] at e'; cases e'; rw [po hj] at e; exact absurd e (hn.r _)
    · rw [po hj] at e; rw [po hj'] at e'; exact z.inj _ _ _ e e'
theorem Z.join (z : Z w os env cw κ ρ σ s) {env' : Env} {cw' : Bool} {κ' : Kp} {ρ' : Km} {σ' : St} (z' : Z w os env' cw' κ' ρ' σ' s) (hap : ∀ a, κ' a = Option.none → (∀ k, ρ k ≠ some a) ∧ κ a = Option.none ∧ a ≠ env.locals ∧ ∀ x c, env.cells.lookup x = some c → c ≠ a)
    (he : ∀ k, k < σ.nx → ρ' k = ρ k) (hx : σ.nx ≤ σ'.nx) {new : List (Nat × Sp)} {old : List (Nat × Sp)} (ho : σ'.objs = new ++ old) (hnew : newOk σ.nx σ'.nx new = true) :
    ∃ ρ'', EqB σ.nx κ ρ ρ'' ∧ (∀ k a, ρ'' k = some a → ρ' k = some a) ∧ (∀ d v, cld σ.nx new d = true → Val ρ' d v → Val ρ'' d v) ∧ Z w os env cw κ ρ'' { σ with objs := new ++ σ.objs, nx := σ'.nx } s := by
  let ρ'' : Km := fun k => if k < σ.nx then ρ k else if (fd new k).isSome = true then ρ' k else Option.none
  have hlo : ∀ {k}, k < σ.nx → ρ'' k = ρ k := fun h => if_pos h
  have hup : ∀ k a, ρ'' k = some a → ρ' k = some a := fun k a e => by
    by_cases h : k < σ.nx
    · rw [hlo h] at e; rw [he k h]; exact e
    · simp only [ρ'', if_neg h] at e
      split at e
      · exact e
      · cases e
  have hnw : ∀ {k}, ¬ k < σ.nx → ∀ a, ρ'' k = some a → ∃ sp, fd new k = some sp ∧ ρ' k = some a := fun h a e => by
    simp only [ρ'', if_neg h] at e
    split at e
    · rename_i q; obtain ⟨sp, hs⟩ := Option.isSome_iff_exists.mp q; exact ⟨sp, hs, e⟩
    · cases e
  have hval : ∀ d v, cld σ.nx new d = true → Val ρ' d v → Val ρ'' d v := fun d v hc hv => by
    cases d <;> try exact hv
    rename_i k
    obtain ⟨a, e, rfl⟩ := hv
    refine ⟨a, ?_, rfl⟩
    simp only [cld, Bool.or_eq_true] at hc
    by_cases h : k < σ.nx
    · rw [hlo h, ← he k h]; exact e
    · rcases hc with hc | hc
      · exact absurd (by simpa [Nat.blt_eq] using hc) h
      · simp only [ρ'', if_neg h, if_pos hc]; exact e
  have hnp : ∀ {k sp}, fd new k = some sp → σ.nx ≤ k ∧ k < σ'.nx ∧ sp.fz = false ∧ sp.ds.all (cld σ.nx new) = true := fun {k sp} h => by
    have h1 := List.all_eq_true.mp hnew _ (fd_mem h)
    simp only [Bool.and_eq_true, Bool.not_eq_true'] at h1
    exact ⟨Nat.le_of_ble_eq_true h1.1.1.1, by simpa [Nat.blt_eq] using h1.1.1.2, h1.1.2, h1.2⟩
  have LL : Le ρ ρ'' := fun k a e => by rw [hlo (z.lt k a e).1]; exact e
  have newAddr : ∀ {k sp a}, fd new k = some sp → ρ' k = some a → κ' a = Option.none ∧ Has ρ' s.heap a sp := fun {k sp a} h e => by
    obtain ⟨a', e1, e2, e3⟩ := z'.obj k sp (by rw [ho, fd_append, h]; rfl)
    rw [e] at e1; cases e1
    exact ⟨e3 (hnp h).2.2.1, e2⟩
  refine ⟨ρ'', ⟨fun k h => hlo h, fun _ k a hk e => ?_⟩, hup, hval, ?_⟩
  · obtain ⟨sp, g1, g2⟩ := hnw (Nat.not_lt.mpr hk) a e
    exact (hap a (newAddr g1 g2).1).2.1
  refine ⟨z.top, z.keep, ?_, z.lf, ?_, ?_, z.ca, ?_, ?_, ?_, z.os, z'.gens⟩
  · obtain ⟨m, F, h⟩ := z.ns
    exact ⟨m, F, fun x d e => let ⟨v, q, y⟩ := h x d e; ⟨v, q, y.mono LL⟩⟩
  · exact fun x d e => let ⟨c, v, e1, b, q⟩ := z.cel x d e; ⟨c, v, e1, b, q.mono LL⟩
  · intro x c e
    obtain ⟨h1, h2, h3, h4⟩ := z.cc x c e
    refine ⟨h1, h2, fun k e' => ?_, h4⟩
    by_cases h : k < σ.nx
    · rw [hlo h] at e'; exact h3 k e'
    · obtain ⟨sp, g1, g2⟩ := hnw h c e'
      exact (hap c (newAddr g1 g2).1).2.2.2 x c e rfl
  · intro k sp e
    rw [fd_append] at e
    cases hb : fd new k with
    | some sp' =>
      rw [hb] at e; cases e
      obtain ⟨g1, g2, g3, g4⟩ := hnp hb
      obtain ⟨a, e1, e2, e3⟩ := z'.obj k sp (by rw [ho, fd_append, hb]; rfl)
      refine ⟨a, ?_, ?_, fun _ => (hap a (e3 g3)).2.1⟩
      · simp only [ρ'', if_neg (Nat.not_lt.mpr g1), hb, Option.isSome_some, if_true]; exact e1
      · obtain ⟨o, vs, n, q1, q2, q3, q4, q5⟩ := e2
        refine ⟨o, vs, n, q1, q2, q3, q4, ?_⟩
        have : ∀ {ds : List D} {vs : List Value}, All2 (Val ρ') ds vs → ds.all (cld σ.nx new) = true → All2 (Val ρ'') ds vs := by
          intro ds vs h
          induction h with
          | nil => intro _; exact .nil
          | cons h1 _ ih =>
            intro h
            simp only [List.all_cons, Bool.and_eq_true] at h
            exact .cons (hval _ _ h.1 h1) (ih h.2)
        exact this q5 g4
    | none =>
      rw [hb] at e
      obtain ⟨a, h1, h2, h3⟩ := z.obj k sp e
      exact ⟨a, LL _ _ h1, h2.mono LL fun _ e => e, h3⟩
  · intro k a e
    by_cases h : k < σ.nx
    · rw [hlo h] at e
      obtain ⟨g1, g2⟩ := z.lt k a e
      exact ⟨Nat.lt_of_lt_of_le g1 hx, g2⟩
    · obtain ⟨sp, g1, g2⟩ := hnw h a e
      obtain ⟨g3, _, g5⟩ := z'.lt k a g2
      exact ⟨g3, (hap a (newAddr g1 g2).1).2.2.1, g5⟩
  · exact fun k k' a e e' => z'.inj k k' a (hup _ _ e) (hup _ _ e')
/-! the objects that a callee hands back, under new keys -/
end
noncomputable def idx : List Nat → Nat → Nat
  | [], _ => 0
  | k :: r, j => bif Nat.beq j k then 0 else idx r j + 1
noncomputable def ren (pick : List Nat) (b : Nat) : D → D
  | .ref k => .ref (b + idx pick k)
  | d => d
noncomputable def refIn (pick : List Nat) : D → Bool
  | .ref k => Nat.blt (idx pick k) pick.length
  | _ => true
noncomputable def renSp (pick : List Nat) (b : Nat) (sp : Sp) : Sp := { sp with ds := sp.ds.map (ren pick b) }
noncomputable def newsFrom (b : Nat) (all : List Nat) (objs : List (Nat × Sp)) : Nat → List Nat → List (Nat × Sp)
  | _, [] => []
  | i, k :: r => (b + i, renSp all b ((fd objs k).getD ⟨"", [], true, false⟩)) :: newsFrom b all objs (i + 1) r
noncomputable def distinct : List Nat → Bool
  | [] => true
  | k :: r => !(r.any (Nat.beq k)) && distinct r
noncomputable def pickOk (pick : List Nat) (objs : List (Nat × Sp)) : Bool := distinct pick && pick.all fun k => match fd objs k with | some sp => !sp.fz && sp.ds.all (refIn pick) | Option.none => false
theorem idx_get : ∀ (l : List Nat) (k : Nat), idx l k < l.length → l[idx l k]? = some k
  | [], _, h => by cases h
  | j :: r, k, h => by
    unfold idx at h ⊢
    cases hb : Nat.beq k j
    · simp only [hb, cond_false, List.length_cons] at h ⊢
      rw [List.getElem?_cons_succ]
      exact idx_get r k (by lia)
    · simp only [hb, cond_true, List.getElem?_cons_zero]
      rw [(beq_iff _ _).mp hb]
theorem distinct_inj : ∀ (l : List Nat), distinct l = true → ∀ (i j k : Nat), l[i]? = some k → l[j]? = some k → i = j
  | [], _, i, j, k, h, _ => by cases h
  | x :: r, hd, i, j, k, h, h' => by
    simp only [distinct, Bool.and_eq_true, Bool.not_eq_true', List.any_eq_false] at hd
    have nx : ∀ m, r[m]? = some x → False := fun m hm => hd.1 x (List.mem_of_getElem? hm) (Nat.beq_refl x)
    cases i with
    | zero =>
      simp only [List.getElem?_cons_zero, Option.some.injEq] at h; subst h
      cases j with
      | zero => rfl
      | succ j => exact (nx j (by simpa using h')).elim
    | succ i =>
      cases j with
      | zero =>
        simp only [List.getElem?_cons_zero, Option.some.injEq] at h'; subst h'
        exact (nx i (by simpa using h)).elim
      | succ j => rw [distinct_inj r hd.2 i j k (by simpa using h) (by simpa using h')]
theorem fd_news {b : Nat} {all : List Nat} {objs : List (Nat × Sp)} : ∀ (r : List Nat) (i : Nat) (j : Nat) (sp : Sp), fd (newsFrom b all objs i r) j = some sp → ∃ (m k : Nat), r[m]? = some k ∧ j = b + i + m ∧ sp = renSp all b ((fd objs k).getD ⟨"", [], true, false⟩)
  | [], _, _, _, h => by cases h
  | k :: r, i, j, sp, h => by
    simp only [newsFrom, fd] at h
    cases hb : Nat.beq j (b + i)
    · rw [hb] at h
      obtain ⟨m, k', h1, h2, h3⟩ := fd_news r (i + 1) j sp h
      exact ⟨m + 1, k', by simpa using h1, by lia, h3⟩
    · rw [hb] at h; cases h
      exact ⟨0, k, rfl, by have := (beq_iff _ _).mp hb; lia, rfl⟩
noncomputable def St.adopt (σ : St) (pick : List Nat) (objs : List (Nat × Sp)) : St := { σ with objs := newsFrom σ.nx pick objs 0 pick ++ σ.objs, nx := σ.nx + pick.length }
section
variable {w : World} {os : Og} {env : Env} {cw : Bool} {κ : Kp} {ρ : Km} {σ : St} {s : Shared}
theorem Z.adopt (z : Z w os env cw κ ρ σ s) {env' : Env} {cw' : Bool} {κ' : Kp} {ρ' : Km} {σ' : St} (z' : Z w os env' cw' κ' ρ' σ' s) (hap : ∀ a, κ' a = Option.none → (∀ k, ρ k ≠ some a) ∧ κ a = Option.none ∧ a ≠ env.locals ∧ ∀ x c, env.cells.lookup x = some c → c ≠ a)
    {pick : List Nat} (hp : pickOk pick σ'.objs = true) :
    ∃ ρ'', EqB σ.nx κ ρ ρ'' ∧ (∀ d v, refIn pick d = true → Val ρ' d v → Val ρ'' (ren pick σ.nx d) v) ∧ Z w os env cw κ ρ'' (σ.adopt pick σ'.objs) s := by
  let ρ'' : Km := fun k => if k < σ.nx then ρ k else (pick[k - σ.nx]?).bind ρ'
  have hlo : ∀ {k}, k < σ.nx → ρ'' k = ρ k := fun h => if_pos h
  simp only [pickOk, Bool.and_eq_true] at hp
  have hob : ∀ {k}, k ∈ pick → ∃ sp a, fd σ'.objs k = some sp ∧ sp.ds.all (refIn pick) = true ∧ ρ' k = some a ∧ Has ρ' s.heap a sp ∧ κ' a = Option.none := fun {k} hk => by
    have := List.all_eq_true.mp hp.2 k hk
    cases e : fd σ'.objs k with
    | none => rw [e] at this; cases this
    | some sp =>
      rw [e] at this
      simp only [Bool.and_eq_true, Bool.not_eq_true'] at this
      obtain ⟨a, h1, h2, h3⟩ := z'.obj k sp e
      exact ⟨sp, a, rfl, this.2, h1, h2, h3 this.1⟩
  have hnw : ∀ {k a}, ¬ k < σ.nx → ρ'' k = some a → ∃ k', pick[k - σ.nx]? = some k' ∧ ρ' k' = some a ∧ κ' a = Option.none := fun {k a} h e => by
    simp only [ρ'', if_neg h] at e
    obtain ⟨k', h1, h2⟩ := Option.bind_eq_some_iff.mp e
    obtain ⟨sp, a', g1, g2, g3, g4, g5⟩ := hob (List.mem_of_getElem? h1)
    rw [h2] at g3; cases g3
    exact ⟨k', h1, h2, g5⟩
  have hpk : ∀ {m k}, pick[m]? = some k → ρ'' (σ.nx + m) = ρ' k := fun {m k} h => by
    simp only [ρ'', if_neg (show ¬ σ.nx + m < σ.nx by lia), Nat.add_sub_cancel_left, h, Option.bind_some]
  have hval : ∀ d v, refIn pick d = true → Val ρ' d v → Val ρ'' (ren pick σ.nx d) v := fun d v hc hv => by
    cases d <;> try exact hv
    rename_i k
    obtain ⟨a, e, rfl⟩ := hv
    refine ⟨a, ?_, rfl⟩
    have hl : idx pick k < pick.length := by simpa [refIn, Nat.blt_eq] using hc
    rw [hpk (idx_get pick k hl)]; exact e
  have LL : Le ρ ρ'' := fun k a e => by rw [hlo (z.lt k a e).1]; exact e
  refine ⟨ρ'', ⟨fun k h => hlo h, fun _ k a hk e => ?_⟩, hval, ?_⟩
  · obtain ⟨_, _, _, g⟩ := hnw (Nat.not_lt.mpr hk) e
    exact (hap a g).2.1
  refine ⟨z.top, z.keep, ?_, z.lf, ?_, ?_, z.ca, ?_, ?_, ?_, z.os, z'.gens⟩
  · obtain ⟨m, F, h⟩ := z.ns
    exact ⟨m, F, fun x d e => let ⟨v, q, y⟩ := h x d e; ⟨v, q, y.mono LL⟩⟩
  · exact fun x d e => let ⟨c, v, e1, b, q⟩ := z.cel x d e; ⟨c, v, e1, b, q.mono LL⟩
  · intro x c e
    obtain ⟨h1, h2, h3, h4⟩ := z.cc x c e
    refine ⟨h1, h2, fun k e' => ?_, h4⟩
    by_cases h : k < σ.nx
    · rw [hlo h] at e'; exact h3 k e'
    · obtain ⟨_, _, _, g⟩ := hnw h e'
      exact (hap c g).2.2.2 x c e rfl
  · intro k sp e
    simp only [St.adopt] at e
    rw [fd_append] at e
    cases hb : fd (newsFrom σ.nx pick σ'.objs 0 pick) k with
    | some sp' =>
      rw [hb] at e; cases e
      obtain ⟨m, k', h1, rfl, rfl⟩ := fd_news _ _ _ _ hb
      obtain ⟨sp, a, g1, g2, g3, g4, g5⟩ := hob (List.mem_of_getElem? h1)
      rw [g1, Option.getD_some]
      refine ⟨a, ?_, ?_, fun _ => (hap a g5).2.1⟩
      · rw [Nat.add_zero, hpk h1]; exact g3
      · obtain ⟨o, vs, n, q1, q2, q3, q4, q5⟩ := g4
        refine ⟨o, vs, n, q1, q2, q3, q4, ?_⟩
        have : ∀ {ds : List D} {vs : List Value}, All2 (Val ρ') ds vs → ds.all (refIn pick) = true → All2 (Val ρ'') (ds.map (ren pick σ.nx)) vs := by
          intro ds vs h
          induction h with
          | nil => intro _; exact .nil
          | cons h1 _ ih =>
            intro h
            simp only [List.all_cons, Bool.and_eq_true] at h
            exact .cons (hval _ _ h.1 h1) (ih h.2)
        exact this q5 g2
    | none =>
      rw [hb] at e
      obtain ⟨a, h1, h2, h3⟩ := z.obj k sp e
      exact ⟨a, LL _ _ h1, h2.mono LL fun _ e => e, h3⟩
  · intro k a e
    by_cases h : k < σ.nx
    · rw [hlo h] at e
      obtain ⟨g1, g2⟩ := z.lt k a e
      exact ⟨Nat.lt_of_lt_of_le g1 (Nat.le_add_right _ _), g2⟩
    · obtain ⟨k', g1, g2, g3⟩ := hnw h e
      obtain ⟨_, _, g5⟩ := z'.lt k' a g2
      have hl := (List.getElem?_eq_some_iff.mp g1).1
      exact ⟨by show k < σ.nx + pick.length; lia, (hap a g3).2.2.1, g5⟩
  · intro k k' a e e'
    by_cases h : k < σ.nx <;> by_cases h' : k' < σ.nx
    · rw [hlo h] at e; rw [hlo h'] at e'; exact z.inj _ _ _ e e'
    · obtain ⟨_, _, _, g⟩ := hnw h' e'
      rw [hlo h] at e; exact absurd e ((hap a g).1 k)
    · obtain ⟨_, _, _, g⟩ := hnw h e
      rw [hlo h'] at e'; exact absurd e' ((hap a g).1 k')
    · obtain ⟨j, g1, g2, _⟩ := hnw h e
      obtain ⟨j', g1', g2', _⟩ := hnw h' e'
      have hj := z'.inj _ _ _ g2 g2'
      subst hj
      have := distinct_inj pick hp.1 _ _ _ g1 g1'
      lia
end
end
section
noncomputable def locsOf (K : List (Str × NameKind)) : List (Str × D) → List (Str × D) → List (Str × D)
  | [], m => m
  | (x, d) :: r, m => locsOf K r (if K.lookup x = some .local then setl m x d else m)
noncomputable def celsOf (K : List (Str × NameKind)) : List (Str × D) → List (Str × D) → List (Str × D)
  | [], m => m
  | (x, d) :: r, m => celsOf K r (if K.lookup x = some .local then m else setl m x d)
noncomputable def Maps (ρ : Km) (m : List (Str × D)) (M : Str → Option Value) : Prop := ∀ x d, lk m x = some d → ∃ v, M x = some v ∧ Val ρ d v
theorem Maps.set {ρ : Km} {m : List (Str × D)} {M : Str → Option Value} (h : Maps ρ m M) {x : Str} {d : D} {v : Value} (hv : Val ρ d v) : Maps ρ (setl m x d) (fun y => if y = x then some v else M y) := fun y e he => by
  rw [lk_setl] at he
  by_cases hy : y = x
  · rw [if_pos hy] at he; cases he; exact ⟨v, if_pos hy, hv⟩
  · rw [if_neg hy] at he; obtain ⟨u, q, r⟩ := h y e he; exact ⟨u, by simp only [if_neg hy]; exact q, r⟩
theorem maps_loc {ρ : Km} {env : Env} {names : List Str} : ∀ {ds : List D} {vs : List Value} {m : List (Str × D)} {M : Str → Option Value}, All2 (Val ρ) ds vs → Maps ρ m M → Maps ρ (locsOf env.scope.names (names.zip ds) m) (bindL env.kindOf (names.zip vs) M) := by
  induction names with
  | nil => intro ds vs m M _ h; exact h
  | cons x r ih =>
    intro ds vs m M hv h
    cases hv with
    | nil => exact h
    | cons h1 h2 =>
      simp only [List.zip_cons_cons, locsOf, bindL]
      refine ih h2 ?_
      by_cases hk : env.scope.names.lookup x = some .local
      · rw [if_pos hk, if_pos (show env.kindOf x = some .local from hk)]; exact h.set h1
      · rw [if_neg hk, if_neg (show ¬ env.kindOf x = some .local from hk)]; exact h
theorem maps_cel {ρ : Km} {env : Env} {names : List Str} : ∀ {ds : List D} {vs : List Value} {m : List (Str × D)} {M : Str → Option Value}, All2 (Val ρ) ds vs → Maps ρ m M → Maps ρ (celsOf env.scope.names (names.zip ds) m) (bindC env.kindOf (names.zip vs) M) := by
  induction names with
  | nil => intro ds vs m M _ h; exact h
  | cons x r ih =>
    intro ds vs m M hv h
    cases hv with
    | nil => exact h
    | cons h1 h2 =>
      simp only [List.zip_cons_cons, celsOf, bindC]
      refine ih h2 ?_
      by_cases hk : env.scope.names.lookup x = some .local
      · rw [if_pos hk, if_pos (show env.kindOf x = some .local from hk)]; exact h
      · rw [if_neg hk, if_neg (show ¬ env.kindOf x = some .local from hk)]; exact h.set h1
structure FnAt (w : World) (i : Nat) (a : Addr) (md : Value) : Prop where
  get : ∃ o, (X1 w).get? a = some o ∧ o.data = .func (Calls.docDef (defAt i).1 (defAt i).2.1 (defAt i).2.2.1 (defAt i).2.2.2 md (.ref (a - 1)) .none)
  code : (X1 w).CodeRec (.ref (a - 1)) (defAt i).1
  co : (defAt i).2.2.2.isCoroutine = false
  gen : (defAt i).2.2.2.isGenerator = false
  kind : (defAt i).2.2.2.kind = .function
noncomputable def codeRecB (h : Heap) (c : Addr) (q : Str) : Bool := match h.get? c with
  | some o => (match o.data with | Data.fields vs => (match (vs[1]? : Option Value) with | some (Value.str q' _) => decide (q' = q) | _ => false) | _ => false)
  | Option.none => false
theorem codeRecB_ok {h : Heap} {c : Addr} {q : Str} (e : codeRecB h c q = true) : h.CodeRec (.ref c) q := by
  unfold codeRecB at e
  split at e
  · rename_i o ho
    split at e
    · rename_i vs hd
      split at e
      · rename_i q' t hv
        have := of_decide_eq_true e
        subst this
        exact ⟨c, o, vs, t, rfl, ho, hd, hv⟩
      · cases e
    · cases e
  · cases e
theorem k_stat (w : World) : (X1 w).isNs cStatics = true := by kernel_rfl
theorem k_lim (w : World) : (X1 w).nsMap cStatics "sys.recursionlimit" = Option.none := by kernel_rfl
theorem X1_nolimit (w : World) : (X1 w).NoLimit := ⟨_, .of_isNs (k_stat w), k_lim w⟩
noncomputable def fmOf (i : Nat) : Fm := ⟨(defAt i).2.2.2.names, true⟩
theorem lookup_any {l : List (Str × Addr)} {x : Str} {c : Addr} (h : l.lookup x = some c) : (x, c) ∈ l := mem_of_lookup h
theorem cellsFrom_some : ∀ (names : List (Str × NameKind)) (n : Nat) (acc : List (Str × Addr)) (x : Str), (names.lookup x = some .cell ∨ ∃ c, acc.lookup x = some c) → ∃ c, (cellsFrom n names acc).lookup x = some c
  | [], _, _, x, h => by
    rcases h with h | h
    · cases h
    · exact h
  | (y, k) :: r, n, acc, x, h => by
    unfold cellsFrom
    by_cases hx : x = y
    · subst hx
      split
      · exact cellsFrom_some r _ _ x (.inr ⟨n, by simp⟩)
      · rename_i hk
        refine cellsFrom_some r _ _ x (.inr ?_)
        rcases h with h | h
        · simp at h; subst h; exact absurd (by rfl) hk
        · exact h
    · have hxy : (x == y) = false := by simpa using hx
      split
      · refine cellsFrom_some r _ _ x ?_
        rcases h with h | ⟨c, h⟩
        · exact .inl (by simpa [List.lookup_cons, hxy] using h)
        · exact .inr ⟨c, by simpa [List.lookup_cons, hxy] using h⟩
      · refine cellsFrom_some r _ _ x ?_
        rcases h with h | ⟨c, h⟩
        · exact .inl (by simpa [List.lookup_cons, hxy] using h)
        · exact .inr ⟨c, h⟩
theorem room_deeper {n : Nat} {A : Around} {env : Env} (r : Room (n + 1) A) : Room n (A.deeper env) where
  d := by have := r.d; show A.depth + 1 + n < recursionLimit; lia
  u := by have := r.u; show A.units + 3 + 20 * n < cLine; lia
  h := r.h
section
variable {w : World} {F : Fm} {n : Nat} {σ : St}
noncomputable def argsOk' (ks : List Nat) (objs : List (Nat × Sp)) (ds : List D) : Bool := distinct ks && (ks.all fun k => match fd objs k with | some sp => sp.ds.all (refIn ks) | Option.none => false) && ds.all (refIn ks)
theorem wL_call {i : Nat} {a : Addr} {md : Value} (f : FnAt w i a md) {names : List Str} {ds dsC : List D} {ks : List Nat} {objsC : List (Nat × Sp)} (hks : argsOk' ks σ.objs ds = true) (hds : ds.map (ren ks 0) = dsC) (hobj : freezeAll (newsFrom 0 ks σ.objs 0 ks) = objsC)
    (hbind : ∀ vs : List Value, vs.length = ds.length → bindArgs (Calls.docDef (defAt i).1 (defAt i).2.1 (defAt i).2.2.1 (defAt i).2.2.2 md (.ref (a - 1)) .none) ⟨vs, []⟩ = pure (names.zip vs))
    (hkind : (names.all fun x => decide ((defAt i).2.2.2.names.lookup x = some .local) || decide ((defAt i).2.2.2.names.lookup x = some .cell)) = true)
    {locs cels : List (Str × D)} (hl : locsOf (defAt i).2.2.2.names (names.zip dsC) [] = locs) (hc : celsOf (defAt i).2.2.2.names (names.zip dsC) [] = cels) {Q : D → St → Prop}
    (hb : WB w (fmOf i) n ks.length ⟨locs, cels, objsC, ks.length⟩ (defAt i).2.2.1 (fun fl σ' => ∃ d pick, (fl = .ret d ∨ (fl = .next ∧ d = .none)) ∧ pickOk pick σ'.objs = true ∧ refIn pick d = true ∧ Q (ren pick σ.nx d) (σ.adopt pick σ'.objs))) :
    WL w F (n + 1) Val σ ds (fun _ vs => call (.ref a) vs) Q := by
  intro os env κ ρ s A E vs ok z r hv
  obtain ⟨o, ho, hd⟩ := f.get
  simp only [argsOk', Bool.and_eq_true] at hks
  have hkind' : ∀ x ∈ names, (defAt i).2.2.2.names.lookup x = some .local ∨ (defAt i).2.2.2.names.lookup x = some .cell := fun x hx => by
    have := List.all_eq_true.mp hkind x hx
    rcases Bool.or_eq_true_iff.mp this with h | h
    · exact .inl (of_decide_eq_true h)
    · exact .inr (of_decide_eq_true h)
  let ρ₀ : Km := fun j => (ks[j]?).bind ρ
  have hval : ∀ d v, refIn ks d = true → Val ρ d v → Val ρ₀ (ren ks 0 d) v := fun d v hc hv => by
    cases d <;> try exact hv
    rename_i k
    obtain ⟨a, e, rfl⟩ := hv
    refine ⟨a, ?_, rfl⟩
    have hl : idx ks k < ks.length := by simpa [refIn, Nat.blt_eq] using hc
    show (ks[0 + idx ks k]?).bind ρ = some a
    rw [Nat.zero_add, idx_get ks k hl]; exact e
  have hvals : ∀ {ds : List D} {vs : List Value}, All2 (Val ρ) ds vs → ds.all (refIn ks) = true → All2 (Val ρ₀) (ds.map (ren ks 0)) vs := by
    intro ds vs h
    induction h with
    | nil => intro _; exact .nil
    | cons h1 _ ih =>
      intro h
      simp only [List.all_cons, Bool.and_eq_true] at h
      exact .cons (hval _ _ h.1 h1) (ih h.2)
  have hvC : All2 (Val ρ₀) dsC vs := hds ▸ hvals hv hks.2
  have hr0 : ∀ {j a}, ρ₀ j = some a → ∃ k, ks[j]? = some k ∧ ρ k = some a := fun {j a} e => by
    obtain ⟨k, h1, h2⟩ := Option.bind_eq_some_iff.mp e
    exact ⟨k, h1, h2⟩
  refine wpAny_call (call_cells_ret (by have := r.d; lia) (z.x1 _ _ ho) hd ((X1_nolimit w).keeps z.x1) (f.code.keeps z.x1) (hbind vs hv.len.symm) ?_ ?_ f.co f.gen f.kind)
  · intro x hx
    have hx1 : x.1 ∈ names := (List.of_mem_zip hx).1
    rcases hkind' _ hx1 with h | h
    · exact .inl h
    · refine .inr ⟨h, ?_⟩
      obtain ⟨c, hc⟩ := cellsFrom_some (defAt i).2.2.2.names (s.heap.objs.size + 1) [] x.1 (.inl h)
      rw [hc]; rfl
  · intro h₁ tk Fr1 C
    let env' : Env := envOfC (defAt i).1 (defAt i).2.2.2 s.heap.objs.size a (.ref (a - 1))
    have fresh : ∀ b, s.heap.objs.size ≤ b → s.heap.get? b = Option.none := fun b hb => by
      cases e : s.heap.get? b with
      | none => rfl
      | some o' => exact absurd (Heap.lt_size e) (Nat.not_lt.mpr hb)
    have ok' : (fmOf i).Ok env' := ⟨rfl, f.kind, rfl, rfl, fun _ x hx => cellsFrom_some _ _ _ x (.inl hx)⟩
    have z' : Z w os env' true (fun b => s.heap.get? b) ρ₀ ⟨locs, cels, objsC, ks.length⟩ { s with heap := h₁, toks := tk } := by
      refine ⟨z.x1, Fr1.keep, ⟨_, Fr1.ns, ?_⟩, fresh _ (Nat.le_refl _), ?_, ?_, ?_, ?_, ?_, ?_, z.os, z.gens⟩
      · have := maps_loc (env := env') (names := names) hvC (m := []) (M := fun _ => Option.none) (fun _ _ e => nomatch e)
        rw [show env'.scope.names = (defAt i).2.2.2.names from rfl, hl] at this
        exact this
      · intro x d e
        have := maps_cel (env := env') (names := names) hvC (m := []) (M := fun _ => Option.none) (fun _ _ e => nomatch e)
        rw [show env'.scope.names = (defAt i).2.2.2.names from rfl, hc] at this
        obtain ⟨v, q1, q2⟩ := this x d e
        have : (defAt i).2.2.2.names.lookup x = some .cell := by
          have hm : ∃ d', lk (celsOf (defAt i).2.2.2.names (names.zip dsC) []) x = some d' := ⟨d, by rw [hc]; exact e⟩
          have gen : ∀ (l : List (Str × D)) (m : List (Str × D)), (∀ y e', lk m y = some e' → (defAt i).2.2.2.names.lookup y = some .cell) → (∀ p ∈ l, p.1 ∈ names) → ∀ y e', lk (celsOf (defAt i).2.2.2.names l m) y = some e' → (defAt i).2.2.2.names.lookup y = some .cell := by
            intro l
            induction l with
            | nil => intro m hm _ y e' h; exact hm y e' h
            | cons p r ih =>
              intro m hm hp y e' h
              refine ih _ ?_ (fun q hq => hp q (List.mem_cons_of_mem _ hq)) y e' h
              intro y e' h'
              split at h'
              · exact hm y e' h'
              · rename_i hk
                rw [lk_setl] at h'
                by_cases hy : y = p.1
                · subst hy
                  rcases hkind' _ (hp p List.mem_cons_self) with h2 | h2
                  · exact absurd h2 hk
                  · exact h2
                · rw [if_neg hy] at h'; exact hm y e' h'
          obtain ⟨d', hd'⟩ := hm
          exact gen _ [] (fun _ _ e => nomatch e) (fun p hp => (List.of_mem_zip hp).1) x d' hd'
        obtain ⟨c, hcc⟩ := cellsFrom_some (defAt i).2.2.2.names (s.heap.objs.size + 1) [] x (.inl this)
        refine ⟨c, v, hcc, ?_, q2⟩
        have := C.cell x c hcc
        rw [q1] at this
        exact this
      · intro x c e
        have h1 := C.above x c (mem_of_lookup e)
        refine ⟨⟨_, C.cell x c e⟩, Nat.ne_of_gt h1, fun k e' => ?_, fun _ => fresh c (Nat.le_of_lt h1)⟩
        obtain ⟨k', _, g⟩ := hr0 e'
        obtain ⟨_, _, o', h2⟩ := z.lt k' c g
        rw [fresh c (Nat.le_of_lt h1)] at h2; cases h2
      · exact fun x y c e e' => name_of_addr C.apart (mem_of_lookup e) (mem_of_lookup e')
      · intro k sp e
        have e : fd objsC k = some sp := e
        rw [← hobj, fd_freeze] at e
        obtain ⟨sp', e1, rfl⟩ := Option.map_eq_some_iff.mp e
        obtain ⟨m, k', g1, rfl, rfl⟩ := fd_news _ _ _ _ e1
        have hk := List.all_eq_true.mp hks.1.2 k' (List.mem_of_getElem? g1)
        cases e2 : fd σ.objs k' with
        | none => rw [e2] at hk; cases hk
        | some spk =>
          rw [e2] at hk
          obtain ⟨b, h1, ⟨o', vs', n', q1, q2, q3, q4, q5⟩, _⟩ := z.obj k' spk e2
          refine ⟨b, ?_, ⟨o', vs', n', Fr1.keep b o' q1, ?_, q3, ?_, ?_⟩, fun h => nomatch h⟩
          · show (ks[0 + 0 + m]?).bind ρ = some b
            rw [show 0 + 0 + m = m by lia, g1]; exact h1
          · rw [Option.getD_some]; exact q2
          · rw [Option.getD_some]; exact q4
          · rw [Option.getD_some]; exact hvals q5 hk
      · intro k b e
        obtain ⟨k', g1, g2⟩ := hr0 e
        obtain ⟨h1, _, o', h2⟩ := z.lt k' b g2
        exact ⟨(List.getElem?_eq_some_iff.mp g1).1, Nat.ne_of_lt (Heap.lt_size h2), o', Fr1.keep _ _ h2⟩
      · intro k k' b e e'
        obtain ⟨j, g1, g2⟩ := hr0 e
        obtain ⟨j', g1', g2'⟩ := hr0 e'
        have := z.inj _ _ _ g2 g2'
        subst this
        exact distinct_inj ks hks.1.1 _ _ _ g1 g1'
    refine wpAny_mono (hb (Nat.le_refl _) os env' _ ρ₀ _ (A.deeper env') (fun _ _ => False) ok' z' (room_deeper r)) (fun f s' h' => ?_) fun _ _ x => x
    obtain ⟨ρ', fl, σ', g1, g2, g3, g4, d, pick, g5, g6, g7, g9⟩ := h'
    have zg : Z w os env F.cw κ ρ σ s' := z.grown (fun b o e => g4.keep b o e) (g4.os.trans z.os.symm) g4.gens
    obtain ⟨ρ'', j1, j3, j4⟩ := zg.adopt g4 (fun b hb => by
      have := z.apart (a := b) hb
      exact ⟨this.r, this.k, this.l, this.c⟩) g6
    have hnx : σ.nx ≤ (σ.adopt pick σ'.objs).nx := Nat.le_add_right _ _
    rcases g5 with rfl | ⟨rfl, rfl⟩
    · obtain ⟨v, rfl, hv'⟩ := g3
      exact ⟨ρ'', ren pick σ.nx d, σ.adopt pick σ'.objs, hnx, j1, j3 _ _ g7 hv', j4, g9⟩
    · cases g3
      exact ⟨ρ'', .none, σ.adopt pick σ'.objs, hnx, j1, vN, j4, g9⟩
end
end
section
noncomputable def bodyOf (i : Nat) : List Stmt := match pw.main.body[i]? with
  | some (.FunctionDef _ _ b _ _ _ _ _ _ _) => b
  | _ => []
theorem lk_here {x : Str} {d : D} {r : List (Str × D)} : lk ((x, d) :: r) x = some d := by simp [lk]
theorem lk_next {x y : Str} {d e : D} {r : List (Str × D)} (h : decide (y = x) = false) (h' : lk r y = some e) : lk ((x, d) :: r) y = some e := by
  simp only [lk, if_neg (of_decide_eq_false h)]; exact h'
theorem fd_here {k : Nat} {sp : Sp} {r : List (Nat × Sp)} : fd ((k, sp) :: r) k = some sp := by simp [fd]
theorem fd_next {j k : Nat} {sp e : Sp} {r : List (Nat × Sp)} (h : Nat.beq j k = false) (h' : fd r j = some e) : fd ((k, sp) :: r) j = some e := by
  simp only [fd, h, cond_false]; exact h'
theorem setl_here {x : Str} {d e : D} {r : List (Str × D)} : setl ((x, d) :: r) x e = (x, e) :: r := by simp [setl]
theorem setl_next {x y : Str} {d e : D} {r r' : List (Str × D)} (h : decide (y = x) = false) (h' : setl r y e = r') : setl ((x, d) :: r) y e = (x, d) :: r' := by
  simp only [setl, if_neg (of_decide_eq_false h), h']
theorem setl_nil {x : Str} {d : D} : setl [] x d = [(x, d)] := rfl
theorem wT_of {w : World} {F : Fm} {n : Nat} {σ : St} {e : Expr} {c : Bool} {Q : Bool → St → Prop} (he : ∀ env, isTrue e env (eval e env) = (do let v ← eval e env; standAt e.pos; holding [v] (truthy v)))
    (h : WE w F n σ e (fun d σ₁ => ∃ c, d = .bool c ∧ Q c σ₁)) : WT w F n σ e Q :=
  wT_value he (h.mono fun d σ₁ ⟨c, e, q⟩ => by subst e; exact w1_truthy_bool q)
theorem wIf_of {c : Bool} {P P' : Prop} (h1 : c = true → P) (h2 : c = false → P') : (c = true → P) ∧ (c = false → P') := ⟨h1, h2⟩
theorem name_is {w : World} {F : Fm} {n : Nat} {σ : St} {x : Str} {pos : Pos} {v : Value} (hl : F.names.lookup x = some .globalImplicit) (hd : (X1 w).nsMap mainGlobals x = some v) (hx : (x == ("__debug__" : Str)) = false := by decide) :
    WE w F n σ (.Name x pos) (fun d σ₁ => d = .glob v ∧ σ₁ = σ) := wE_glob hl hd ⟨rfl, rfl⟩ hx
theorem bltn_is {w : World} {F : Fm} {n : Nat} {σ : St} {x : Str} {pos : Pos} {v : Value} (hl : F.names.lookup x = some .globalImplicit) (hm : (X1 w).nsMap mainGlobals x = Option.none) (hd : (X1 w).nsMap builtinsNs x = some v) (hx : (x == ("__debug__" : Str)) = false := by decide) :
    WE w F n σ (.Name x pos) (fun d σ₁ => d = .glob v ∧ σ₁ = σ) := wE_bltn hl hm hd ⟨rfl, rfl⟩ hx
theorem g_chr (w : World) : (X1 w).nsMap mainGlobals (Str.ofString "chr") = Option.none ∧ (X1 w).nsMap builtinsNs (Str.ofString "chr") = some (.builtin "chr") := ⟨by kernel_rfl, by kernel_rfl⟩
theorem g_ord (w : World) : (X1 w).nsMap mainGlobals (Str.ofString "ord") = Option.none ∧ (X1 w).nsMap builtinsNs (Str.ofString "ord") = some (.builtin "ord") := ⟨by kernel_rfl, by kernel_rfl⟩
theorem g_len (w : World) : (X1 w).nsMap mainGlobals (Str.ofString "len") = Option.none ∧ (X1 w).nsMap builtinsNs (Str.ofString "len") = some (.builtin "len") := ⟨by kernel_rfl, by kernel_rfl⟩
theorem g_max (w : World) : (X1 w).nsMap mainGlobals (Str.ofString "max") = Option.none ∧ (X1 w).nsMap builtinsNs (Str.ofString "max") = some (.builtin "max") := ⟨by kernel_rfl, by kernel_rfl⟩
theorem g_min (w : World) : (X1 w).nsMap mainGlobals (Str.ofString "min") = Option.none ∧ (X1 w).nsMap builtinsNs (Str.ofString "min") = some (.builtin "min") := ⟨by kernel_rfl, by kernel_rfl⟩
theorem g_sum (w : World) : (X1 w).nsMap mainGlobals (Str.ofString "sum") = Option.none ∧ (X1 w).nsMap builtinsNs (Str.ofString "sum") = some (.builtin "sum") := ⟨by kernel_rfl, by kernel_rfl⟩
theorem g_list (w : World) : (X1 w).nsMap mainGlobals (Str.ofString "list") = Option.none ∧ (X1 w).nsMap builtinsNs (Str.ofString "list") = some (.type "list") := ⟨by kernel_rfl, by kernel_rfl⟩
theorem g_range (w : World) : (X1 w).nsMap mainGlobals (Str.ofString "range") = Option.none ∧ (X1 w).nsMap builtinsNs (Str.ofString "range") = some (.type "range") := ⟨by kernel_rfl, by kernel_rfl⟩
theorem g_zip (w : World) : (X1 w).nsMap mainGlobals (Str.ofString "zip") = Option.none ∧ (X1 w).nsMap builtinsNs (Str.ofString "zip") = some (.type "zip") := ⟨by kernel_rfl, by kernel_rfl⟩
theorem g_enum (w : World) : (X1 w).nsMap mainGlobals (Str.ofString "enumerate") = Option.none ∧ (X1 w).nsMap builtinsNs (Str.ofString "enumerate") = some (.type "enumerate") := ⟨by kernel_rfl, by kernel_rfl⟩
theorem gf_strip (w : World) : (X1 w).nsMap mainGlobals (Str.ofString "_strip_quoted_realnames") = some (.ref 45) := by kernel_rfl
theorem gf_esc (w : World) : (X1 w).nsMap mainGlobals (Str.ofString "_iter_escaped_chars") = some (.ref 38) := by kernel_rfl
theorem gf_check (w : World) : (X1 w).nsMap mainGlobals (Str.ofString "_check_parenthesis") = some (.ref 52) := by kernel_rfl
theorem gf_bisect (w : World) : (X1 w).nsMap mainGlobals (Str.ofString "bisect_left") = some (.ref 61) := by kernel_rfl
theorem gf_re1 (w : World) : (X1 w).nsMap mainGlobals (Str.ofString "_twin_re_1") = some (.ref 66) := by kernel_rfl
theorem gf_re2 (w : World) : (X1 w).nsMap mainGlobals (Str.ofString "_twin_re_2") = some (.ref 71) := by kernel_rfl
theorem gf_quote (w : World) : (X1 w).nsMap mainGlobals (Str.ofString "quotedata") = some (.ref 78) := by kernel_rfl
theorem gf_set (w : World) : (X1 w).nsMap mainGlobals (Str.ofString "b1_set") = some (.ref 86) := by kernel_rfl
theorem gf_in (w : World) : (X1 w).nsMap mainGlobals (Str.ofString "in_table_b1") = some (.ref 96) := by kernel_rfl
theorem gf_exc (w : World) : (X1 w).nsMap mainGlobals (Str.ofString "b3_exceptions") = some (.ref 97) := by kernel_rfl
theorem gf_map (w : World) : (X1 w).nsMap mainGlobals (Str.ofString "map_table_b3") = some (.ref 142) := by kernel_rfl
theorem gf_sign (w : World) : (X1 w).nsMap mainGlobals (Str.ofString "_law_sign") = some (.ref 149) := by kernel_rfl
theorem gf_read (w : World) : (X1 w).nsMap mainGlobals (Str.ofString "_law_read") = some (.ref 156) := by kernel_rfl
theorem gf_parked (w : World) : (X1 w).nsMap mainGlobals (Str.ofString "_law_parked") = some (.ref 161) := by kernel_rfl
theorem gf_told (w : World) : (X1 w).nsMap mainGlobals (Str.ofString "_law_told") = some (.ref 166) := by kernel_rfl
theorem gf_piece (w : World) : (X1 w).nsMap mainGlobals (Str.ofString "_law_piece") = some (.ref 173) := by kernel_rfl
theorem fnAt {w : World} {i : Nat} {a : Addr} {md : Value} (hg : (X1 w).get? a = some ⟨.type "function", Option.none, .func (fnO i 3 (.ref (a - 1)) .none .none md), #[]⟩) (hc : codeRecB (X1 w) (a - 1) (defAt i).1 = true)
    (h1 : (defAt i).2.2.2.isCoroutine = false) (h2 : (defAt i).2.2.2.isGenerator = false) (h3 : (defAt i).2.2.2.kind = .function) : FnAt w i a md := ⟨⟨_, hg, rfl⟩, codeRecB_ok hc, h1, h2, h3⟩
noncomputable abbrev mdL : Value := .str (S "law_us0015_01") 2429
noncomputable abbrev mdE : Value := .str (S "cpy313.email.utils") 282
noncomputable abbrev mdS : Value := .str (S "cpy313.stringprep") 401
theorem fa_sign (w : World) : FnAt w 18 149 mdL := fnAt (by kernel_rfl) (by kernel_rfl) (by kernel_rfl) (by kernel_rfl) (by kernel_rfl)
theorem fa_read (w : World) : FnAt w 19 156 mdL := fnAt (by kernel_rfl) (by kernel_rfl) (by kernel_rfl) (by kernel_rfl) (by kernel_rfl)
theorem fa_parked (w : World) : FnAt w 20 161 mdL := fnAt (by kernel_rfl) (by kernel_rfl) (by kernel_rfl) (by kernel_rfl) (by kernel_rfl)
theorem fa_told (w : World) : FnAt w 21 166 mdL := fnAt (by kernel_rfl) (by kernel_rfl) (by kernel_rfl) (by kernel_rfl) (by kernel_rfl)
theorem fa_piece (w : World) : FnAt w 22 173 mdL := fnAt (by kernel_rfl) (by kernel_rfl) (by kernel_rfl) (by kernel_rfl) (by kernel_rfl)
theorem fa_law (w : World) : FnAt w 23 178 mdL := fnAt (by kernel_rfl) (by kernel_rfl) (by kernel_rfl) (by kernel_rfl) (by kernel_rfl)
theorem fa_in (w : World) : FnAt w 14 96 mdS := fnAt (by kernel_rfl) (by kernel_rfl) (by kernel_rfl) (by kernel_rfl) (by kernel_rfl)
theorem fa_map (w : World) : FnAt w 16 142 mdS := fnAt (by kernel_rfl) (by kernel_rfl) (by kernel_rfl) (by kernel_rfl) (by kernel_rfl)
theorem fa_strip (w : World) : FnAt w 3 45 mdE := fnAt (by kernel_rfl) (by kernel_rfl) (by kernel_rfl) (by kernel_rfl) (by kernel_rfl)
theorem fa_check (w : World) : FnAt w 4 52 mdE := fnAt (by kernel_rfl) (by kernel_rfl) (by kernel_rfl) (by kernel_rfl) (by kernel_rfl)
theorem fa_quote (w : World) : FnAt w 11 78 (.str (S "cpy313.smtplib") 332) := fnAt (by kernel_rfl) (by kernel_rfl) (by kernel_rfl) (by kernel_rfl) (by kernel_rfl)
end
section
section
variable {w : World} {F : Fm} {n b : Nat} {σ : St}
theorem wE_Sub {value slice : Expr} {pos : Pos} {Q : D → St → Prop} (h : WE w F n σ value (fun c σ₁ => WE w F n σ₁ slice (fun j σ₂ => W2 w F n Val σ₂ c j (fun _ u v => subscriptTail value slice u v) Q))) : WE w F n σ (.Subscript value slice pos) Q := by
  intro os env κ ρ s A E ok z r
  refine Subscript_ (wpAny_mono (h os env κ ρ s A E ok z r) (fun u s₁ h₁ => ?_) fun _ _ x => x)
  obtain ⟨ρ₁, a, σ₁, g1, g2, g3, g4, g5⟩ := h₁
  refine wpAny_mono (g5 os env κ ρ₁ s₁ A E ok g4 r) (fun v s₂ h₂ => ?_) fun _ _ x => x
  obtain ⟨ρ₂, b, σ₂, k1, k2, k3, k4, k5⟩ := h₂
  exact wpAny_mono (k5 os env κ ρ₂ s₂ A E u v ok k4 r (g3.mono (g4.le k2)) k3) (fun _ _ x => x.weak (Nat.le_trans g1 k1) (g2.trans k2 g1)) fun _ _ x => x
theorem tail_ {A : Around} {E : Value → Shared → Prop} {s : Shared} {value slice : Expr} {o i : Value} {T id : String} {Q : Value → Shared → Prop} (hT : s.TypeIs o T) (hl : typeLookup (.type T) "__getitem__" = pure (some (.builtin id))) (h : wpAny (model pw w) A (getItem o i) Q E s) :
    wpAny (model pw w) A (subscriptTail value slice o i) Q E s := by
  unfold subscriptTail
  have fin : wpAny (model pw w) A (subscripted slice false o i) (fun r s₃ => wpAny (model pw w) A (letTemporaryGo value o r >>= fun _ => pure r) Q E s₃) E s := by
    have h' : wpAny (model pw w) A (getItem o i) (fun r s₃ => wpAny (model pw w) A (letTemporaryGo value o r >>= fun _ => pure r) Q E s₃) E s :=
      wpAny_mono h (fun r s₃ h₃ => wpAny_bind (wpAny_letTemporaryGo (wpAny_pure h₃))) fun _ _ x => x
    have e : subscripted slice false o i = operate [i, o] (getItem o i) ∨ subscripted slice false o i = operate [o, i] (getItem o i) := by
      cases slice with
      | Slice a b c p => cases c with
        | none => exact .inl rfl
        | some c => exact .inr rfl
      | _ => exact .inr rfl
    rcases e with e | e <;> (rw [e]; exact wpAny_operating h')
  refine wpAny_bind ?_
  rw [getitemInPython_of_ne hT.not_modules]
  refine wpAny_bind (wpAny_specialOf hT hl ?_)
  exact wpAny_pure (wpAny_bind fin)
noncomputable def longI (i : Int) : Prop := -(2 ^ 63) ≤ i ∧ i < 2 ^ 63
theorem w2_item {value slice : Expr} {k : Nat} {sp : Sp} {i : Int} {j : Nat} {d : D} {Q : D → St → Prop} (hk : fd σ.objs k = some sp) (ht : sp.ty = "list") (hj : seqIndex? i sp.ds.length = some j) (hd : sp.ds[j]? = some d) (hi : longI i) (h : Q d σ) :
    W2 w F n Val σ (.ref k) (.int i) (fun _ u v => subscriptTail value slice u v) Q := by
  rintro os env κ ρ s A E u v ok z r hu ⟨t, rfl⟩
  obtain ⟨a, vs, rfl, _, hl, hv⟩ := z.list hk ht hu
  obtain ⟨x, hx, hX⟩ := hv.get hd
  have hlen : sp.ds.length = vs.length := hv.len
  have hb : (sp.ds.length : Int) = vs.toArray.size := by rw [List.size_toArray, hlen]
  unfold seqIndex? at hj
  obtain ⟨h1, h2⟩ := hi
  by_cases h0 : i < 0
  · simp only [if_pos h0] at hj
    split at hj
    · rename_i hc
      cases hj
      simp only [Bool.and_eq_true, decide_eq_true_eq] at hc
      refine tail_ hl.typeIs slot_list_getitem.lookup ?_
      exact wpAny_getItem_list_neg hl h0 (by rw [← hb]; lia) h1 (by rw [← hb]; simpa using hx) (po z hX h)
    · cases hj
  · simp only [if_neg h0] at hj
    split at hj
    · rename_i hc
      cases hj
      simp only [Bool.and_eq_true, decide_eq_true_eq] at hc
      refine tail_ hl.typeIs slot_list_getitem.lookup ?_
      exact wpAny_getItem_list hl (by lia) h2 (by simpa using hx) (po z hX h)
    · cases hj
/-! slices -/
noncomputable abbrev WPa (w : World) (F : Fm) (n : Nat) (σ : St) (x : Option Expr) (Q : D → St → Prop) : Prop := W0 w F n Val σ (fun env => evalPart x env) Q
theorem wPa_none {Q : D → St → Prop} (h : Q .none σ) : WPa w F n σ none Q := fun _ _ _ _ _ _ _ _ z _ => wpAny_pure (po z vN h)
theorem wPa_some {e : Expr} {Q : D → St → Prop} (h : WE w F n σ e Q) : WPa w F n σ (some e) Q := h
noncomputable def part : D → Option (Option Int)
  | .none => some none
  | .int i => some (some i)
  | _ => none
theorem isPart_of {ρ : Km} {d : D} {v : Value} {k : Option Int} (h : part d = some k) (hv : Val ρ d v) : IsPart v k := by
  cases d <;> simp only [part, Option.some.injEq, reduceCtorEq] at h
  · subst h; cases hv; exact .none
  · subst h; obtain ⟨t, rfl⟩ := hv; exact .int _ _
noncomputable def pickD (ds : List D) (lo hi st : Option Int) : List D :=
  (sliceRange (sliceBounds lo hi st ds.length).1 (sliceBounds lo hi st ds.length).2.1 (sliceBounds lo hi st ds.length).2.2).filterMap (ds[·]?)
theorem all2_places {ρ : Km} {ds : List D} {vs : List Value} (h : All2 (Val ρ) ds vs) (l : List Nat) : All2 (Val ρ) (l.filterMap (ds[·]?)) (l.filterMap (vs[·]?)) := by
  induction l with
  | nil => exact .nil
  | cons j l ih =>
    cases hd : ds[j]? with
    | some d =>
      obtain ⟨v, hv, hV⟩ := h.get hd
      simp only [List.filterMap_cons, hd, hv]
      exact .cons hV ih
    | none =>
      have hv : vs[j]? = none := by
        rw [List.getElem?_eq_none_iff] at hd ⊢
        rw [← h.len]; exact hd
      simp only [List.filterMap_cons, hd, hv]
      exact ih
theorem all2_pick {ρ : Km} {ds : List D} {vs : List Value} (h : All2 (Val ρ) ds vs) (lo hi st : Option Int) : All2 (Val ρ) (pickD ds lo hi st) (slicePick vs.toArray lo hi st).toList := by
  have e : (slicePick vs.toArray lo hi st).toList = (sliceRange (sliceBounds lo hi st ds.length).1 (sliceBounds lo hi st ds.length).2.1 (sliceBounds lo hi st ds.length).2.2).filterMap (vs[·]?) := by
    simp [slicePick, h.len]
  rw [e]
  exact all2_places h _
theorem Z.sliced {os : Og} {env : Env} {cw : Bool} {κ : Kp} {ρ : Km} {s : Shared} (z : Z w os env cw κ ρ σ s) (o : Obj) {ds : List D} {vs : List Value} (h : All2 (Val ρ) ds vs) :
    Z w os env cw κ (put ρ σ.nx (s.heap.push o).objs.size) (σ.mk' ⟨"list", ds, false, true⟩) { s with heap := (s.heap.push o).push (seqO "list" vs 0) } := (z.push o).alloc "list" h
theorem wE_SliceL {value : Expr} {lo up st : Option Expr} {p pos : Pos} {Q : D → St → Prop}
    (h : WE w F n σ value (fun c σ₁ => WPa w F n σ₁ lo (fun l σ₂ => WPa w F n σ₂ up (fun u σ₃ => WPa w F n σ₃ st (fun t σ₄ => ∃ k sp l' u' t', c = .ref k ∧ fd σ₄.objs k = some sp ∧ sp.ty = "list" ∧ sp.ds.length ≤ sizeLine ∧ part l = some l' ∧ part u = some u' ∧ part t = some t' ∧ t' ≠ some 0 ∧ Mk σ₄ ⟨"list", pickD sp.ds l' u' t', false, true⟩ Q))))) :
    WE w F n σ (.Subscript value (.Slice lo up st p) pos) Q := by
  intro os env κ ρ s A E ok z r
  refine Subscript_ (wpAny_mono (h os env κ ρ s A E ok z r) (fun c s₁ h₁ => wpAny_Slice ?_) fun _ _ x => x)
  obtain ⟨ρ₁, dc, σ₁, g1, g2, g3, g4, g5⟩ := h₁
  refine wpAny_mono (g5 os env κ ρ₁ s₁ A E ok g4 r) (fun l s₂ h₂ => ?_) fun _ _ x => x
  obtain ⟨ρ₂, dl, σ₂, k1, k2, k3, k4, k5⟩ := h₂
  refine wpAny_mono (k5 os env κ ρ₂ s₂ A E ok k4 r) (fun u s₃ h₃ => ?_) fun _ _ x => x
  obtain ⟨ρ₃, du, σ₃, j1, j2, j3, j4, j5⟩ := h₃
  refine wpAny_mono (j5 os env κ ρ₃ s₃ A E ok j4 r) (fun t s₄ h₄ => ?_) fun _ _ x => x
  obtain ⟨ρ₄, dt, σ₄, i1, i2, i3, i4, k, sp, l', u', t', rfl, e1, e2, e3, e4, e5, e6, e7, e8⟩ := h₄
  obtain ⟨a, vs, rfl, _, hl, hv⟩ := i4.list e1 e2 (((g3.mono (g4.le k2)).mono (k4.le j2)).mono (j4.le i2))
  have hl' : (s₄.heap.push { cls := .type "slice", data := .fields #[l, u, t] }).IsList a vs.toArray := hl.push _
  refine tail_ (s := { s₄ with heap := s₄.heap.push { cls := .type "slice", data := .fields #[l, u, t] } }) hl'.typeIs slot_list_getitem.lookup ?_
  refine wpAny_getItem_list_slice hl' (Heap.IsSliceOf.new ..) (isPart_of e4 ((k3.mono (k4.le j2)).mono (j4.le i2))) (isPart_of e5 (j3.mono (j4.le i2))) (isPart_of e6 i3) e7 ?_ (by rw [List.size_toArray, ← hv.len]; exact e3)
  have zz := i4.sliced { cls := .type "slice", data := .fields #[l, u, t] } (all2_pick hv l' u' t')
  refine ⟨_, _, _, ?_, ?_, ?_, zz, e8⟩
  · exact Nat.le_trans g1 (Nat.le_trans k1 (Nat.le_trans j1 (Nat.le_trans i1 (Nat.le_succ _))))
  · exact (((g2.trans k2 g1).trans j2 (Nat.le_trans g1 k1)).trans i2 (Nat.le_trans g1 (Nat.le_trans k1 j1))).trans (eqb_put (i4.push _).fr) (Nat.le_trans g1 (Nat.le_trans k1 (Nat.le_trans j1 i1)))
  · exact ⟨_, if_pos rfl, rfl⟩
noncomputable def sliceS (x : Str) (lo hi : Option Int) : Str := if ((Builtin.Str.strSliceIndices lo hi 1 x.length).length == x.length) = true then x else ⟨((Builtin.Str.strSliceIndices lo hi 1 x.length).filterMap (x.cps[·]?)).toArray⟩
theorem partValue_of {ρ : Km} {d : D} {v : Value} {k : Option Int} (h : part d = some k) (hv : Val ρ d v) : ∃ l : Option (Int × Tok), v = partValue l ∧ l.map (·.1) = k := by
  cases d <;> simp only [part, Option.some.injEq, reduceCtorEq] at h
  · subst h; cases hv; exact ⟨none, rfl, rfl⟩
  · subst h; obtain ⟨t, rfl⟩ := hv; exact ⟨some (_, t), rfl, rfl⟩
theorem wE_SliceS {value : Expr} {lo up : Option Expr} {p pos : Pos} {Q : D → St → Prop}
    (h : WE w F n σ value (fun c σ₁ => WPa w F n σ₁ lo (fun l σ₂ => WPa w F n σ₂ up (fun u σ₃ => ∃ x l' u', c = .str x ∧ x.length ≤ sizeLine ∧ part l = some l' ∧ part u = some u' ∧ Q (.str (sliceS x l' u')) σ₃)))) :
    WE w F n σ (.Subscript value (.Slice lo up none p) pos) Q := by
  intro os env κ ρ s A E ok z r
  refine Subscript_ (wpAny_mono (h os env κ ρ s A E ok z r) (fun c s₁ h₁ => wpAny_Slice ?_) fun _ _ x => x)
  obtain ⟨ρ₁, dc, σ₁, g1, g2, g3, g4, g5⟩ := h₁
  refine wpAny_mono (g5 os env κ ρ₁ s₁ A E ok g4 r) (fun l s₂ h₂ => ?_) fun _ _ x => x
  obtain ⟨ρ₂, dl, σ₂, k1, k2, k3, k4, k5⟩ := h₂
  refine wpAny_mono (k5 os env κ ρ₂ s₂ A E ok k4 r) (fun u s₃ h₃ => ?_) fun _ _ x => x
  obtain ⟨ρ₃, du, σ₃, j1, j2, j3, j4, x, l', u', rfl, e3, e4, e5, e8⟩ := h₃
  obtain ⟨t, rfl⟩ := g3
  obtain ⟨pl, rfl, hl⟩ := partValue_of e4 (k3.mono (k4.le j2))
  obtain ⟨pu, rfl, hu⟩ := partValue_of e5 j3
  refine wpAny_pure ?_
  refine tail_ (typeIs_str _ x t) PySem.F.slot_str_getitem.lookup ?_
  refine wpAny_getItem_str_slice (st := none) ⟨_, Heap.get?_push_size _ rfl, rfl, rfl⟩ rfl ?_
  have z' := j4.push { cls := .type "slice", data := .fields #[partValue pl, partValue pu, Value.none] }
  have hb : σ.nx ≤ σ₃.nx := Nat.le_trans g1 (Nat.le_trans k1 j1)
  have he : EqB σ.nx κ ρ ρ₃ := (g2.trans k2 g1).trans j2 (Nat.le_trans g1 k1)
  unfold sliceS at e8
  unfold sliceMade slicePicked
  simp only [hl, hu, Option.map_none, Option.getD_none, beq_self_eq_true, Bool.true_and]
  split
  · rename_i hc
    rw [if_pos hc] at e8
    exact ⟨ρ₃, .str x, σ₃, hb, he, vS, z', e8⟩
  · rename_i hc
    rw [if_neg hc] at e8
    refine ⟨?_, ρ₃, .str _, σ₃, hb, he, vS, z'.tok _, e8⟩
    show ((List.filterMap (fun x_1 => x.cps[x_1]?) (Builtin.Str.strSliceIndices l' u' 1 x.length)).toArray).size ≤ sizeLine
    rw [List.size_toArray]
    exact Nat.le_trans (List.length_filterMap_le _ _) (Nat.le_trans (sliceIndices_le l' u' x.length) e3)
theorem vR {ρ : Km} {k : Nat} {a : Addr} (h : ρ k = some a) : Val ρ (.ref k) (.ref a) := ⟨a, h, rfl⟩
theorem vNew {ρ : Km} {k : Nat} {a : Addr} : Val (put ρ k a) (.ref k) (.ref a) := vR (if_pos rfl)
theorem po_new {os : Og} {env : Env} {κ : Kp} {ρ : Km} {s : Shared} (z : Z w os env F.cw κ ρ σ s) {ty : String} {ds : List D} {vs : List Value} (hv : All2 (Val ρ) ds vs) {Q : D → St → Prop} (h : Mk σ ⟨ty, ds, false, true⟩ Q) :
    Po w F os env κ ρ σ.nx Val Q (.ref s.heap.objs.size) { s with heap := s.heap.push (seqO ty vs 0) } :=
  ⟨_, .ref σ.nx, _, Nat.le_succ _, eqb_put z.fr, vNew, z.alloc ty hv, h⟩
/-! more of lists -/
theorem w2_ladd {j k : Nat} {sp tp : Sp} {Q : D → St → Prop} (hj : fd σ.objs j = some sp) (hk : fd σ.objs k = some tp) (h1 : sp.ty = "list") (h2 : tp.ty = "list") (h3 : sp.px = true) (h4 : tp.px = true) (hs : sp.ds.length + tp.ds.length ≤ sizeLine)
    (h : Mk σ ⟨"list", sp.ds ++ tp.ds, false, true⟩ Q) : W2 w F n Val σ (.ref j) (.ref k) (fun _ u v => binaryOp .Add u v) Q := by
  intro os env κ ρ s A E u v ok z r hu hv
  obtain ⟨a, vs, m, rfl, _, ha, hA⟩ := z.listL hj h1 h3 hu
  obtain ⟨c, us, m', rfl, _, hc, hC⟩ := z.listL hk h2 h4 hv
  refine PySem.P.add_list ha hc ?_ (by rw [List.size_toArray, List.size_toArray, ← hA.len, ← hC.len]; exact hs)
  rw [show ({ cls := .type "list", data := .seq (vs.toArray ++ us.toArray) } : Obj) = seqO "list" (vs ++ us) 0 by simp [seqO]]
  exact po_new z (hA.append hC) h
theorem all2_rep {ρ : Km} {d : D} {v : Value} (h : Val ρ d v) : ∀ k, All2 (Val ρ) (List.replicate k d) (List.replicate k v)
  | 0 => .nil
  | k + 1 => .cons h (all2_rep h k)
theorem rep_one {v : Value} : ∀ (k : Nat) (acc : Array Value), List.foldl (fun x1 x2 => x1 ++ x2) acc (List.replicate k #[v]) = acc ++ (List.replicate k v).toArray
  | 0, acc => by simp
  | k + 1, acc => by
    rw [List.replicate_succ, List.foldl_cons, rep_one k]
    apply Array.ext'
    simp [List.replicate_succ]
theorem w2_lmul1 {j : Nat} {sp : Sp} {d : D} {i : Int} {Q : D → St → Prop} (hj : fd σ.objs j = some sp) (h1 : sp.ty = "list") (h3 : sp.px = true) (h2 : sp.ds = [d]) (h0 : 0 ≤ i) (hi : i ≤ 1000)
    (h : Mk σ ⟨"list", List.replicate i.toNat d, false, true⟩ Q) : W2 w F n Val σ (.ref j) (.int i) (fun _ u v => binaryOp .Mult u v) Q := by
  rintro os env κ ρ s A E u v ok z r hu ⟨t, rfl⟩
  obtain ⟨a, vs, m, rfl, _, ha, hA⟩ := z.listL hj h1 h3 hu
  rw [h2] at hA
  cases hA with
  | cons q1 q2 =>
    cases q2
    rename_i x
    refine wpAny_binaryOp_repeat_ref (T := "list") (U := "int") (by decide) ⟨_, ha, rfl⟩ (fun s' => typeIs_int s' i t) noFill_list_mul PySem.F.fills_int_mul PySem.F.slot_int_rmul repeat_list PySem.F.slot_int_index.lookup
      (call_meets PySem.F.slot_int_rmul (typeIs_int s i t) PySem.F.entry_int_rmul (PySem.F.args_int_rmul_2 _ _) (int___rmul___int_list i t a _ m)
        ⟨ha, rfl, ⟨_, ha, rfl⟩, call_meets PySem.F.slot_list_mul ⟨_, ha, rfl⟩ PySem.F.entry_list_mul (PySem.F.args_list_mul_2 _ _)
          (AutoListH.list___mul___list_int_3 a _ m i t (by simp [Builtin.List.listFitsIndex]; lia) (by simp; lia) (by simp [Builtin.List.listTooLong, sizeLine]; lia)) ⟨ha, ?_⟩⟩)
    have e : (List.foldl (fun x1 x2 => x1 ++ x2) #[] (List.replicate (if ([x].toArray).isEmpty = true then 0 else i.toNat) [x].toArray)) = (List.replicate i.toNat x).toArray := by
      have := rep_one (v := x) i.toNat #[]
      simpa using this
    have := po_new z (all2_rep q1 i.toNat) h
    unfold seqO at this
    rw [← e] at this
    exact this
end
end
section
section
variable {w : World} {F : Fm} {n b : Nat} {σ : St}
noncomputable def GM (w : World) (σ : St) (c : D) (name : Str) (id : String) : Prop := ∀ os env cw κ ρ s A (E : Value → Shared → Prop) v pl (Q : Value × List Value → Shared → Prop), Z w os env cw κ ρ σ s → Val ρ c v → Q (.builtin id, [v]) s → wpAny (model pw w) A (getMethod v name pl) Q E s
theorem wE_Meth {o : Expr} {name : Str} {apos pos : Pos} {e : Expr} {rest : List Expr} {id : String} {Q : D → St → Prop} (hpl : (e :: rest).all plainE = true) (pl : Env → Sem Bool)
    (he : ∀ env, eval (.Call (.Attribute o name apos) (e :: rest) [] pos) env = (do
      let ov ← eval o env
      standAt apos.atName
      let (f, first) ← holding [ov] (getMethod ov name (pl env))
      callWith pos f first (backTo pos (starEach (e :: rest) env)) []))
    (h : WE w F n σ o (fun c σ₁ => GM w σ₁ c name id ∧ WEs w F n σ₁ pos (e :: rest) (fun ds σ₂ => WL w F n Val σ₂ (c :: ds) (fun _ vs => call (.builtin id) vs) Q))) :
    WE w F n σ (.Call (.Attribute o name apos) (e :: rest) [] pos) Q := by
  intro os env κ ρ s A E ok z r
  refine MethodCall_ (wpAny_mono (h os env κ ρ s A E ok z r) (fun u s₁ h₁ => ?_) fun _ _ x => x) (he env)
  obtain ⟨ρ₁, c, σ₁, g1, g2, g3, g4, g5, g6⟩ := h₁
  refine g5 os env F.cw κ ρ₁ s₁ A E u (pl env) _ g4 g3 ?_
  have h2 : rest.all plainE = true := by simp only [List.all_cons, Bool.and_eq_true] at hpl; exact hpl.2
  refine callWith_method1 (wpAny_mono (g6 os env κ ρ₁ s₁ A E ok g4 r) (fun vs s₂ h₂ => ?_) fun _ _ x => x) (by rw [star_plain hpl env, star_plain h2 env]; rfl) (back_plain h2 env pos)
  obtain ⟨ρ₂, ds, σ₂, k1, k2, k3, k4, k5⟩ := h₂
  exact wpAny_mono (k5 os env κ ρ₂ s₂ A E (u :: vs) ok k4 r (.cons (g3.mono (g4.le k2)) k3)) (fun _ _ x => x.weak (Nat.le_trans g1 k1) (g2.trans k2 g1)) fun _ _ x => x
theorem wE_Meth0 {o : Expr} {name : Str} {apos pos : Pos} {id : String} {Q : D → St → Prop} (pl : Env → Sem Bool)
    (he : ∀ env, eval (.Call (.Attribute o name apos) [] [] pos) env = (do
      let ov ← eval o env
      standAt apos.atName
      let (f, first) ← holding [ov] (getMethod ov name (pl env))
      callWith pos f first (backTo pos (starEach [] env)) []))
    (h : WE w F n σ o (fun c σ₁ => GM w σ₁ c name id ∧ WL w F n Val σ₁ [c] (fun _ vs => call (.builtin id) vs) Q)) :
    WE w F n σ (.Call (.Attribute o name apos) [] [] pos) Q := by
  intro os env κ ρ s A E ok z r
  refine MethodCall_ (wpAny_mono (h os env κ ρ s A E ok z r) (fun u s₁ h₁ => ?_) fun _ _ x => x) (he env)
  obtain ⟨ρ₁, c, σ₁, g1, g2, g3, g4, g5, g6⟩ := h₁
  refine g5 os env F.cw κ ρ₁ s₁ A E u (pl env) _ g4 g3 ?_
  exact callWith_method0 (wpAny_mono (g6 os env κ ρ₁ s₁ A E [u] ok g4 r (.cons g3 .nil)) (fun _ _ x => x.weak g1 g2) fun _ _ x => x)
theorem gm_list {k : Nat} {sp : Sp} {name : Str} {id : String} (slot : Slot "list" name id) (hty : typeOf (.builtin id) = pure (.type "method_descriptor")) (hk : fd σ.objs k = some sp) (h1 : sp.ty = "list") (h2 : sp.px = true) : GM w σ (.ref k) name id := by
  intro os env cw κ ρ s A E v pl Q z hv hQ
  obtain ⟨a, vs, m, rfl, _, ha, _⟩ := z.listL hk h1 h2 hv
  exact getMethod_list_of slot hty ha.isList ⟨_, ha, rfl⟩ hQ
theorem gm_append {k : Nat} {sp : Sp} (hk : fd σ.objs k = some sp) (h1 : sp.ty = "list") (h2 : sp.px = true) : GM w σ (.ref k) (Str.ofString "append") "list.append" := gm_list PySem.F.slot_list_append PySem.F.type_list_append hk h1 h2
theorem gm_pop {k : Nat} {sp : Sp} (hk : fd σ.objs k = some sp) (h1 : sp.ty = "list") (h2 : sp.px = true) : GM w σ (.ref k) (Str.ofString "pop") "list.pop" := gm_list PySem.F.slot_list_pop PySem.F.type_list_pop hk h1 h2
theorem gm_count {k : Nat} {sp : Sp} (hk : fd σ.objs k = some sp) (h1 : sp.ty = "list") (h2 : sp.px = true) : GM w σ (.ref k) (Str.ofString "count") "list.count" := gm_list PySem.F.slot_list_count PySem.F.type_list_count hk h1 h2
theorem gm_join {x : Str} : GM w σ (.str x) (Str.ofString "join") "str.join" := by
  rintro os env cw κ ρ s A E v pl Q z ⟨t, rfl⟩ hQ; exact GM.join hQ
theorem gm_split {x : Str} : GM w σ (.str x) (Str.ofString "split") "str.split" := by
  rintro os env cw κ ρ s A E v pl Q z ⟨t, rfl⟩ hQ; exact GM.split hQ
theorem gm_lower {x : Str} : GM w σ (.str x) (Str.ofString "lower") "str.lower" := by
  rintro os env cw κ ρ s A E v pl Q z ⟨t, rfl⟩ hQ; exact GM.lower hQ
theorem set_seq {h : Heap} {l : Addr} {items : Array Value} {n : Nat} (x : IsL h l items n) (f : Array Value → Array Value) : ∃ m, (h.update l (Obj.mapSeq f)).get? l = some (seqO "list" (f items).toList m) := by
  have := x.update f
  unfold IsL at this
  exact ⟨(if ((f items).size == items.size) = true then n else n + 1), by rw [this]; rfl⟩
theorem w2_append {k : Nat} {sp : Sp} {d : D} {Q : D → St → Prop} (hk : fd σ.objs k = some sp) (h1 : sp.ty = "list") (h2 : sp.px = true) (h3 : sp.fz = false) (hs : sp.ds.length ≤ 1000)
    (h : Q .none { σ with objs := upd σ.objs k { sp with ds := sp.ds ++ [d] } }) : W2 w F n Val σ (.ref k) d (fun _ u v => call (.builtin "list.append") [u, v]) Q := by
  intro os env κ ρ s A E u v ok z r hu hv
  obtain ⟨a, vs, m, rfl, hr, ha, hA⟩ := z.listL hk h1 h2 hu
  refine call_meets PySem.F.slot_list_append ⟨_, ha, rfl⟩ PySem.F.entry_list_append (PySem.F.args_list_append_2 _ _) (list_append a _ m v (by rw [List.size_toArray, ← hA.len]; exact Nat.le_trans hs (by decide))) ⟨ha, ?_⟩
  obtain ⟨m', hm'⟩ := set_seq ha (fun xs => xs.push v)
  rw [show (vs.toArray.push v).toList = vs ++ [v] by simp] at hm'
  have zz := z.setObj (t := s.toks) (px := true) (ds := sp.ds ++ [d]) hk h3 hr (h' := s.heap.update a (Obj.mapSeq fun xs => xs.push v)) ⟨_, _, m', hm', by simp [seqO, h1], rfl, fun _ => by simp [h1], hA.append (.cons hv .nil)⟩ (Heap.SameBut.update ..)
  have e : ({ sp with ds := sp.ds ++ [d], px := true } : Sp) = { sp with ds := sp.ds ++ [d] } := by rw [← h2]
  rw [e] at zz
  exact ⟨ρ, .none, { σ with objs := upd σ.objs k { sp with ds := sp.ds ++ [d] } }, Nat.le_refl _, EqB.rfl', vN, zz, h⟩
noncomputable def eraseAt (l : List D) (k : Nat) : List D := l.eraseIdx k
theorem all2_erase {ρ : Km} {ds : List D} {vs : List Value} (h : All2 (Val ρ) ds vs) : ∀ k, All2 (Val ρ) (ds.eraseIdx k) (vs.eraseIdx k) := by
  induction h with
  | nil => intro k; exact .nil
  | cons h1 h2 ih =>
    intro k
    cases k with
    | zero => exact h2
    | succ k => exact .cons h1 (ih k)
theorem w2_pop {k : Nat} {sp : Sp} {i : Int} {j : Nat} {d : D} {Q : D → St → Prop} (hk : fd σ.objs k = some sp) (h1 : sp.ty = "list") (h2 : sp.px = true) (h3 : sp.fz = false) (hs : sp.ds.length ≤ 1000) (hi : longI i) (hj : seqIndex? i sp.ds.length = some j) (hd : sp.ds[j]? = some d)
    (h : Q d { σ with objs := upd σ.objs k { sp with ds := sp.ds.eraseIdx j } }) : W2 w F n Val σ (.ref k) (.int i) (fun _ u v => call (.builtin "list.pop") [u, v]) Q := by
  rintro os env κ ρ s A E u v ok z r hu ⟨t, rfl⟩
  obtain ⟨a, vs, m, rfl, hr, ha, hA⟩ := z.listL hk h1 h2 hu
  obtain ⟨x, hx, hX⟩ := hA.get hd
  have hj' : seqIndex? i vs.toArray.size = some j := by rw [List.size_toArray, ← hA.len]; exact hj
  have hjl : j < vs.length := (List.getElem?_eq_some_iff.mp hx).1
  refine call_meets PySem.F.slot_list_pop ⟨_, ha, rfl⟩ PySem.F.entry_list_pop (PySem.F.args_list_pop_2 _ _) (MeetsSeq.list_pop_at a _ m i t j x (by unfold Builtin.List.listFitsIndex; obtain ⟨a1, a2⟩ := hi; simp only [Bool.and_eq_true, decide_eq_true_eq]; lia) hj' (by simpa using hx) (by rw [List.size_toArray, ← hA.len]; exact Nat.le_trans hs (by decide))) ⟨ha, ?_⟩
  obtain ⟨m', hm'⟩ := set_seq ha (fun xs => xs.eraseIdxIfInBounds j)
  rw [show (vs.toArray.eraseIdxIfInBounds j).toList = vs.eraseIdx j by simp [Array.eraseIdxIfInBounds, hjl]] at hm'
  have zz := z.setObj (t := s.toks) (px := true) (ds := sp.ds.eraseIdx j) hk h3 hr (h' := s.heap.update a (Obj.mapSeq fun xs => xs.eraseIdxIfInBounds j)) ⟨_, _, m', hm', by simp [seqO, h1], rfl, fun _ => by simp [h1], all2_erase hA j⟩ (Heap.SameBut.update ..)
  have e : ({ sp with ds := sp.ds.eraseIdx j, px := true } : Sp) = { sp with ds := sp.ds.eraseIdx j } := by rw [← h2]
  rw [e] at zz
  exact ⟨ρ, d, { σ with objs := upd σ.objs k { sp with ds := sp.ds.eraseIdx j } }, Nat.le_refl _, EqB.rfl', hX, zz, h⟩
noncomputable def intsD : List D → Option (List Int)
  | [] => some []
  | .int i :: r => (intsD r).map (i :: ·)
  | _ :: _ => Option.none
theorem intsAre_of {ρ : Km} {ds : List D} {vs : List Value} (h : All2 (Val ρ) ds vs) : ∀ {ns : List Int}, intsD ds = some ns → IntsAre vs ns := by
  induction h with
  | nil => intro ns e; cases e; exact .nil
  | @cons d v ds vs h1 _ ih =>
    intro ns e
    cases d <;> simp only [intsD, reduceCtorEq] at e
    obtain ⟨ms, h2, rfl⟩ := Option.map_eq_some_iff.mp e
    obtain ⟨t, rfl⟩ := h1
    exact .cons _ _ (ih h2)
theorem w2_count {k : Nat} {sp : Sp} {i : Int} {ns : List Int} {Q : D → St → Prop} (hk : fd σ.objs k = some sp) (h1 : sp.ty = "list") (hn : intsD sp.ds = some ns) (h : Q (.int (ns.count i : Nat)) σ) :
    W2 w F n Val σ (.ref k) (.int i) (fun _ u v => call (.builtin "list.count") [u, v]) Q := by
  rintro os env κ ρ s A E u v ok z r hu ⟨t, rfl⟩
  obtain ⟨a, vs, rfl, _, ha, hA⟩ := z.list hk h1 hu
  exact count_list_ints ha (intsAre_of hA hn) (po (z.tok _) vI h)
noncomputable def strsD : List D → Option (List Str)
  | [] => some []
  | .str i :: r => (strsD r).map (i :: ·)
  | _ :: _ => Option.none
theorem strsAre_of {ρ : Km} {ds : List D} {vs : List Value} (h : All2 (Val ρ) ds vs) : ∀ {ns : List Str}, strsD ds = some ns → StrsAre vs ns := by
  induction h with
  | nil => intro ns e; cases e; exact .nil
  | @cons d v ds vs h1 _ ih =>
    intro ns e
    cases d <;> simp only [strsD, reduceCtorEq] at e
    obtain ⟨ms, h2, rfl⟩ := Option.map_eq_some_iff.mp e
    obtain ⟨t, rfl⟩ := h1
    exact .cons _ _ (ih h2)
theorem w2_join {x : Str} {k : Nat} {sp : Sp} {ys : List Str} {Q : D → St → Prop} (hk : fd σ.objs k = some sp) (h1 : sp.ty = "list") (hn : strsD sp.ds = some ys) (hs : (ys.map (·.length)).sum + ys.length * x.length ≤ 16777216) (h : Q (.str (Txt.join x ys)) σ) :
    W2 w F n Val σ (.str x) (.ref k) (fun _ u v => call (.builtin "str.join") [u, v]) Q := by
  rintro os env κ ρ s A E u v ok z r ⟨t, rfl⟩ hu
  obtain ⟨a, vs, rfl, _, ha, hA⟩ := z.list hk h1 hu
  exact join_list ha (strsAre_of hA hn) hs fun t' k' => po (z.tok k') vS h
theorem w1_lower {x : Str} {Q : D → St → Prop} (hs : x.length ≤ 5592405) (h : Q (.str (Txt.lower x)) σ) : WL w F n Val σ [.str x] (fun _ vs => call (.builtin "str.lower") vs) Q := by
  refine wL_one ?_
  rintro os env κ ρ s A E u ok z r ⟨t, rfl⟩
  exact SCL.lower hs fun _ => po (z.tok _) vS h
end
end
section
section
variable {w : World} {F : Fm} {n b : Nat} {σ : St}
theorem all2_set {ρ : Km} {ds : List D} {vs : List Value} {d : D} {v : Value} (h : All2 (Val ρ) ds vs) (hd : Val ρ d v) : ∀ k, All2 (Val ρ) (ds.set k d) (vs.set k v) := by
  induction h with
  | nil => intro k; exact .nil
  | cons h1 h2 ih =>
    intro k
    cases k with
    | zero => exact .cons hd h2
    | succ k => exact .cons h1 (ih k)
theorem wL_setItem {k : Nat} {sp : Sp} {i : Int} {d : D} {Q : Unit → St → Prop} (hk : fd σ.objs k = some sp) (h1 : sp.ty = "list") (h3 : sp.fz = false) (h0 : 0 ≤ i) (hi : i < sp.ds.length) (hm : i < 2 ^ 63)
    (h : Q () { σ with objs := upd σ.objs k { sp with ds := sp.ds.set i.toNat d, px := false } }) : WL w F n isU σ [.ref k, .int i, d] (fun _ vs => match vs with | [x, y, z] => setItem x y z | _ => pure ()) Q := by
  intro os env κ ρ s A E vs ok z r hv
  cases hv with
  | cons q1 q2 => cases q2 with
    | cons q3 q4 => cases q4 with
      | cons q5 q6 =>
        cases q6
        obtain ⟨a, vs, rfl, hr, ha, hA⟩ := z.list hk h1 q1
        obtain ⟨t, rfl⟩ := q3
        refine wpAny_setItem_list ha h0 hm (by rw [List.size_toArray, ← hA.len]; exact hi) fun h' hl hs => ?_
        obtain ⟨o, e1, e2, m, e3⟩ := hl
        have zz := z.setObj (t := s.toks) (px := false) (ds := sp.ds.set i.toNat d) hk h3 hr (h' := h') ⟨o, _, m, e1, by rw [e2, h1], by rw [e3]; simp, fun h => (nomatch h), all2_set hA q5 _⟩ hs
        exact ⟨ρ, (), { σ with objs := upd σ.objs k { sp with ds := sp.ds.set i.toNat d, px := false } }, Nat.le_refl _, EqB.rfl', trivial, zz, h⟩
theorem w2_smul {x : Str} {i : Int} {Q : D → St → Prop} (hx : x.length = 1) (hi : i ≤ 1000) (hl : -1000 ≤ i) (h : Q (.str ⟨(List.replicate i.toNat (x.cps.getD 0 0)).toArray⟩) σ) : W2 w F n Val σ (.str x) (.int i) (fun _ u v => binaryOp .Mult u v) Q := by
  rintro os env κ ρ s A E _ _ ok z r ⟨t, rfl⟩ ⟨u, rfl⟩
  have hx' : x = ⟨#[x.cps.getD 0 0]⟩ := one_sign hx
  have hs : ¬ ((x.length : Int) > (2 ^ 63 - 1) / i) ∨ i < 1 := by
    by_cases h0 : i < 1
    · exact .inr h0
    · left
      rw [hx]
      have : (1 : Int) ≤ (2 ^ 63 - 1) / i := Int.le_ediv_of_mul_le (by lia) (by lia)
      lia
  refine PySem.P.mul_str (by rw [decide_eq_false (by lia), decide_eq_false (by lia)]; rfl) (fun h0 _ => hs.resolve_right h0) (fun h0 _ => by rw [hx]; unfold Builtin.Str.tooLong sizeLine; exact decide_eq_false (by lia)) ?_
  by_cases h0 : i < 1
  · rw [if_pos h0]
    have e : i.toNat = 0 := by lia
    rw [e] at h
    exact ⟨by show (0 : Nat) ≤ sizeLine; exact Nat.zero_le _, po (z.tok _) vS h⟩
  · rw [if_neg h0]
    split
    · rename_i hc
      have h1 : i = 1 := by
        rcases Bool.or_eq_true_iff.mp hc with hc | hc
        · simpa using hc
        · rw [hx] at hc; cases hc
      rw [h1] at h
      have : (⟨(List.replicate (1 : Int).toNat (x.cps.getD 0 0)).toArray⟩ : Str) = x := by
        conv => rhs; rw [hx']
        rfl
      rw [this] at h
      exact po z vS h
    · have rep : ∀ (k : Nat) (c : Nat) (acc : Array Nat), (List.replicate k #[c]).foldl (· ++ ·) acc = acc ++ (List.replicate k c).toArray := by
        intro k c
        induction k with
        | zero => intro acc; simp
        | succ k ih =>
          intro acc
          rw [List.replicate_succ, List.foldl_cons, ih]
          apply Array.ext'
          simp [List.replicate_succ]
      have e : (⟨(List.replicate i.toNat x.cps).foldl (· ++ ·) #[]⟩ : Str) = ⟨(List.replicate i.toNat (x.cps.getD 0 0)).toArray⟩ := by
        have e1 : x.cps = #[x.cps.getD 0 0] := congrArg Str.cps hx'
        conv => lhs; rw [e1]
        rw [rep]; simp
      rw [e]
      refine ⟨?_, po (z.tok _) vS h⟩
      show ((List.replicate i.toNat (x.cps.getD 0 0)).toArray).size ≤ sizeLine
      rw [List.size_toArray, List.length_replicate]
      unfold sizeLine
      lia
theorem w2_pow4 {i : Int} {Q : D → St → Prop} (h0 : 1 ≤ i) (hi : i ≤ 1000) (h : Q (.int (4 ^ i.toNat)) σ) : W2 w F n Val σ (.int 4) (.int i) (fun _ u v => binaryOp .Pow u v) Q := by
  rintro os env κ ρ s A E _ _ ok z r ⟨t, rfl⟩ ⟨u, rfl⟩
  refine PySem.AutoIntOps.pow_4 (by lia) (by simp; lia) (by decide) (by decide) ?_ (po (z.tok _) vI h)
  have : Builtin.Int.intBits 4 = 3 := by decide +kernel
  rw [this]
  unfold Builtin.Int.intTooBig bitsLine
  simp
  lia
theorem w1_listcopy {k : Nat} {sp : Sp} {Q : D → St → Prop} (hk : fd σ.objs k = some sp) (h1 : sp.ty = "list") (hs : sp.ds.length ≤ 1000) (h : Mk σ ⟨"list", sp.ds, false, true⟩ Q) : W1 w F n Val σ (.ref k) (fun _ v => call (.type "list") [v]) Q := by
  rintro os env κ ρ s A E v ok z r hv
  obtain ⟨a, vs, rfl, _, ⟨o, e1, e2, m, e3⟩, hA⟩ := z.list hk h1 hv
  refine call_list_seq (T := "list") a (.inl rfl) e1 e2 e3 (fun h' c' hk' hn => ?_) (by rw [List.size_toArray, ← hA.len]; exact Nat.le_trans hs (by decide))
  have hf : s.heap.get? s.heap.objs.size = none := by
    cases e : s.heap.get? s.heap.objs.size with
    | none => rfl
    | some o => exact absurd (Heap.lt_size e) (Nat.lt_irrefl _)
  exact ⟨_, .ref σ.nx, _, Nat.le_succ _, eqb_put z.fr, vNew, z.made (s' := { s with heap := h' }) hf hk' rfl z.gens (.of (n := c') hn (hA.imp fun _ _ y => y.mono (le_put z.fresh))), h⟩
end
end
section
structure Foot (env : Env) (cw : Bool) (ρ : Km) (σ : St) (a : Addr) : Prop where
  l : a ≠ env.locals
  c : cw = true → ∀ x c, env.cells.lookup x = some c → c ≠ a
  o : ∀ k sp, fd σ.objs k = some sp → sp.fz = false → ρ k ≠ some a
noncomputable def kx (κ : Kp) (fp : List Addr) (h : Heap) : Kp := fun b => if b ∈ fp then h.get? b else κ b
section
variable {w : World} {os : Og} {env : Env} {cw : Bool} {κ : Kp} {ρ : Km} {σ : St} {s : Shared}
theorem Z.kmore (z : Z w os env cw κ ρ σ s) {fp : List Addr} (hf : ∀ a ∈ fp, Foot env cw ρ σ a) : Z w os env cw (kx κ fp s.heap) ρ σ s where
  top := fun b o e => by
    unfold kx; split
    · exact z.x1 b o e
    · exact z.top b o e
  keep := fun b o e => by
    unfold kx at e; split at e
    · exact e
    · exact z.keep b o e
  ns := z.ns
  lf := by
    unfold kx; split
    · rename_i h; exact absurd rfl (hf _ h).l
    · exact z.lf
  cel := z.cel
  cc := fun x c e => let ⟨h1, h2, h3, h4⟩ := z.cc x c e; ⟨h1, h2, h3, fun hc => by
    unfold kx; split
    · rename_i h; exact absurd rfl ((hf _ h).c hc x c e)
    · exact h4 hc⟩
  ca := z.ca
  obj := fun k sp e => let ⟨a, h1, h2, h3⟩ := z.obj k sp e; ⟨a, h1, h2, fun hz => by
    unfold kx; split
    · rename_i h; exact absurd h1 ((hf _ h).o k sp e hz)
    · exact h3 hz⟩
  lt := z.lt
  inj := z.inj
  os := z.os
  gens := z.gens
theorem Z.kless {κ' : Kp} (z : Z w os env cw κ' ρ σ s) (hk : ∀ b o, κ b = some o → κ' b = some o) (ht : ∀ b o, (X1 w).get? b = some o → κ b = some o) : Z w os env cw κ ρ σ s where
  top := ht
  keep := fun b o e => z.keep b o (hk b o e)
  ns := z.ns
  lf := by
    cases e : κ env.locals with
    | none => rfl
    | some o => have := hk _ o e; rw [z.lf] at this; cases this
  cel := z.cel
  cc := fun x c e => let ⟨h1, h2, h3, h4⟩ := z.cc x c e; ⟨h1, h2, h3, fun hc => by
    cases e : κ c with
    | none => rfl
    | some o => have := hk _ o e; rw [h4 hc] at this; cases this⟩
  ca := z.ca
  obj := fun k sp e => let ⟨a, h1, h2, h3⟩ := z.obj k sp e; ⟨a, h1, h2, fun hz => by
    cases e : κ a with
    | none => rfl
    | some o => have := hk _ o e; rw [h3 hz] at this; cases this⟩
  lt := z.lt
  inj := z.inj
  os := z.os
  gens := z.gens
end
section
variable (w : World) (F : Fm) (n : Nat)
inductive IterP (os : Og) (env : Env) (κ : Kp) (ρ : Km) (b : Nat) (A : Around) (Q : List D → St → Prop) (it : Value) (s₂ : Shared) : Prop
  | mk (ρ' : Km) (ds : List D) (σ' : St) (I : Addr) (fp wr : List Addr) (P : Nat → Value → Prop) (St' : Nat → Heap → Prop) (h1 : it = .ref I) (h2 : b ≤ σ'.nx) (h3 : EqB b κ ρ ρ') (h4 : Z w os env F.cw κ ρ' σ' s₂) (h5 : Walks pw w A I fp wr ds.length P St') (h6 : St' 0 s₂.heap)
    (h7 : ∀ i v, i < ds.length → P i v → ∃ d, ds[i]? = some d ∧ Val ρ' d v) (h8 : ∀ i h, St' i h → ∀ a ∈ fp, ∃ o, h.get? a = some o) (h9 : ∀ a ∈ fp, Foot env F.cw ρ' σ' a) (h10 : ∀ a ∈ wr, Apart env κ ρ' a) (h11 : Q ds σ')
noncomputable def WI (σ : St) (e : Expr) (Q : List D → St → Prop) : Prop :=
  ∀ os env κ ρ s A (E : Value → Shared → Prop), F.Ok env → Z w os env F.cw κ ρ σ s → Room n A → wpAny (model pw w) A (eval e env) (fun x s₁ => wpAny (model pw w) A (pyIter x) (IterP w F os env κ ρ σ.nx A Q) E s₁) E s
noncomputable def Loop (b : Nat) (x : Str) (body : List Stmt) (Q : Fl → St → Prop) : List D → St → Prop
  | [], σ => Q .next σ
  | d :: r, σ => Sto F σ x d (fun σ₁ => WB w F n b σ₁ body (fun fl σ₂ => match fl with
    | .next => Loop b x body Q r σ₂
    | .cont => Loop b x body Q r σ₂
    | .brk => Q .next σ₂
    | .ret d => Q (.ret d) σ₂))
end
section
variable {w : World} {F : Fm} {n b : Nat} {σ : St}
theorem dropAt1 {α : Type} {l : List α} {i : Nat} {d : α} {r : List α} (h : l.drop i = d :: r) : l[i]? = some d ∧ i < l.length ∧ l.drop (i + 1) = r := by
  have h0 : l[i]? = some d := by
    have : (l.drop i)[0]? = some d := by rw [h]; rfl
    rw [List.getElem?_drop] at this; exact this
  exact ⟨h0, (List.getElem?_eq_some_iff.mp h0).1, by rw [← List.drop_drop, h]; rfl⟩
theorem kx_keep {κ : Kp} {fp : List Addr} {h : Heap} (hk : ∀ b o, κ b = some o → h.get? b = some o) : ∀ b o, κ b = some o → kx κ fp h b = some o := fun b o e => by
  unfold kx; split
  · exact hk b o e
  · exact e
theorem kx_in {κ : Kp} {fp : List Addr} {h : Heap} {a : Addr} {o : Obj} (ha : a ∈ fp) (e : h.get? a = some o) : kx κ fp h a = some o := by unfold kx; rw [if_pos ha]; exact e
theorem kx_none {κ : Kp} {fp : List Addr} {h : Heap} (hlive : ∀ a ∈ fp, ∃ o, h.get? a = some o) {a : Addr} (hn : kx κ fp h a = Option.none) : κ a = Option.none ∧ a ∉ fp := by
  by_cases ha : a ∈ fp
  · obtain ⟨o, ho⟩ := hlive a ha
    rw [kx_in ha ho] at hn; cases hn
  · unfold kx at hn; rw [if_neg ha] at hn; exact ⟨hn, ha⟩
theorem nw_kx {κ : Kp} {ρ : Km} {fp : List Addr} {h : Heap} {b : Nat} (e : ∀ k a, b ≤ k → ρ k = some a → κ a = Option.none ∧ a ∉ fp) : Nw b (kx κ fp h) ρ := fun k a hk q => by
  obtain ⟨q1, q2⟩ := e k a hk q
  unfold kx; rw [if_neg q2]; exact q1
theorem foot_next {w : World} {os os' : Og} {env : Env} {cw : Bool} {κ : Kp} {ρ ρ' : Km} {σ σ' : St} {s : Shared} {fp : List Addr} {h : Heap} (hft : ∀ a ∈ fp, Foot env cw ρ σ a) (z : Z w os' env cw (kx κ fp h) ρ' σ' s) (hlive : ∀ a ∈ fp, ∃ o, h.get? a = some o) : ∀ a ∈ fp, Foot env cw ρ' σ' a :=
  fun a ha => ⟨(hft a ha).l, (hft a ha).c, fun k sp e1 e2 e3 => by
    obtain ⟨c, q1, _, q3⟩ := z.obj k sp e1
    rw [e3] at q1; cases q1
    exact (kx_none hlive (q3 e2)).2 ha⟩
theorem apart_next {env : Env} {κ : Kp} {ρ₁ ρ₂ : Km} {fp wr : List Addr} {b : Nat} (hwr : ∀ a ∈ wr, Apart env κ ρ₁ a) (sub : ∀ a ∈ wr, a ∈ fp) (e4 : ∀ k, k < b → ρ₂ k = ρ₁ k) (e5 : ∀ k a, b ≤ k → ρ₂ k = some a → a ∉ fp) : ∀ a ∈ wr, Apart env κ ρ₂ a :=
  fun a ha => ⟨(hwr a ha).k, (hwr a ha).l, (hwr a ha).c, fun k e => by
    by_cases hk : k < b
    · rw [e4 k hk] at e; exact (hwr a ha).r k e
    · exact e5 k a (Nat.le_of_not_lt hk) e (sub a ha)⟩
theorem rest_len {α : Type} {l : List α} {i m : Nat} (h : i + (m + 1) = l.length) : i + 1 + m = l.length := by lia
inductive ForInv {α : Type} (w : World) (F : Fm) (os : Og) (env : Env) (κ : Kp) (ρ₁ : Km) (b₁ : Nat) (ds : List α) (L : List α → St → Prop) (fp : List Addr) (St' : Nat → Shared → Prop) (m : Nat) (s' : Shared) : Prop
  | mk (ρ₂ : Km) (σ₂ : St) (i : Nat) (rest : List α) (h1 : ds.drop i = rest) (h2 : i + rest.length = ds.length) (h3 : m = rest.length) (h4 : L rest σ₂) (h5 : b₁ ≤ σ₂.nx) (h6 : ∀ k, k < b₁ → ρ₂ k = ρ₁ k)
    (h7 : ∀ k a, b₁ ≤ k → ρ₂ k = some a → κ a = Option.none ∧ a ∉ fp) (h8 : Z w os env F.cw κ ρ₂ σ₂ s') (h9 : St' i s') (h10 : ∀ a ∈ fp, Foot env F.cw ρ₂ σ₂ a)
theorem wX_For {x : Str} {px pos : Pos} {iter : Expr} {body : List Stmt} {Q : Fl → St → Prop} (hs : ∀ (env : Env) v, foldedSetIterable iter env v = pure v)
    (h : WI w F n σ iter (fun ds σ₁ => Loop w F n σ₁.nx x body Q ds σ₁)) : WX w F n b σ (.For (.Name x px) iter body [] pos) Q := by
  intro hb os env κ ρ s A E ok z r
  refine wpAny_For (wpAny_mono (h os env κ ρ s A E ok z r) (fun v s₁ h₁ => wpAny_mono h₁ (fun it s₂ h₂ => ?_) fun _ _ x => x) fun _ _ x => x) (hs env)
  obtain ⟨ρ₁, ds, σ₁, I, fp, wr, P, St', rfl, g1, g2, g3, W, g5, g6, g7, g8, g9, g10⟩ := h₂
  have hfin : ∀ {ρ₂ : Km} {σ₂ : St} {s' : Shared} {f : Flow} {fl : Fl}, σ₁.nx ≤ σ₂.nx → EqB σ₁.nx κ ρ₁ ρ₂ → Z w os env F.cw κ ρ₂ σ₂ s' → FlV ρ₂ fl f → Q fl σ₂ → Po w F os env κ ρ b FlV Q f s' := fun k1 k2 k3 k4 k5 =>
    ⟨_, _, _, Nat.le_trans hb (Nat.le_trans g1 k1), (g2.trans k2 g1).less hb, k4, k3, k5⟩
  refine codeAny_forLoop (ForInv w F os env κ ρ₁ σ₁.nx ds (Loop w F n σ₁.nx x body Q) fp (fun i s => St' i s.heap)) ?_ ds.length
    ⟨ρ₁, σ₁, 0, ds, rfl, Nat.zero_add _, rfl, g10, Nat.le_refl _, fun _ _ => rfl, fun k a hk e => absurd (g3.lt k a e).1 (Nat.not_lt.mpr hk), g3, g5, g8⟩
  rintro m s' ⟨ρ₂, σ₂, i, rest, e1, e2, em, hL, e3, e4, e5, z₂, hst, hft⟩
  have eq2 : EqB σ₁.nx κ ρ₁ ρ₂ := ⟨e4, fun _ k a hk e => (e5 k a hk e).1⟩
  have hap : ∀ a ∈ wr, Apart env κ ρ₂ a := apart_next g9 W.sub e4 fun k a hk e => (e5 k a hk e).2
  cases rest with
  | nil =>
    have hi : i = ds.length := e2
    refine W.done s' _ _ (hi ▸ hst) fun h' tk hk => ?_
    have z₃ : Z w os env F.cw κ ρ₂ σ₂ { s' with heap := h', toks := tk } := z₂.grownBut (s' := { s' with heap := h', toks := tk }) hap hk rfl z₂.gens
    exact wpAny_execs_nil (hfin (fl := .next) e3 eq2 z₃ rfl hL)
  | cons d rest =>
    obtain ⟨hdi, hil, hdr⟩ := dropAt1 e1
    refine W.item i s' _ _ hil hst fun v h' tk hP hst' hk => ?_
    have z₃ : Z w os env F.cw κ ρ₂ σ₂ { s' with heap := h', toks := tk } := z₂.grownBut (s' := { s' with heap := h', toks := tk }) hap hk rfl z₂.gens
    obtain ⟨d', hd', hV⟩ := g6 i v hil hP
    rw [hdi] at hd'; cases hd'
    have hV₂ : Val ρ₂ d v := hV.mono fun k a e => (e4 k (g3.lt k a e).1).trans e
    obtain ⟨σ₃, hset, hB⟩ := hL
    refine wpAny_assign_Name (store_ ok (z₃.kmore hft) hV₂ hset fun s₅ z₅ => ?_)
    have hlive := g7 (i + 1) h' hst'
    refine wpAny_mono (hB (hset.nx.symm ▸ e3) os env _ ρ₂ s₅ A _ ok z₅ r) (fun f s₆ h₆ => ?_) fun _ _ x => x
    obtain ⟨ρ₇, fl, σ₇, k1, k2, k3, k4, k5⟩ := h₆
    have e4' : ∀ k, k < σ₁.nx → ρ₇ k = ρ₁ k := fun k hk => (k2.1 k hk).trans (e4 k hk)
    have e5' : ∀ k a, σ₁.nx ≤ k → ρ₇ k = some a → κ a = Option.none ∧ a ∉ fp := fun k a hk e => kx_none hlive (k2.2 (nw_kx e5) k a hk e)
    have z₇ : Z w os env F.cw κ ρ₇ σ₇ s₆ := k4.kless (kx_keep z₃.keep) z₃.top
    have eq7 : EqB σ₁.nx κ ρ₁ ρ₇ := ⟨e4', fun _ k a hk e => (e5' k a hk e).1⟩
    have next : Loop w F n σ₁.nx x body Q rest σ₇ → ∃ m', m' < m ∧ ForInv w F os env κ ρ₁ σ₁.nx ds (Loop w F n σ₁.nx x body Q) fp (fun i s => St' i s.heap) m' s₆ := fun hl =>
      ⟨rest.length, em ▸ Nat.lt_succ_self _, ρ₇, σ₇, i + 1, rest, hdr, rest_len e2, rfl, hl, k1, e4', e5', z₇, W.frame _ _ _ hst' fun a ha o e => k4.keep a o (kx_in ha e), foot_next (os := os) hft k4 hlive⟩
    cases fl with
    | next => cases k3; exact next k5
    | cont => cases k3; exact next k5
    | brk => cases k3; exact hfin (fl := .next) k1 eq7 z₇ rfl k5
    | ret d => obtain ⟨u, rfl, hu⟩ := k3; exact hfin (fl := .ret d) k1 eq7 z₇ ⟨u, rfl, hu⟩ k5
end
end
section
section
variable {w : World} {F : Fm} {n b : Nat} {σ : St}
theorem noneAt {h : Heap} : h.get? h.objs.size = Option.none := by
  cases e : h.get? h.objs.size with
  | none => rfl
  | some o => exact absurd (Heap.lt_size e) (Nat.lt_irrefl _)
theorem Apart.foot {env : Env} {κ : Kp} {ρ : Km} {a : Addr} {cw : Bool} (h : Apart env κ ρ a) : Foot env cw ρ σ a := ⟨h.l, fun _ x c e => h.c x c e, fun k _ _ _ => h.r k⟩
noncomputable def chars (x : Str) : List D := x.cps.toList.map fun c => .str ⟨#[c]⟩
theorem wI_str {e : Expr} {Q : List D → St → Prop} (h : WE w F n σ e (fun d σ₁ => ∃ x, d = .str x ∧ Q (chars x) σ₁)) : WI w F n σ e Q := by
  intro os env κ ρ s A E ok z r
  refine wpAny_mono (h os env κ ρ s A E ok z r) (fun v s₁ h₁ => ?_) fun _ _ x => x
  obtain ⟨ρ₁, d, σ₁, g1, g2, g3, g4, x, rfl, g5⟩ := h₁
  obtain ⟨t, rfl⟩ := g3
  have hI : Apart env κ ρ₁ s₁.heap.objs.size := g4.apart noneAt
  have hl : (chars x).length = x.cps.size := by simp [chars]
  have hP : ∀ i v, i < (chars x).length → SignAt x i v → ∃ d, (chars x)[i]? = some d ∧ Val ρ₁ d v := fun i v _ ⟨c, u, e1, e2⟩ => ⟨.str ⟨#[c]⟩, by simp [chars, e1], u, e2⟩
  cases ha : x.cps.all (· < 128)
  · refine wpAny_pyIter_wide ha ?_
    exact ⟨ρ₁, chars x, σ₁, _, _, _, _, _, rfl, g1, g2, g4.push _, hl ▸ Walks.strWide r.h _ x t, ⟨_, Heap.get?_push_size _ rfl, rfl, rfl⟩, hP,
      fun i h st a hm => by simp at hm; subst hm; exact ⟨_, st.choose_spec.1⟩, fun a hm => by simp at hm; subst hm; exact hI.foot, fun a hm => by simp at hm; subst hm; exact hI, g5⟩
  · refine wpAny_pyIter_ascii ha ?_
    exact ⟨ρ₁, chars x, σ₁, _, _, _, _, _, rfl, g1, g2, g4.push _, hl ▸ Walks.strAscii r.h _ x t, ⟨_, Heap.get?_push_size _ rfl, rfl, rfl⟩, hP,
      fun i h st a hm => by simp at hm; subst hm; exact ⟨_, st.choose_spec.1⟩, fun a hm => by simp at hm; subst hm; exact hI.foot, fun a hm => by simp at hm; subst hm; exact hI, g5⟩
theorem wI_list {e : Expr} {Q : List D → St → Prop} (h : WE w F n σ e (fun d σ₁ => ∃ k sp, d = .ref k ∧ fd σ₁.objs k = some sp ∧ sp.ty = "list" ∧ sp.fz = true ∧ Q sp.ds σ₁)) : WI w F n σ e Q := by
  intro os env κ ρ s A E ok z r
  refine wpAny_mono (h os env κ ρ s A E ok z r) (fun v s₁ h₁ => ?_) fun _ _ x => x
  obtain ⟨ρ₁, d, σ₁, g1, g2, g3, g4, k, sp, rfl, e1, e2, e3, g5⟩ := h₁
  obtain ⟨a, vs, rfl, hr, hl, hA⟩ := g4.list e1 e2 g3
  have hI : Apart env κ ρ₁ s₁.heap.objs.size := g4.apart noneAt
  have hne : a ≠ s₁.heap.objs.size := fun h => hI.r k (h ▸ hr)
  refine wpAny_pyIter_list hl ?_
  have W := Walks.list (prog := pw) (w := w) r.h s₁.heap.objs.size a hne vs.toArray
  rw [show vs.toArray.size = sp.ds.length by rw [List.size_toArray, hA.len]] at W
  refine ⟨ρ₁, sp.ds, σ₁, _, _, _, _, _, rfl, g1, g2, g4.push _, W, ⟨⟨_, Heap.get?_push_size _ rfl, rfl, rfl⟩, hl.push _⟩, ?_, ?_, ?_, ?_, g5⟩
  · intro i v _ hv
    exact hA.get' (by simpa using hv)
  · intro i h st b hm
    simp at hm
    rcases hm with rfl | rfl
    · obtain ⟨o, ho, _⟩ := st.1; exact ⟨o, ho⟩
    · obtain ⟨o, ho, _⟩ := st.2; exact ⟨o, ho⟩
  · intro b hm
    simp at hm
    rcases hm with rfl | rfl
    · exact hI.foot
    · obtain ⟨q1, q2, q3⟩ := g4.lt k b hr
      refine ⟨q2, fun _ x c e h => (g4.cc x c e).2.2.1 k (h ▸ hr), fun j sp' f1 f2 f3 => ?_⟩
      have := g4.inj _ _ _ f3 hr
      subst this
      rw [e1] at f1; cases f1
      rw [e3] at f2; cases f2
  · intro b hm
    simp at hm; subst hm; exact hI
theorem sem_CallT {f : Str} {p pos : Pos} {e : Expr} {rest : List Expr} {T : String} {Q₀ : List D → St → Prop} {os : Og} {env : Env} {κ : Kp} {ρ : Km} {s : Shared} {A : Around} {E : Value → Shared → Prop} {K : Value → Shared → Prop} (ok : F.Ok env) (z : Z w os env F.cw κ ρ σ s) (r : Room n A)
    (hf : WE w F n σ (.Name f p) (fun d σ₁ => d = .glob (.type T) ∧ σ₁ = σ)) (hpl : (e :: rest).all plainE = true) (h : WEs w F n σ pos (e :: rest) Q₀)
    (hK : ∀ ρ₁ ds σ₁ vs s₁, σ.nx ≤ σ₁.nx → EqB σ.nx κ ρ ρ₁ → All2 (Val ρ₁) ds vs → Z w os env F.cw κ ρ₁ σ₁ s₁ → Q₀ ds σ₁ → wpAny (model pw w) A (call (.type T) vs) K E s₁) :
    wpAny (model pw w) A (eval (.Call (.Name f p) (e :: rest) [] pos) env) K E s := by
  refine wpAny_Call_Name_kw (wpAny_mono (hf os env κ ρ s A E ok z r) (fun fv s₁ h₁ => ?_) fun _ _ x => x)
  obtain ⟨ρ₁, d, σ₁, g1, g2, g3, g4, rfl, rfl⟩ := h₁
  cases g3
  have h2 : rest.all plainE = true := by simp only [List.all_cons, Bool.and_eq_true] at hpl; exact hpl.2
  refine PySem.callWith_type (back_plain hpl env pos) ?_
  rw [show backTo pos (starEach (e :: rest) env) = (false, eval e env) :: backTo pos (starEach rest env) by rw [star_plain hpl env, star_plain h2 env]; rfl]
  refine Calls.evalArgs_plain ?_
  rw [show (false, eval e env) :: backTo pos (starEach rest env) = backTo pos (starEach (e :: rest) env) by rw [star_plain hpl env, star_plain h2 env]; rfl]
  refine wpAny_mono (h os env κ ρ₁ s₁ A E ok g4 r) (fun vs s₂ h₂ => ?_) fun _ _ x => x
  obtain ⟨ρ₂, ds, σ₂, k1, k2, k3, k4, k5⟩ := h₂
  exact hK ρ₂ ds σ₂ vs s₂ (Nat.le_trans g1 k1) (g2.trans k2 g1) k3 k4 k5
noncomputable def rangeD (a : Int) (k : Nat) : List D := (List.range k).map fun i => .int (a + (i : Nat))
noncomputable def intD : D → Option Int
  | .int b => some b
  | _ => Option.none
noncomputable def bounds : List D → Option (Int × Int)
  | [] => Option.none
  | d :: r => match r with
    | [] => (intD d).map fun b => (0, b)
    | e :: r => match r with
      | [] => (intD d).bind fun a => (intD e).map fun b => (a, b)
      | _ :: _ => Option.none
theorem intD_is {d : D} {a : Int} (h : intD d = some a) : d = .int a := by
  cases d with
  | int i => exact congrArg D.int (Option.some.inj h)
  | _ => exact nomatch (show (Option.none : Option Int) = some a from h)
noncomputable def okR (a b : Int) : Prop := -1000000 ≤ a ∧ a ≤ 1000000 ∧ -1000000 ≤ b ∧ b ≤ 1000000
theorem okRi {b : Int} (h0 : 0 ≤ b) (h1 : b ≤ 1000000) : okR 0 b := ⟨by decide, by decide, Int.le_trans (by decide) h0, h1⟩
theorem okRj {b : Int} (h0 : 0 ≤ b) (h1 : b ≤ 1000000) : okR 1 b := ⟨by decide, by decide, Int.le_trans (by decide) h0, h1⟩
theorem okR0 {k n : Nat} (hn : n ≤ 1000000) (h : k ≤ n) : okR 0 (k : Int) := okRi (Int.natCast_nonneg k) (Int.ofNat_le.mpr (Nat.le_trans h hn))
theorem okR1 {k n : Nat} (hn : n ≤ 1000000) (h : k ≤ n) : okR 1 (k : Int) := okRj (Int.natCast_nonneg k) (Int.ofNat_le.mpr (Nat.le_trans h hn))
theorem ar_sub0 (k : Nat) : ((k : Int) - 0).toNat = k := by rw [Int.sub_zero, Int.toNat_natCast]
theorem call_range_ {os : Og} {env : Env} {cw : Bool} {κ : Kp} {ρ : Km} {s : Shared} {A : Around} {E : Value → Shared → Prop} {K : Value → Shared → Prop} (z : Z w os env cw κ ρ σ s) {ds : List D} {vs : List Value} {a b : Int} (hb : bounds ds = some (a, b)) (hv : All2 (Val ρ) ds vs)
    (hK : ∀ r t u v s', IsRange s'.heap r a b 1 t u v → Z w os env cw κ ρ σ s' → K (.ref r) s') : wpAny (model pw w) A (call (.type "range") vs) K E s := by
  cases hv with
  | nil => cases hb
  | @cons d v ds vs h1 h2 =>
    cases h2 with
    | nil =>
      obtain ⟨b', e1, e2⟩ := Option.map_eq_some_iff.mp (show (intD d).map (fun b => ((0 : Int), b)) = some (a, b) from hb)
      cases e2
      rw [intD_is e1] at h1
      obtain ⟨t, rfl⟩ := h1
      exact call_range_1 (hK _ _ _ _ _ (IsRange.new ..) ((z.push _).tok _))
    | @cons d' v' ds' vs' h3 h4 =>
      cases h4 with
      | nil =>
        obtain ⟨a', e1, e2⟩ := Option.bind_eq_some_iff.mp (show ((intD d).bind fun a => (intD d').map fun b => (a, b)) = some (a, b) from hb)
        obtain ⟨b', e3, e4⟩ := Option.map_eq_some_iff.mp e2
        cases e4
        rw [intD_is e1] at h1
        rw [intD_is e3] at h3
        obtain ⟨t, rfl⟩ := h1
        obtain ⟨u, rfl⟩ := h3
        exact call_range_2 (hK _ _ _ _ _ (IsRange.new ..) ((z.push _).tok _))
      | cons h5 h6 => exact nomatch (show (Option.none : Option (Int × Int)) = some (a, b) from hb)
theorem size_one (a b : Int) : Builtin.Range.rangeSize a b 1 = ((b - a).toNat : Nat) := by rw [rangeSize_one]; split <;> lia
theorem wI_range {f : Str} {p pos : Pos} {e : Expr} {rest : List Expr} {Q : List D → St → Prop} (hf : WE w F n σ (.Name f p) (fun d σ₁ => d = .glob (.type "range") ∧ σ₁ = σ)) (hpl : (e :: rest).all plainE = true)
    (h : WEs w F n σ pos (e :: rest) (fun ds σ₁ => ∃ a b, bounds ds = some (a, b) ∧ okR a b ∧ Q (rangeD a (b - a).toNat) σ₁)) : WI w F n σ (.Call (.Name f p) (e :: rest) [] pos) Q := by
  intro os env κ ρ s A E ok z r
  refine sem_CallT ok z r hf hpl h fun ρ₁ ds σ₁ vs s₁ g1 g2 g3 g4 ⟨a, b, g5, g6, g7⟩ => ?_
  obtain ⟨o1, o2, o3, o4⟩ := g6
  refine call_range_ g4 g5 g3 fun rr t u v s₂ hr z₂ => ?_
  refine wpAny_pyIter_range hr (small_one (by lia) (by lia) (by lia) (by lia)) ?_
  have hI : Apart env κ ρ₁ s₂.heap.objs.size := z₂.apart noneAt
  have W := Walks.range (prog := pw) (w := w) r.h s₂.heap.objs.size a 1 (b - a).toNat
  rw [← show (rangeD a (b - a).toNat).length = (b - a).toNat by simp [rangeD]] at W
  refine ⟨ρ₁, rangeD a (b - a).toNat, σ₁, _, _, _, _, _, rfl, g1, g2, z₂.push _, W, ?_, ?_, ?_, ?_, ?_, g7⟩
  · rw [size_one]
    show IsRangeIter _ _ _ _ _
    rw [show a + ((0 : Nat) : Int) * 1 = a by simp, show (((rangeD a (b - a).toNat).length : Nat) : Int) - ((0 : Nat) : Int) = ((b - a).toNat : Nat) by simp [rangeD]]
    exact Heap.get?_push_size _ rfl
  · rintro i v hi ⟨t, rfl⟩
    simp only [rangeD, List.length_map, List.length_range] at hi
    exact ⟨.int (a + i), by simp [rangeD, hi], by rw [Int.mul_one]; exact vI⟩
  · intro i h st c hm; simp at hm; subst hm; exact ⟨_, st⟩
  · intro c hm; simp at hm; subst hm; exact hI.foot
  · intro c hm; simp at hm; subst hm; exact hI
end
end
section
noncomputable def relabN (N O : List (Str × NameKind)) : List (Str × NameKind) := N.map fun (n, k) => if (k == .free && O.lookup n == some .cell) then (n, .cell) else (n, k)
noncomputable def celOf (N : List (Str × NameKind)) (l : List (Str × D)) : List (Str × D) := l.filter fun p => decide (N.lookup p.1 = some .free)
theorem lk_celOf {N : List (Str × NameKind)} {l : List (Str × D)} {x : Str} {d : D} (h : lk (celOf N l) x = some d) : lk l x = some d ∧ N.lookup x = some .free := by
  induction l with
  | nil => cases h
  | cons p r ih =>
    obtain ⟨y, e⟩ := p
    simp only [celOf, List.filter_cons] at h
    split at h
    · rename_i hy
      simp only [lk] at h ⊢
      split at h
      · rename_i hx; subst hx; cases h; exact ⟨by simp, of_decide_eq_true hy⟩
      · rename_i hx; rw [if_neg hx]; exact ih h
    · rename_i hy
      obtain ⟨h1, h2⟩ := ih h
      refine ⟨?_, h2⟩
      simp only [lk]
      split
      · rename_i hx; subst hx; exact absurd (decide_eq_true h2) hy
      · exact h1
noncomputable def closL (env : Env) : List (Str × NameKind) → List (Str × Addr) → List (Str × Addr)
  | [], acc => acc
  | (x, k) :: r, acc => closL env r (if k == .free then (x, (env.cells.lookup x).getD 0) :: acc else acc)
theorem closure_is {env : Env} : ∀ (names : List (Str × NameKind)) (acc : List (Str × Addr)), (∀ x, (x, NameKind.free) ∈ names → ∃ c, env.cells.lookup x = some c) →
    (forIn names acc (fun (p : Str × NameKind) cs => do if p.2 == .free then (do let a ← cellOf env p.1; pure (ForInStep.yield ((p.1, a) :: cs))) else pure (ForInStep.yield cs)) : Sem (List (Str × Addr))) = pure (closL env names acc)
  | [], acc, _ => rfl
  | (x, k) :: r, acc, h => by
    rw [List.forIn_cons]
    by_cases hk : k = .free
    · subst hk
      obtain ⟨c, hc⟩ := h x List.mem_cons_self
      have ih := closure_is r ((x, c) :: acc) fun y hy => h y (List.mem_cons_of_mem _ hy)
      simp only [beq_self_eq_true, if_true, cellOf, hc, pure_bind, closL, Option.getD_some]
      exact ih
    · have hk' : (k == NameKind.free) = false := by simpa using hk
      have ih := closure_is r acc fun y hy => h y (List.mem_cons_of_mem _ hy)
      simp only [hk', Bool.false_eq_true, if_false, pure_bind, closL]
      exact ih
theorem closureFor_is {scope : Scope} {env : Env} (h : ∀ x, (x, NameKind.free) ∈ scope.names → ∃ c, env.cells.lookup x = some c) : closureFor scope env = pure (closL env scope.names []) := by
  have := closure_is (env := env) scope.names [] h
  exact congrArg (fun m => m >>= fun cs => (pure cs : Sem (List (Str × Addr)))) this
theorem closL_ok {env : Env} : ∀ (names : List (Str × NameKind)) (acc : List (Str × Addr)), (∀ x, (x, NameKind.free) ∈ names → ∃ c, env.cells.lookup x = some c) → (∀ x c, acc.lookup x = some c → env.cells.lookup x = some c) →
    (∀ x c, (closL env names acc).lookup x = some c → env.cells.lookup x = some c) ∧ (∀ x, ((x, NameKind.free) ∈ names ∨ ∃ c, acc.lookup x = some c) → ∃ c, (closL env names acc).lookup x = some c)
  | [], acc, _, h2 => ⟨h2, fun x h => h.resolve_left (fun h => nomatch h)⟩
  | (y, k) :: r, acc, h, h2 => by
    by_cases hk : k = .free
    · subst hk
      obtain ⟨c, hc⟩ := h y List.mem_cons_self
      have h2' : ∀ x d, ((y, c) :: acc).lookup x = some d → env.cells.lookup x = some d := fun x d e => by
        rw [List.lookup_cons] at e
        cases hb : x == y with
        | true => rw [hb] at e; cases e; rw [beq_iff_eq.mp hb]; exact hc
        | false => rw [hb] at e; exact h2 x d e
      have ih := closL_ok r ((y, c) :: acc) (fun x hx => h x (List.mem_cons_of_mem _ hx)) h2'
      have e : closL env ((y, NameKind.free) :: r) acc = closL env r ((y, c) :: acc) := by simp [closL, hc]
      rw [e]
      refine ⟨ih.1, fun x hx => ih.2 x ?_⟩
      rcases hx with hx | ⟨d, hx⟩
      · rcases List.mem_cons.mp hx with e | hx
        · cases e; exact .inr ⟨c, by simp⟩
        · exact .inl hx
      · right
        rw [List.lookup_cons]
        cases hb : x == y with
        | true => exact ⟨c, rfl⟩
        | false => exact ⟨d, hx⟩
    · have hk' : (k == NameKind.free) = false := by simpa using hk
      have ih := closL_ok r acc (fun x hx => h x (List.mem_cons_of_mem _ hx)) h2
      have e : closL env ((y, k) :: r) acc = closL env r acc := by simp [closL, hk']
      rw [e]
      refine ⟨ih.1, fun x hx => ih.2 x ?_⟩
      rcases hx with hx | hx
      · rcases List.mem_cons.mp hx with e | hx
        · cases e; exact absurd rfl hk
        · exact .inl hx
      · exact .inr hx
end
section
noncomputable def CLoop (w : World) (F : Fm) (n : Nat) (b : Nat) (x : Str) (elt : Expr) (K : List D → St → Prop) : List D → List D → St → Prop
  | [], acc, σ => K acc σ
  | d :: r, acc, σ => b ≤ σ.nx ∧ WE w F n { σ with loc := setl σ.loc x d } elt (fun y σ₂ => CLoop w F n b x elt K r (acc ++ [y]) σ₂)
noncomputable def CEnd (σ₁ : St) (Q : D → St → Prop) : List D → St → Prop := fun acc σe => ∃ new, (∃ old, σe.objs = new ++ old) ∧ newOk σ₁.nx σe.nx new = true ∧ acc.all (cld σ₁.nx new) = true ∧ acc.length ≤ sizeLine ∧ σ₁.nx ≤ σe.nx ∧
  Mk { σ₁ with objs := new ++ σ₁.objs, nx := σe.nx } ⟨"list", acc, false, true⟩ Q
noncomputable def fmC (N O : List (Str × NameKind)) : Fm := ⟨relabN N O, false⟩
section
variable {w : World} {n b : Nat}
inductive CInv {α : Type} (w : World) (F' : Fm) (os : Og) (cenv : Env) (κ₀ : Kp) (ρ₁ : Km) (b₁ : Nat) (ds : List α) (L : List α → List D → St → Prop) (fp : List Addr) (Dd : Addr) (St' : Nat → Heap → Prop) (m : Nat) (s' : Shared) : Prop
  | mk (ρ₂ : Km) (σ₂ : St) (i : Nat) (rest : List α) (acc : List D) (vals : List Value) (h1 : ds.drop i = rest) (h2 : i + rest.length = ds.length) (h3 : m = rest.length) (h4 : L rest acc σ₂) (h5 : ∀ k, k < b₁ → ρ₂ k = ρ₁ k)
    (h6 : ∀ k a, b₁ ≤ k → ρ₂ k = some a → a ∉ fp ∧ a ≠ Dd) (h7 : Z w os cenv false κ₀ ρ₂ σ₂ s') (h8 : St' i s'.heap) (h9 : s'.heap.PlainList Dd vals.toArray) (h10 : All2 (Val ρ₂) acc vals) (h11 : acc.length = i) (h12 : ∀ k sp a, fd σ₂.objs k = some sp → sp.fz = false → ρ₂ k = some a → a ∉ fp ∧ a ≠ Dd)
theorem in_cons {fp : List Addr} {Dd : Addr} {P : Addr → Prop} (h : P Dd) (h' : ∀ a ∈ fp, P a) : ∀ a ∈ (Dd :: fp), P a := fun a ha => by
  rcases List.mem_cons.mp ha with rfl | ha
  · exact h
  · exact h' a ha
theorem not_cons {fp : List Addr} {Dd a : Addr} (h : a ∉ (Dd :: fp)) : a ∉ fp ∧ a ≠ Dd := ⟨fun q => h (List.mem_cons_of_mem _ q), fun q => h (q ▸ List.mem_cons_self)⟩
theorem dr_next {ρ₁ ρ₂ : Km} {b : Nat} {Dd : Addr} {fp : List Addr} (hD : ∀ k, ρ₁ k ≠ some Dd) (e4 : ∀ k, k < b → ρ₂ k = ρ₁ k) (e5 : ∀ k a, b ≤ k → ρ₂ k = some a → a ∉ fp ∧ a ≠ Dd) : ∀ k, ρ₂ k ≠ some Dd := fun k e => by
  by_cases hk : k < b
  · rw [e4 k hk] at e; exact hD k e
  · exact (e5 k Dd (Nat.le_of_not_lt hk) e).2 rfl
theorem comp_loop {F' : Fm} {b₁ : Nat} {cenv : Env} {A : Around} {os : Og} {x : Str} {px pos : Pos} {elt iter : Expr} {scope : Scope} {I Dd : Addr} {fp wr : List Addr} {P : Nat → Value → Prop} {St' : Nat → Heap → Prop} {ds : List D} {κ₀ : Kp} {ρ₁ : Km} {σc : St} {s : Shared} {RR : Result → Shared → Prop} {K : List D → St → Prop}
    (ok : F'.Ok cenv) (hcw : F'.cw = false) (r : Room n A) (W : Walks pw w A I fp wr ds.length P St') (hx : F'.names.lookup x = some .local)
    (z : Z w os cenv false κ₀ ρ₁ σc s) (hb : b₁ = σc.nx) (hst : St' 0 s.heap) (hacc : s.heap.PlainList Dd #[]) (hlen : ds.length ≤ sizeLine)
    (hP : ∀ i v, i < ds.length → P i v → ∃ d, ds[i]? = some d ∧ Val ρ₁ d v) (hlive : ∀ i h, St' i h → ∀ a ∈ fp, ∃ o, h.get? a = some o)
    (hfp : ∀ a ∈ fp, a ≠ cenv.locals ∧ a ≠ Dd) (hwr : ∀ a ∈ wr, Apart cenv κ₀ ρ₁ a) (hD : Apart cenv κ₀ ρ₁ Dd) (hfz : ∀ k sp, fd σc.objs k = some sp → sp.fz = true)
    (hL : CLoop w F' n b₁ x elt K ds [] σc)
    (hR : ∀ s' ρe σe acc vals, Z w os cenv false κ₀ ρe σe s' → s'.heap.PlainList Dd vals.toArray → All2 (Val ρe) acc vals → K acc σe → (∀ k, k < b₁ → ρe k = ρ₁ k) → (∀ k, ρe k ≠ some Dd) → RR (.ok .next) s') :
    codeAny (model pw w) A (.compLoop (.ListComp elt [⟨.Name x px, iter, [], 0⟩] scope pos) 0 (.ref I) (.ref Dd) cenv) RR s := by
  refine codeAny_compLoop_list (CInv w F' os cenv κ₀ ρ₁ b₁ ds (CLoop w F' n b₁ x elt K) fp Dd St') ?_ ds.length
    ⟨ρ₁, σc, 0, ds, [], [], rfl, Nat.zero_add _, rfl, hL, fun _ _ => rfl, fun k a hk e => absurd (z.lt k a e).1 (Nat.not_lt.mpr (hb ▸ hk)), z, hst, hacc, .nil, rfl, fun k sp a e1 e2 _ => by rw [hfz k sp e1] at e2; cases e2⟩
  rintro m s' ⟨ρ₂, σ₂, i, rest, acc, vals, e1, e2, em, hL, e4, e5, z₂, hst, hacc, hA, hai, hunf⟩
  have hap : ∀ a ∈ wr, Apart cenv κ₀ ρ₂ a := apart_next hwr W.sub e4 fun k a hk e => (e5 k a hk e).1
  have hDw : Dd ∉ wr := fun h => (hfp _ (W.sub _ h)).2 rfl
  cases rest with
  | nil =>
    have hi : i = ds.length := e2
    refine W.done s' _ _ (hi ▸ hst) fun h' tk hk => ?_
    have z₃ : Z w os cenv false κ₀ ρ₂ σ₂ { s' with heap := h', toks := tk } := z₂.grownBut (s' := { s' with heap := h', toks := tk }) hap hk rfl z₂.gens
    exact hR _ ρ₂ σ₂ acc vals z₃ (hacc.at fun o e => hk Dd o hDw e) hA hL e4 (dr_next hD.r e4 e5)
  | cons d rest =>
    obtain ⟨hdi, hil, hdr⟩ := dropAt1 e1
    refine W.item i s' _ _ hil hst fun v h' tk hPv hst' hk => ?_
    have z₃ : Z w os cenv false κ₀ ρ₂ σ₂ { s' with heap := h', toks := tk } := z₂.grownBut (s' := { s' with heap := h', toks := tk }) hap hk rfl z₂.gens
    obtain ⟨d', hd', hV⟩ := hP i v hil hPv
    rw [hdi] at hd'; cases hd'
    have hV₂ : Val ρ₂ d v := hV.mono fun k a e => (e4 k (hb ▸ (z.lt k a e).1)).trans e
    have hft : ∀ a ∈ (Dd :: fp), Foot cenv false ρ₂ σ₂ a :=
      in_cons ⟨hD.l, (fun h => nomatch h), fun k sp q1 q2 q3 => (hunf k sp Dd q1 q2 q3).2 rfl⟩ fun a ha => ⟨(hfp a ha).1, (fun h => nomatch h), fun k sp q1 q2 q3 => (hunf k sp a q1 q2 q3).1 ha⟩
    obtain ⟨hnx, hB⟩ := hL
    have hset : SetTo F' σ₂ x d { σ₂ with loc := setl σ₂.loc x d } := .inl ⟨hx, rfl⟩
    have z₄' : Z w os cenv F'.cw (kx κ₀ (Dd :: fp) h') ρ₂ σ₂ { s' with heap := h', toks := tk } := by rw [hcw]; exact z₃.kmore hft
    refine wpAny_assign_Name (store_ ok z₄' hV₂ hset fun s₅ z₅ => ?_)
    refine wpAny_mono (hB os cenv _ ρ₂ s₅ A _ ok z₅ r) (fun y s₆ h₆ => ?_) fun _ _ x => x
    obtain ⟨ρ₇, yd, σ₇, k1, k2, k3, k4, k5⟩ := h₆
    rw [hcw] at k4
    have hlive' : ∀ a ∈ (Dd :: fp), ∃ o, h'.get? a = some o :=
      in_cons (by obtain ⟨q, hq⟩ := hacc; exact ⟨_, hk _ _ hDw hq⟩) (hlive (i + 1) h' hst')
    have e4' : ∀ k, k < b₁ → ρ₇ k = ρ₁ k := fun k hk => (k2.1 k (Nat.lt_of_lt_of_le hk hnx)).trans (e4 k hk)
    have hnw : Nw σ₂.nx (kx κ₀ (Dd :: fp) h') ρ₇ := k2.2 fun k a hk e => absurd (z₂.lt k a e).1 (Nat.not_lt.mpr hk)
    have e5' : ∀ k a, b₁ ≤ k → ρ₇ k = some a → a ∉ fp ∧ a ≠ Dd := fun k a hk e => by
      by_cases h2 : k < σ₂.nx
      · exact e5 k a hk ((k2.1 k h2).symm.trans e)
      · exact not_cons (kx_none hlive' (hnw k a (Nat.le_of_not_lt h2) e)).2
    have z₇ : Z w os cenv false κ₀ ρ₇ σ₇ s₆ := k4.kless (kx_keep z₃.keep) z₃.top
    have hst7 : St' (i + 1) s₆.heap := W.frame _ _ _ hst' fun a ha o e => k4.keep a o (kx_in (List.mem_cons_of_mem _ ha) e)
    have hacc7 : s₆.heap.PlainList Dd vals.toArray := (hacc.at fun o e => hk Dd o hDw e).at fun o e => k4.keep Dd o (kx_in List.mem_cons_self e)
    have hA7 : All2 (Val ρ₇) acc vals := hA.imp fun _ _ y => y.mono fun k a e => (k2.1 k (z₂.lt k a e).1).trans e
    have hDr7 := dr_next hD.r e4' e5'
    refine wpAny_list_append_plain hacc7 (fun h₈ hl₈ hs₈ => ?_) (by rw [List.size_toArray, ← hA.len, hai]; exact Nat.le_trans (Nat.le_of_lt hil) hlen)
    have z₈ : Z w os cenv false κ₀ ρ₇ σ₇ { s₆ with heap := h₈ } := z₇.grownBut (s' := { s₆ with heap := h₈ }) (wr := [Dd]) (in_cons ⟨hD.k, hD.l, hD.c, hDr7⟩ fun _ h => nomatch h) (fun b o hb e => hs₈.extBut b o (fun h => hb (h ▸ List.mem_cons_self)) e) rfl z₇.gens
    refine ⟨rest.length, em ▸ Nat.lt_succ_self _, ρ₇, σ₇, i + 1, rest, acc ++ [yd], vals ++ [y], hdr, rest_len e2, rfl, k5, e4', e5', z₈, W.frame _ _ _ hst7 fun a ha o e => hs₈.extBut a o (hfp a ha).2 e, ?_, hA7.append (.cons k3 .nil), by rw [List.length_append, hai]; rfl, fun k sp a q1 q2 q3 => ?_⟩
    · rw [← List.push_toArray]; exact hl₈
    · obtain ⟨c, p1, _, p3⟩ := k4.obj k sp q1
      rw [q3] at p1; cases p1
      exact not_cons (kx_none hlive' (p3 q2)).2
end
end
section
noncomputable def compOk (N O : List (Str × NameKind)) (x : Str) : Bool := (N.all fun p => p.2 != .cell && (p.2 != .local || decide (N.lookup p.1 = some .local)) && (p.2 != .free || decide (O.lookup p.1 = some .cell))) && decide (N.lookup x = some .local)
section
variable {w : World} {F : Fm} {n b : Nat} {σ : St}
theorem relabel_names {scope : Scope} {env : Env} (ok : F.Ok env) : (relabel scope env).names = relabN scope.names F.names := by
  unfold relabel relabN Env.kindOf
  simp only [ok.kind, ok.names, beq_self_eq_true, Bool.and_true]
theorem comp_core {elt iter : Expr} {x : Str} {px : Pos} {scope : Scope} {pos : Pos} {Q : D → St → Prop} {use : Option (Value → Sem Unit)} {Post : Value → Shared → Prop}
    {os : Og} {env : Env} {κ : Kp} {ρ : Km} {s : Shared} {A : Around} {E : Value → Shared → Prop} (ok : F.Ok env) (z : Z w os env F.cw κ ρ σ s) (r : Room n A) (hcw : F.cw = true) (hkind : scope.kind = .function) (hc : compOk scope.names F.names x = true)
    (hs : ∀ v, foldedSetIterable iter env v = pure v)
    (h : WI w F n σ iter (fun ds σ₁ => ds.length ≤ sizeLine ∧ CLoop w (fmC scope.names F.names) n σ₁.nx x elt (CEnd σ₁ Q) ds [] ⟨[], celOf scope.names σ₁.cel, freezeAll σ₁.objs, σ₁.nx⟩))
    (hF : ∀ ρ'' σ'' C Dd k s' m, σ.nx ≤ σ''.nx → EqB σ.nx κ ρ ρ'' → Z w os env F.cw κ ρ'' σ'' s' → Val ρ'' k (.ref Dd) → Apart env κ ρ'' C → s'.heap.Ns C m → Q k σ'' → compPost (model pw w) A E use Post (.ref Dd) C (.ok .next) s') :
    wpAny (model pw w) A (comprehension (.ListComp elt [⟨.Name x px, iter, [], 0⟩] scope pos) scope env (firstIterPos [⟨.Name x px, iter, [], 0⟩] pos) (newList []) false (eval iter env) use) Post E s := by
  simp only [compOk, Bool.and_eq_true] at hc
  obtain ⟨hN, hx⟩ := hc
  have hx := of_decide_eq_true hx
  have hN' : ∀ y ∈ scope.names, y.2 ≠ .cell ∧ (y.2 = .local → scope.names.lookup y.1 = some .local) ∧ (y.2 = .free → F.names.lookup y.1 = some .cell) := fun y hy => by
    have := List.all_eq_true.mp hN y hy
    simp only [Bool.and_eq_true, Bool.or_eq_true, bne_iff_ne, ne_eq, decide_eq_true_eq] at this
    exact ⟨this.1.1, fun h => (this.1.2.resolve_left fun q => q h), fun h => (this.2.resolve_left fun q => q h)⟩
  have hfree : ∀ y, (y, NameKind.free) ∈ scope.names → ∃ c, env.cells.lookup y = some c := fun y hy => ok.cells hcw y ((hN' _ hy).2.2 rfl)
  have hcl := closL_ok scope.names [] hfree (fun _ _ e => nomatch e)
  refine wpAny_comprehension_free (use := use) rfl hs (closureFor_is hfree) hkind (fun y hy h => (hN' y hy).2.1 h) ?_
  refine wpAny_mono (h os env κ ρ s A E ok z r) (fun v s₁ h₁ => wpAny_mono h₁ (fun it s₂ h₂ => ?_) fun _ _ x => x) fun _ _ x => x
  obtain ⟨ρ₁, ds, σ₁, I, fp, wr, P, St', rfl, g1, g2, z₂, W, hst, hP, hlive, hfoot, hwr, hlen, hL⟩ := h₂
  refine wpAny_newObj_type (wpAny_newFunctionEnv (fun y hy => (hN' y hy).1) (by intro y hy; simp at hy) (fun h₁ hns₁ hsb₁ => ?_) hkind)
  dsimp only at hns₁ hsb₁ ⊢
  generalize hH2 : s₂.heap.push { cls := .type "list", dict := none, data := .seq ([] : List Value).toArray } = H2 at hns₁ hsb₁ ⊢
  have hC : H2.objs.size = s₂.heap.objs.size + 1 := by rw [← hH2, Heap.size_push]
  have hDC : s₂.heap.objs.size ≠ H2.objs.size := by rw [hC]; exact Nat.ne_of_lt (Nat.lt_succ_self _)
  have fresh : ∀ a, s₂.heap.objs.size ≤ a → s₂.heap.get? a = Option.none := fun a ha => by
    cases e : s₂.heap.get? a with
    | none => rfl
    | some o' => exact absurd (Heap.lt_size e) (Nat.not_lt.mpr ha)
  have hCf : s₂.heap.get? H2.objs.size = Option.none := fresh _ (by rw [hC]; exact Nat.le_succ _)
  have old : ∀ b o, s₂.heap.get? b = some o → h₁.get? b = some o := fun b o e => hsb₁.extBut b o (fun h => by rw [h, hCf] at e; cases e) (Heap.get?_push_of_some _ (hH2 ▸ Heap.get?_push_of_some _ e))
  have hacc : h₁.PlainList s₂.heap.objs.size #[] := ⟨_, hsb₁.extBut _ _ hDC (Heap.get?_push_of_some _ (hH2 ▸ Heap.get?_push_size _ rfl))⟩
  let κ₀ : Kp := fun b => if b ∈ wr then Option.none else s₂.heap.get? b
  have hκ : ∀ b o, κ b = some o → κ₀ b = some o := fun b o e => by
    simp only [κ₀]
    split
    · rename_i hb; rw [(hwr b hb).k] at e; cases e
    · exact z₂.keep b o e
  have hκn : ∀ {b}, s₂.heap.get? b = Option.none → κ₀ b = Option.none := fun {b} e => by simp only [κ₀]; split <;> first | rfl | exact e
  let cenv : Env := compEnvC scope (closL env scope.names []) H2.objs.size env
  have okc : (fmC scope.names F.names).Ok cenv := ⟨relabel_names ok, hkind, ok.globals, ok.builtins, fun h => nomatch h⟩
  have hlook : ∀ y c, cenv.cells.lookup y = some c → env.cells.lookup y = some c := hcl.1
  have zc : ∀ s₃ : Shared, s₃ = { s₂ with heap := h₁, toks := s₂.toks + ([] : List (Str × Value)).length } → Z w os cenv false κ₀ ρ₁ ⟨[], celOf scope.names σ₁.cel, freezeAll σ₁.objs, σ₁.nx⟩ s₃ := by
    rintro s₃ rfl
    refine ⟨fun b o e => hκ b o (z₂.top b o e), fun b o e => ?_, ⟨_, hns₁, fun _ _ e => nomatch e⟩, hκn hCf, ?_, ?_, fun y y' c e e' => z₂.ca y y' c (hlook _ _ e) (hlook _ _ e'), ?_, ?_, z₂.inj, z₂.os, z₂.gens⟩
    · simp only [κ₀] at e
      split at e
      · cases e
      · exact old b o e
    · intro y d e
      obtain ⟨q1, q2⟩ := lk_celOf e
      obtain ⟨c, v, p1, p2, p3⟩ := z₂.cel y d q1
      obtain ⟨c', hc'⟩ := hcl.2 y (.inl (mem_of_lookup q2))
      have := hlook y c' hc'
      rw [p1] at this; cases this
      exact ⟨c, v, hc', p2.keeps old, p3⟩
    · intro y c e
      obtain ⟨⟨o, q1⟩, q2, q3, _⟩ := z₂.cc y c (hlook y c e)
      refine ⟨⟨o, q1.keeps old⟩, fun h => ?_, q3, fun h => nomatch h⟩
      obtain ⟨o', q4, _⟩ := q1
      rw [show c = H2.objs.size from h, hCf] at q4; cases q4
    · intro k sp e
      have e : fd (freezeAll σ₁.objs) k = some sp := e
      rw [fd_freeze] at e
      obtain ⟨sp', e1, rfl⟩ := Option.map_eq_some_iff.mp e
      obtain ⟨a, q1, q2, _⟩ := z₂.obj k sp' e1
      exact ⟨a, q1, (q2.mono Le.rfl' (fun o => old a o)).fr true, fun h => nomatch h⟩
    · intro k a e
      obtain ⟨q1, q2, o, q3⟩ := z₂.lt k a e
      refine ⟨q1, fun h => ?_, o, old _ _ q3⟩
      rw [show a = H2.objs.size from h, hCf] at q3; cases q3
  have apart2 : ∀ a, κ₀ a = Option.none → (∀ k, ρ₁ k ≠ some a) ∧ κ a = Option.none ∧ a ≠ env.locals ∧ ∀ x c, env.cells.lookup x = some c → c ≠ a := fun a e => by
    by_cases ha : a ∈ wr
    · exact ⟨(hwr a ha).r, (hwr a ha).k, (hwr a ha).l, (hwr a ha).c⟩
    · simp only [κ₀, if_neg ha] at e
      have := z₂.apart e
      exact ⟨this.r, this.k, this.l, this.c⟩
  have hD0 : s₂.heap.get? s₂.heap.objs.size = Option.none := fresh _ (Nat.le_refl _)
  have hDa := z₂.apart hD0
  have hCa := z₂.apart hCf
  have hlivefp : ∀ a ∈ fp, ∃ o, s₂.heap.get? a = some o := hlive 0 _ hst
  have loop : ∀ s₃ : Shared, s₃ = { s₂ with heap := h₁, toks := s₂.toks + ([] : List (Str × Value)).length } →
      codeAny (model pw w) A (.compLoop (.ListComp elt [⟨.Name x px, iter, [], 0⟩] scope pos) 0 (.ref I) (.ref s₂.heap.objs.size) cenv) (compPost (model pw w) A E use Post (.ref s₂.heap.objs.size) H2.objs.size) s₃ := by
    intro s₃ e3
    have z₃ := zc s₃ e3
    subst e3
    refine comp_loop (F' := fmC scope.names F.names) (b₁ := σ₁.nx) (K := CEnd σ₁ Q) okc rfl r W ?_ z₃ rfl (W.frame _ _ _ hst fun a _ o e => old a o e) hacc hlen hP hlive ?_ ?_ ?_ ?_ hL ?_
    · show (relabN scope.names F.names).lookup x = _
      rw [← relabel_names ok]; exact lookup_relabel_local hx
    · intro a ha
      obtain ⟨o, ho⟩ := hlivefp a ha
      refine ⟨fun h => ?_, fun h => ?_⟩
      · rw [show a = H2.objs.size from h, hCf] at ho; cases ho
      · rw [h, hD0] at ho; cases ho
    · intro a ha
      refine ⟨by simp only [κ₀, if_pos ha], fun h => ?_, fun y c e => (hwr a ha).c y c (hlook y c e), (hwr a ha).r⟩
      obtain ⟨o, ho⟩ := hlivefp a (W.sub a ha)
      rw [show a = H2.objs.size from h, hCf] at ho; cases ho
    · exact ⟨hκn hD0, hDC, fun y c e => hDa.c y c (hlook y c e), hDa.r⟩
    · intro k sp e
      have e : fd (freezeAll σ₁.objs) k = some sp := e
      rw [fd_freeze] at e
      obtain ⟨sp', e1, rfl⟩ := Option.map_eq_some_iff.mp e
      rfl
    · intro s' ρe σe acc vals ze hpl hA hK he hDe
      obtain ⟨new, ⟨oldo, ho⟩, hnew, hcl', hal, hnx, hQ⟩ := hK
      have zo : Z w os env F.cw κ ρ₁ σ₁ s' := z₂.grownBut (wr := wr) hwr (fun b o hb e => ze.keep b o (by simp only [κ₀, if_neg hb]; exact e)) (ze.os.trans z₂.os.symm) ze.gens
      obtain ⟨ρ'', j1, j2, j3, j4⟩ := zo.join ze apart2 he hnx ho hnew
      have hvals : ∀ {acc : List D} {vals : List Value}, All2 (Val ρe) acc vals → acc.all (cld σ₁.nx new) = true → All2 (Val ρ'') acc vals := by
        intro acc vals h
        induction h with
        | nil => intro _; exact .nil
        | cons h1 _ ih =>
          intro h
          simp only [List.all_cons, Bool.and_eq_true] at h
          exact .cons (j3 _ _ h.1 h1) (ih h.2)
      have hD2 : Apart env κ ρ'' s₂.heap.objs.size := ⟨hDa.k, hDa.l, hDa.c, fun k e => hDe k (j2 _ _ e)⟩
      have hC2 : ∀ k, ρ'' k ≠ some H2.objs.size := fun k e => (ze.lt k _ (j2 _ _ e)).2.1 rfl
      obtain ⟨q, hq⟩ := hpl
      have zz := j4.made' (a := s₂.heap.objs.size) (sp := ⟨"list", acc, false, true⟩) hD2 (.of (n := q) (by rw [hq]; rfl) ((hvals hA hcl').imp fun _ _ y => y.mono (le_put j4.fresh)))
      obtain ⟨m, hm, _⟩ := ze.ns
      refine hF _ _ H2.objs.size _ (.ref σe.nx) s' m ?_ ?_ zz vNew ⟨hCa.k, hCa.l, hCa.c, fun k e => ?_⟩ hm hQ
      · exact Nat.le_trans g1 (Nat.le_trans hnx (Nat.le_succ _))
      · exact (g2.trans j1 g1).trans (eqb_put hDa.k) (Nat.le_trans g1 hnx)
      · unfold put at e
        split at e
        · exact hDC (Option.some.inj e)
        · exact hC2 k e
  exact codeAny_compStart_list (loop _ rfl) (W.self 0 _ _ _ (W.frame _ _ _ hst fun a _ o e => old a o e) (loop _ rfl))
theorem wE_Comp {elt iter : Expr} {x : Str} {px : Pos} {scope : Scope} {pos : Pos} {Q : D → St → Prop} (hcw : F.cw = true) (hkind : scope.kind = .function) (hc : compOk scope.names F.names x = true) (hs : ∀ (env : Env) v, foldedSetIterable iter env v = pure v)
    (h : WI w F n σ iter (fun ds σ₁ => ds.length ≤ sizeLine ∧ CLoop w (fmC scope.names F.names) n σ₁.nx x elt (CEnd σ₁ Q) ds [] ⟨[], celOf scope.names σ₁.cel, freezeAll σ₁.objs, σ₁.nx⟩)) :
    WE w F n σ (.ListComp elt [⟨.Name x px, iter, [], 0⟩] scope pos) Q := by
  intro os env κ ρ s A E ok z r
  show wpAny _ _ (eval _ env) _ _ _
  rw [eval_ListComp]
  refine comp_core (use := none) ok z r hcw hkind hc (hs env) h fun ρ'' σ'' C Dd k s' m g1 g2 g3 g4 g5 g6 g7 => ?_
  refine ⟨m, g6, fun h' hs' => ⟨ρ'', k, σ'', g1, g2, g4, ?_, g7⟩⟩
  exact g3.grownBut (s' := { s' with heap := h' }) (wr := [C]) (fun a ha => by simp at ha; subst ha; exact g5) (fun b o hb e => hs'.extBut b o (fun h => hb (by simp [h])) e) rfl g3.gens
theorem wX_AssignComp {y : Str} {py spos : Pos} {elt iter : Expr} {x : Str} {px : Pos} {scope : Scope} {pos : Pos} {Q : Fl → St → Prop} (hsw : ∀ env, F.Ok env → swapsWith (.ListComp elt [⟨.Name x px, iter, [], 0⟩] scope pos) (some (.Name y py)) spos.line env = pure true)
    (hcw : F.cw = true) (hkind : scope.kind = .function) (hc : compOk scope.names F.names x = true) (hs : ∀ (env : Env) v, foldedSetIterable iter env v = pure v)
    (h : WI w F n σ iter (fun ds σ₁ => ds.length ≤ sizeLine ∧ CLoop w (fmC scope.names F.names) n σ₁.nx x elt (CEnd σ₁ (fun d σ₂ => Sto F σ₂ y d (Q .next))) ds [] ⟨[], celOf scope.names σ₁.cel, freezeAll σ₁.objs, σ₁.nx⟩)) :
    WX w F n b σ (.Assign [.Name y py] (.ListComp elt [⟨.Name x px, iter, [], 0⟩] scope pos) spos) Q := by
  intro hb os env κ ρ s A E ok z r
  show wpAny _ _ (exec _ env) _ _ _
  rw [exec_Assign_Name_used _ _ _ _ (hsw env ok)]
  refine wpAny_bind (wpAny_standAt (wpAny_bind ?_))
  show wpAny _ A (do let _ ← comprehension (.ListComp elt [⟨.Name x px, iter, [], 0⟩] scope pos) scope env _ (newList []) false (eval iter env) (some (assign (.Name y py) env))) _ _ s
  refine wpAny_bind (wpAny_mono (comp_core (use := some (assign (.Name y py) env)) (Post := fun _ s' => Po w F os env κ ρ b FlV Q .next s') ok z r hcw hkind hc (hs env) h fun ρ'' σ'' C Dd k s' m g1 g2 g3 g4 g5 g6 g7 => ?_) (fun _ s' hq => wpAny_pure (wpAny_pure hq)) fun _ _ e => e)
  obtain ⟨σ₃, hset, hq⟩ := g7
  show wpAny _ A (assign (.Name y py) env (.ref Dd)) _ _ _
  obtain ⟨oC, eC, epC, hoC, rC⟩ := g6
  have zk := g3.kmore (fp := [C]) (fun a ha => by simp at ha; subst ha; exact g5.foot)
  refine wpAny_assign_Name (store_ ok zk g4 hset fun s₄ z₄ => ?_)
  have hC4 : s₄.heap.get? C = some oC := z₄.keep C oC (by unfold kx; rw [if_pos (by simp)]; exact hoC)
  refine ⟨m, ⟨oC, eC, epC, hC4, rC⟩, fun h' hs' => ?_⟩
  have z₅ : Z w os env F.cw κ ρ'' σ₃ s₄ := z₄.kless (fun b o e => by
    unfold kx; split
    · exact g3.keep b o e
    · exact e) g3.top
  exact ⟨ρ'', .next, σ₃, by rw [hset.nx]; exact Nat.le_trans hb g1, g2.less hb, rfl,
    z₅.grownBut (s' := { s₄ with heap := h' }) (wr := [C]) (fun a ha => by simp at ha; subst ha; exact g5) (fun b o hb e => hs'.extBut b o (fun h => hb (by simp [h])) e) rfl z₅.gens, hq⟩
end
end
section
section
variable {w : World} {F : Fm} {n b : Nat} {σ : St}
theorem all2_of {ρ : Km} : ∀ {ds : List D} {vs : List Value}, ds.length = vs.length → (∀ (i : Nat) d v, ds[i]? = some d → vs[i]? = some v → Val ρ d v) → All2 (Val ρ) ds vs
  | [], [], _, _ => .nil
  | [], _ :: _, h, _ => by cases h
  | _ :: _, [], h, _ => by cases h
  | d :: ds, v :: vs, h, hf => .cons (hf 0 d v rfl rfl) (all2_of (by simpa using h) fun i d v h1 h2 => hf (i + 1) d v (by simpa using h1) (by simpa using h2))
theorem range_items {ρ : Km} {a : Int} {acc : Array Value} {k : Nat} (h : ItemsOf (fun i v => ∃ t, v = .int (a + i * 1) t) acc k) : All2 (Val ρ) (rangeD a k) acc.toList := by
  refine all2_of (by simp [rangeD, h.1]) fun i d v h1 h2 => ?_
  obtain ⟨t, rfl⟩ := h.2 i v (by simpa using h2)
  have hi : i < k := by have := (List.getElem?_eq_some_iff.mp h1).1; simpa [rangeD] using this
  simp only [rangeD, List.getElem?_map, List.getElem?_range hi, Option.map_some, Option.some.injEq] at h1
  subst h1
  exact ⟨t, by rw [Int.mul_one]⟩
theorem wE_listRange {f g : Str} {p p' pos pos' : Pos} {e : Expr} {rest : List Expr} {Q : D → St → Prop} (hf : WE w F n σ (.Name f p) (fun d σ₁ => d = .glob (.type "list") ∧ σ₁ = σ)) (hg : WE w F n σ (.Name g p') (fun d σ₁ => d = .glob (.type "range") ∧ σ₁ = σ)) (hpl : (e :: rest).all plainE = true)
    (h : WEs w F n σ pos' (e :: rest) (fun ds σ₁ => ∃ a b, bounds ds = some (a, b) ∧ okR a b ∧ Mk σ₁ ⟨"list", rangeD a (b - a).toNat, false, true⟩ Q)) :
    WE w F n σ (.Call (.Name f p) [.Call (.Name g p') (e :: rest) [] pos'] [] pos) Q := by
  intro os env κ ρ s A E ok z r
  refine wpAny_Call_Name_kw (wpAny_mono (hf os env κ ρ s A E ok z r) (fun fv s₁ h₁ => ?_) fun _ _ x => x)
  obtain ⟨ρ₁, d, σ₁, g1, g2, g3, g4, rfl, rfl⟩ := h₁
  cases g3
  refine PySem.callWith_type (by rw [back_plain (by rfl) env pos]) ?_
  refine Calls.evalArgs_plain (rest := backTo pos (starEach [] env)) (args_cons (sem_CallT ok g4 r hg hpl h fun ρ₂ ds σ₂ vs s₂ k1 k2 k3 k4 ⟨a, b, k5, k6, k7⟩ => ?_))
  obtain ⟨o1, o2, o3, o4⟩ := k6
  refine call_range_ k4 k5 k3 fun rr t u v s₃ hr z₃ => args_nil ?_
  refine call_list_range r.h hr (small_one (by lia) (by lia) (by lia) (by lia)) (size_one a b) (by lia) fun h' tk acc' c' hk hn hi => ?_
  refine ⟨_, .ref σ₂.nx, _, Nat.le_trans g1 (Nat.le_trans k1 (Nat.le_succ _)), ((g2.trans k2 g1).trans (eqb_put z₃.fr) (Nat.le_trans g1 k1)), vNew,
    z₃.made (s' := { s₃ with heap := h', toks := tk }) noneAt hk rfl z₃.gens (.of (n := c') (vs := acc'.toList) hn ((range_items hi).imp fun _ _ y => y.mono (le_put z₃.fresh))), k7⟩
theorem wX_AssignTup {x y : Str} {px py tpos pos : Pos} {k : Nat} {value : Expr} {Q : Fl → St → Prop} (hs : ∀ env : Env, swapsWithSole [.Tuple [.Name x px, .Name y py] k tpos] value pos.line env = pure false) (hw : ∀ env : Env, swappedStores [.Tuple [.Name x px, .Name y py] k tpos] value env = pure none)
    (h : WE w F n σ value (fun d σ₁ => ∃ j sp a c, d = .ref j ∧ fd σ₁.objs j = some sp ∧ sp.ty = "tuple" ∧ sp.ds = [a, c] ∧ Sto F σ₁ x a (fun σ₂ => Sto F σ₂ y c (Q .next)))) :
    WX w F n b σ (.Assign [.Tuple [.Name x px, .Name y py] k tpos] value pos) Q := by
  intro hb os env κ ρ s A E ok z r
  refine Assign_Tuple (wpAny_mono (h os env κ ρ s A E ok z r) (fun v s₁ h₁ => ?_) fun _ _ x => x) (hs env) (hw env)
  obtain ⟨ρ₁, d, σ₁, g1, g2, g3, g4, j, sp, a, c, rfl, e1, e2, e3, σ₂, q1, σ₃, q2, q3⟩ := h₁
  obtain ⟨t, vs, rfl, _, ht, hA⟩ := g4.tup e1 e2 g3
  rw [e3] at hA
  cases hA with
  | cons p1 p2 => cases p2 with
    | cons p3 p4 =>
      cases p4
      rename_i u v
      refine assign_Tuple_tuple r.h ht rfl rfl fun h' he => ?_
      have z' : Z w os env F.cw κ ρ₁ σ₁ { s₁ with heap := h' } := g4.grown (s' := { s₁ with heap := h' }) (fun b o e => he b o (Nat.ne_of_lt (Heap.lt_size e)) e) rfl g4.gens
      show wpAny _ A (assignInOrder [assign (.Name x px) env, assign (.Name y py) env] [u, v]) _ _ _
      refine assignInOrder_cons (PyProof.Rows.assign_Name (store_ ok z' p1 q1 fun s₂ z₂ => ?_))
      refine assignInOrder_cons (PyProof.Rows.assign_Name (store_ ok z₂ p3 q2 fun s₃ z₃ => assignInOrder_nil ?_))
      exact ⟨ρ₁, .next, σ₃, by rw [q2.nx, q1.nx]; exact Nat.le_trans hb g1, g2.less hb, rfl, z₃, q3⟩
end
end
local macro_rules | `(tactic| walk_at "m_len") => `(tactic| first | decide +kernel | (simp only [List.length_cons, List.length_nil, List.length_append, rangeD, List.length_map, List.length_range]; decide))
local macro_rules | `(tactic| walk_at "m_lk") => `(tactic| first | with_reducible exact lk_here | (with_reducible refine' lk_next ?k1 ?k2; (case k1 => decide +kernel); (case k2 => walk_at "m_lk")))
local macro_rules | `(tactic| walk_at "m_fd") => `(tactic| first | with_reducible exact fd_here | (with_reducible refine' fd_next ?k1 ?k2; (case k1 => decide +kernel); (case k2 => walk_at "m_fd")))
local macro_rules | `(tactic| walk_at "m_setl") => `(tactic| first | with_reducible exact setl_here | with_reducible exact setl_nil | (with_reducible refine' setl_next ?k1 ?k2; (case k1 => decide +kernel); (case k2 => walk_at "m_setl")))
local macro_rules | `(tactic| walk_at "m") => `(tactic| with_reducible first
  | (refine wE_int ?_)
  | (refine wE_str ?_)
  | (refine wE_bool ?_)
  | (refine wE_none ?_)
  | (refine' wE_loc ?k1 ?k2 ?k3 (by decide); (case k1 => decide +kernel); (case k2 => walk_at "m_lk"))
  | (refine' wE_cel ?k1 ?k2 ?k3 (by decide); (case k1 => decide +kernel); (case k2 => walk_at "m_lk"))
  | (refine' wE_free ?k1 ?k2 ?k3 (by decide) (by decide); (case k1 => decide +kernel); (case k2 => walk_at "m_lk"))
  | (refine wE_BinOp ?_)
  | (refine wE_Cmp (by with_unfolding_all rfl) ?_)
  | (refine wT_Cmp (by with_unfolding_all rfl) ?_)
  | (refine wE_List ?_)
  | (refine wE_Tuple ?_)
  | (refine wEs_nil ?_)
  | (refine wEs_cons (by intro _; with_unfolding_all rfl) ?_)
  | (refine wE_IfExp ?_)
  | (refine wE_And ?_)
  | (refine wE_neg ?_)
  | (refine wB_cons ?_)
  | (refine wB_nil ?_)
  | (refine thenB_next ?_)
  | (refine thenB_ret ?_)
  | (refine wX_Assign (by intro _; with_unfolding_all rfl) ?_)
  | (refine wX_AssignTup (by intro _; with_unfolding_all rfl) (by intro _; with_unfolding_all rfl) ?_)
  | (refine wX_If ?_)
  | (refine wX_Return ?_)
  | (refine wX_Expr (by intro _; with_unfolding_all rfl) ?_)
  | (refine w2_add ?_)
  | (refine w2_sub ?_)
  | (refine w2_mod (by decide) ?_)
  | (refine w2_mul (by unfold smallI; constructor <;> decide) ?_)
  | (refine w2_floordiv (by decide) (by decide) ?_)
  | (refine w2_lt ?_)
  | (refine w2_gt ?_)
  | (refine w2_eq ?_)
  | (refine w2_ne ?_)
  | (refine w1_truthy_bool ?_)
  | (refine wL_one ?_)
  | (refine wL_two ?_)
  | (refine wE_CallB (bltn_is (by decide +kernel) (g_chr _).1 (g_chr _).2) (by with_unfolding_all rfl) ?_)
  | (refine wE_CallB (bltn_is (by decide +kernel) (g_ord _).1 (g_ord _).2) (by with_unfolding_all rfl) ?_)
  | (refine wE_CallB (bltn_is (by decide +kernel) (g_len _).1 (g_len _).2) (by with_unfolding_all rfl) ?_)
  | (refine wE_CallB (bltn_is (by decide +kernel) (g_max _).1 (g_max _).2) (by with_unfolding_all rfl) ?_)
  | (refine wE_listRange (bltn_is (by decide +kernel) (g_list _).1 (g_list _).2) (bltn_is (by decide +kernel) (g_range _).1 (g_range _).2) (by with_unfolding_all rfl) ?_)
  | (refine wE_Sub ?_)
  | (refine' w2_ladd ?k1 ?k2 ?k5 ?k6 ?k7 ?k8 ?k3 ?k4; (case k1 => walk_at "m_fd"); (case k2 => walk_at "m_fd"); (case k5 => exact rfl); (case k6 => exact rfl); (case k7 => exact rfl); (case k8 => exact rfl); (case k3 => walk_at "m_len"))
  | (refine w1_chr (by omega) (by omega) ?_)
  | (refine' sto_loc ?k1 ?k2 ?k3; (case k1 => decide +kernel); (case k2 => walk_at "m_setl"))
  | (refine' sto_cel ?k1 rfl ?k2 ?k3; (case k1 => decide +kernel); (case k2 => walk_at "m_setl"))
  | (refine mk_ ?_)
  | (refine ⟨by walk_at "m_len", ?_⟩))
section
section
noncomputable def Sp.Le (sp sp' : Sp) : Prop := sp.ty = sp'.ty ∧ sp.ds = sp'.ds ∧ (sp.fz = false → sp'.fz = false) ∧ (sp.px = true → sp'.px = true)
theorem Sp.Le.rfl' {sp : Sp} : Sp.Le sp sp := ⟨rfl, rfl, fun h => h, fun h => h⟩
structure St.Sub (σ σ' : St) : Prop where
  nx : σ.nx = σ'.nx
  loc : ∀ x d, lk σ.loc x = some d → lk σ'.loc x = some d
  cel : ∀ x d, lk σ.cel x = some d → lk σ'.cel x = some d
  objs : ∀ k sp, fd σ.objs k = some sp → ∃ sp', fd σ'.objs k = some sp' ∧ Sp.Le sp sp'
theorem St.Sub.refl (σ : St) : St.Sub σ σ := ⟨rfl, fun _ _ e => e, fun _ _ e => e, fun _ sp e => ⟨sp, e, .rfl'⟩⟩
theorem Z.sub {w os env cw κ ρ σ σ' s} (z : Z w os env cw κ ρ σ' s) (h : St.Sub σ σ') : Z w os env cw κ ρ σ s where
  top := z.top
  keep := z.keep
  ns := let ⟨m, F, q⟩ := z.ns; ⟨m, F, fun x d e => q x d (h.loc x d e)⟩
  lf := z.lf
  cel := fun x d e => z.cel x d (h.cel x d e)
  cc := z.cc
  ca := z.ca
  obj := fun k sp e => by
    obtain ⟨sp', e', q⟩ := h.objs k sp e
    obtain ⟨a, h1, ⟨o, vs, n, g1, g2, g3, g4, g5⟩, h3⟩ := z.obj k sp' e'
    obtain ⟨q1, q2, q3, q4⟩ := q
    exact ⟨a, h1, ⟨o, vs, n, g1, by rw [g2, q1], g3, fun h => by rw [g4 (q4 h), q1], by rw [q2]; exact g5⟩, fun h => h3 (q3 h)⟩
  lt := fun k a e => let ⟨h1, h2⟩ := z.lt k a e; ⟨by rw [h.nx]; exact h1, h2⟩
  inj := z.inj
  os := z.os
  gens := z.gens
variable {w : World} {F : Fm} {n b : Nat} {σ : St}
theorem WS.weak {t : Env → Sem Flow} {Q : Fl → St → Prop} (h : WS w F n b σ t (fun fl σ' => ∃ σ₀, St.Sub σ₀ σ' ∧ Q fl σ₀)) : WS w F n b σ t Q := by
  intro hb os env κ ρ s A E ok z r
  refine wpAny_mono (h hb os env κ ρ s A E ok z r) (fun f s' h' => ?_) fun _ _ x => x
  obtain ⟨ρ', d, σ', g1, g2, g3, g4, σ₀, g5, g6⟩ := h'
  exact ⟨ρ', d, σ₀, by rw [g5.nx]; exact g1, g2, g3, g4.sub g5, g6⟩
theorem WS.sub {σ' : St} {t : Env → Sem Flow} {Q : Fl → St → Prop} (hs : St.Sub σ σ') (h : WS w F n b σ t Q) : WS w F n b σ' t Q := by
  intro hb os env κ ρ s A E ok z r
  exact h (by rw [hs.nx]; exact hb) os env κ ρ s A E ok (z.sub hs) r
theorem W0.weak {α δ : Type} {R : Km → δ → α → Prop} {t : Env → Sem α} {Q : δ → St → Prop} (h : W0 w F n R σ t (fun d σ' => ∃ σ₀, St.Sub σ₀ σ' ∧ Q d σ₀)) : W0 w F n R σ t Q := by
  intro os env κ ρ s A E ok z r
  refine wpAny_mono (h os env κ ρ s A E ok z r) (fun f s' h' => ?_) fun _ _ x => x
  obtain ⟨ρ', d, σ', g1, g2, g3, g4, σ₀, g5, g6⟩ := h'
  exact ⟨ρ', d, σ₀, by rw [g5.nx]; exact g1, g2, g3, g4.sub g5, g6⟩
theorem thenB_weak {rest : List Stmt} {Q : Fl → St → Prop} {σ' : St} (hs : St.Sub σ σ') (h : thenB w F n b rest Q .next σ) : thenB w F n b rest Q .next σ' := WS.sub hs h
theorem wX_While {test : Expr} {body : List Stmt} {pos : Pos} {Q : Fl → St → Prop} (I : Nat → St → Prop)
    (turn : ∀ m σ', I m σ' → WT w F n σ' test (fun c σ₁ => (c = true → WB w F n σ.nx σ₁ body (fun fl σ₂ => match fl with
      | .next => ∃ m', m' < m ∧ I m' σ₂
      | .cont => ∃ m', m' < m ∧ I m' σ₂
      | .brk => Q .next σ₂
      | .ret d => Q (.ret d) σ₂)) ∧ (c = false → Q .next σ₁)))
    (m : Nat) (h : I m σ) : WX w F n b σ (.While test body [] pos) Q := by
  intro hb os env κ ρ s A E ok z r
  refine wpAny_While ?_
  refine codeAny_whileLoop (fun m s' => ∃ (ρ₂ : Km) (σ₂ : St), I m σ₂ ∧ σ.nx ≤ σ₂.nx ∧ EqB σ.nx κ ρ ρ₂ ∧ Z w os env F.cw κ ρ₂ σ₂ s') ?_ m ⟨ρ, σ, h, Nat.le_refl _, EqB.rfl', z⟩
  rintro m s' ⟨ρ₂, σ₂, hI, e1, e2, z₂⟩
  have hfin : ∀ {ρ₃ : Km} {σ₃ : St} {s₃ : Shared} {f : Flow} {fl : Fl}, σ.nx ≤ σ₃.nx → EqB σ.nx κ ρ ρ₃ → Z w os env F.cw κ ρ₃ σ₃ s₃ → FlV ρ₃ fl f → Q fl σ₃ → Po w F os env κ ρ b FlV Q f s₃ := fun k1 k2 k3 k4 k5 =>
    ⟨_, _, _, Nat.le_trans hb k1, k2.less hb, k4, k3, k5⟩
  refine wpAny_mono (turn m σ₂ hI os env κ ρ₂ s' A _ ok z₂ r) (fun c s₃ h₃ => ?_) fun _ _ x => x
  obtain ⟨ρ₃, c', σ₃, g1, g2, g3, g4, g5, g6⟩ := h₃
  cases g3
  have l3 : σ.nx ≤ σ₃.nx := Nat.le_trans e1 g1
  have q3 : EqB σ.nx κ ρ ρ₃ := e2.trans g2 e1
  cases c with
  | false => exact wpAny_execs_nil (hfin (fl := .next) l3 q3 g4 rfl (g6 rfl))
  | true =>
    refine wpAny_mono (g5 rfl l3 os env κ ρ₃ s₃ A _ ok g4 r) (fun f s₄ h₄ => ?_) fun _ _ x => x
    obtain ⟨ρ₄, fl, σ₄, k1, k2, k3, k4, k5⟩ := h₄
    have q4 : EqB σ.nx κ ρ ρ₄ := q3.trans k2 (Nat.le_refl _)
    cases fl with
    | next => cases k3; obtain ⟨m', h1, h2⟩ := k5; exact ⟨m', h1, ρ₄, σ₄, h2, k1, q4, k4⟩
    | cont => cases k3; obtain ⟨m', h1, h2⟩ := k5; exact ⟨m', h1, ρ₄, σ₄, h2, k1, q4, k4⟩
    | brk => cases k3; exact hfin (fl := .next) k1 q4 k4 rfl k5
    | ret d => obtain ⟨u, rfl, hu⟩ := k3; exact hfin (fl := .ret d) k1 q4 k4 ⟨u, rfl, hu⟩ k5
end
theorem lk_pre : ∀ (l m : List (Str × D)) (x : Str) (d : D), lk l x = some d → lk (l ++ m) x = some d
  | [], _, _, _, h => by cases h
  | (y, e) :: l, m, x, d, h => by
    simp only [lk, List.cons_append] at h ⊢
    split
    · rename_i hx; rw [if_pos hx] at h; exact h
    · rename_i hx; rw [if_neg hx] at h; exact lk_pre l m x d h
theorem sub_pre {l m c d : List (Str × D)} {objs objs' : List (Nat × Sp)} {nx : Nat} (h : ∀ k sp, fd objs k = some sp → ∃ sp', fd objs' k = some sp' ∧ Sp.Le sp sp') : St.Sub ⟨l, c, objs, nx⟩ ⟨l ++ m, c ++ d, objs', nx⟩ :=
  ⟨rfl, lk_pre l m, lk_pre c d, h⟩
theorem sub_loc {l m c : List (Str × D)} {objs objs' : List (Nat × Sp)} {nx : Nat} (h : ∀ k sp, fd objs k = some sp → ∃ sp', fd objs' k = some sp' ∧ Sp.Le sp sp') : St.Sub ⟨l, c, objs, nx⟩ ⟨l ++ m, c, objs', nx⟩ :=
  ⟨rfl, lk_pre l m, fun _ _ e => e, h⟩
end
section
section
noncomputable def GMv (γ : Nat) (a b : Array GenState) : Prop := (AllBare a → AllBare b) ∧ ∀ l r, a.toList = l ++ r → l.length ≤ γ → ∃ r', b.toList = l ++ r'
theorem GMv.refl (γ : Nat) (a : Array GenState) : GMv γ a a := ⟨fun h => h, fun _ r e _ => ⟨r, e⟩⟩
structure WalksV (w : World) (A : Around) (I : Addr) (fp wr : List Addr) (γ : Nat) (n : Nat) (Pt : Nat → Array Value → Prop) (St : Nat → Shared → Prop) (Mid : Nat → Addr → Shared → Prop) : Prop where
  sub : ∀ b ∈ wr, b ∈ fp
  frame : ∀ i (s s' : Shared), St (i + 1) s → (∀ b ∈ fp, ∀ o, s.heap.get? b = some o → s'.heap.get? b = some o) → (∀ b o, (X1 w).get? b = some o → s'.heap.get? b = some o) → (∃ r, s'.gens.toList = s.gens.toList ++ r) → AllBare s'.gens → St (i + 1) s'
  item : ∀ i (s : Shared) (Q : Option Value → Shared → Prop) (E : Value → Shared → Prop), i < n → St i s →
    (∀ T vals (s' : Shared), Pt i vals → s'.heap.IsTuple T vals → Mid i T s' → (∀ b o, b ∉ wr → s.heap.get? b = some o → s'.heap.get? b = some o) → s'.os = s.os → GMv γ s.gens s'.gens → Q (some (.ref T)) s') →
    wpAny (model pw w) A (pyNext (.ref I)) Q E s
  go : ∀ (elts : List Expr) (k : Nat) (pos : Pos) i T (s : Shared) (Q : Unit → Shared → Prop) (E : Value → Shared → Prop), Mid i T s →
    (∀ h', St (i + 1) { s with heap := h' } → (∀ b o, b ∉ wr → s.heap.get? b = some o → h'.get? b = some o) → Q () { s with heap := h' }) →
    wpAny (model pw w) A (letOwnedTupleGo (.Tuple elts k pos) (.ref I) (.ref T)) Q E s
  apart : ∀ i T s, Mid i T s → T ∉ wr
  done : ∀ (s : Shared) (Q : Option Value → Shared → Prop) (E : Value → Shared → Prop), St n s →
    (∀ s' : Shared, (∀ b o, b ∉ wr → s.heap.get? b = some o → s'.heap.get? b = some o) → s'.os = s.os → GMv γ s.gens s'.gens → Q none s') → wpAny (model pw w) A (pyNext (.ref I)) Q E s
theorem WalksV.of {w : World} {A : Around} {I : Addr} {fp wr : List Addr} {n : Nat} {Pt : Nat → Array Value → Prop} {St : Nat → Heap → Prop} {Mid : Nat → Addr → Heap → Prop} (γ : Nat)
    (W : WalksU pw w A I fp wr n Pt St Mid) : WalksV w A I fp wr γ n Pt (fun i s => St i s.heap) (fun i T s => Mid i T s.heap) where
  sub := W.sub
  frame := fun i s s' h hk _ _ _ => W.frame _ _ _ h hk
  item := fun i s Q E hi st hQ => W.item i s Q E hi st fun T vals h' tk hP hT hm hk => hQ T vals { s with heap := h', toks := tk } hP hT hm hk rfl (.refl ..)
  go := fun elts k pos i T s Q E hm hQ => W.go elts k pos i T s Q E hm hQ
  apart := fun i T s h => W.apart i T _ h
  done := fun s Q E st hQ => W.done s Q E st fun h' tk hk => hQ { s with heap := h', toks := tk } hk rfl (.refl ..)
section
variable {w : World} {os : Og} {env : Env} {cw : Bool} {κ : Kp} {ρ : Km} {σ : St} {s : Shared}
theorem GOk.mv {gens gens' : Array GenState} {γ : Nat} (h : GOk os gens) (hm : GMv γ gens gens') (hl : os.g.length ≤ γ) : GOk os gens' :=
  let ⟨h1, r, h2⟩ := h; ⟨hm.1 h1, hm.2 _ r h2 hl⟩
theorem Z.gmore (z : Z w os env cw κ ρ σ s) : Z w ⟨os.o, s.gens.toList⟩ env cw κ ρ σ s :=
  ⟨z.top, z.keep, z.ns, z.lf, z.cel, z.cc, z.ca, z.obj, z.lt, z.inj, z.os, z.gens.1, [], by simp⟩
theorem Z.gless {g : List GenState} (z : Z w ⟨os.o, g⟩ env cw κ ρ σ s) (h : ∃ r, g = os.g ++ r) : Z w os env cw κ ρ σ s :=
  ⟨z.top, z.keep, z.ns, z.lf, z.cel, z.cc, z.ca, z.obj, z.lt, z.inj, z.os, z.gens.1, by
    obtain ⟨r, rfl⟩ := h
    obtain ⟨r', e⟩ := z.gens.2
    exact ⟨r ++ r', by rw [e]; simp⟩⟩
end
section
variable (w : World) (F : Fm) (n : Nat)
inductive IterV (os : Og) (env : Env) (κ : Kp) (ρ : Km) (b : Nat) (A : Around) (Q : List (D × D) → St → Prop) (it : Value) (s₂ : Shared) : Prop
  | mk (ρ' : Km) (ds : List (D × D)) (σ' : St) (I : Addr) (fp wr : List Addr) (γ : Nat) (Pt : Nat → Array Value → Prop) (St' : Nat → Shared → Prop) (Mid : Nat → Addr → Shared → Prop) (h1 : it = .ref I) (h2 : b ≤ σ'.nx) (h3 : EqB b κ ρ ρ') (h4 : Z w os env F.cw κ ρ' σ' s₂) (h5 : WalksV w A I fp wr γ ds.length Pt St' Mid) (h6 : St' 0 s₂)
    (h7 : ∀ i vals, i < ds.length → Pt i vals → ∃ u v d e, vals = #[u, v] ∧ ds[i]? = some (d, e) ∧ Val ρ' d u ∧ Val ρ' e v) (h8 : ∀ i s, St' (i + 1) s → ∀ a ∈ fp, ∃ o, s.heap.get? a = some o) (h9 : ∀ a ∈ fp, Foot env F.cw ρ' σ' a) (h10 : ∀ a ∈ wr, Apart env κ ρ' a) (h11 : os.g.length ≤ γ) (h12 : Q ds σ')
noncomputable def WIV (σ : St) (e : Expr) (Q : List (D × D) → St → Prop) : Prop :=
  ∀ os env κ ρ s A (E : Value → Shared → Prop), F.Ok env → Z w os env F.cw κ ρ σ s → Room n A → wpAny (model pw w) A (eval e env) (fun x s₁ => wpAny (model pw w) A (pyIter x) (IterV w F os env κ ρ σ.nx A Q) E s₁) E s
noncomputable def Loop2 (b : Nat) (x y : Str) (body : List Stmt) (Q : Fl → St → Prop) : List (D × D) → St → Prop
  | [], σ => Q .next σ
  | (d, e) :: r, σ => Sto F σ x d (fun σ₁ => Sto F σ₁ y e (fun σ₂ => WB w F n b σ₂ body (fun fl σ₃ => match fl with
    | .next => Loop2 b x y body Q r σ₃
    | .cont => Loop2 b x y body Q r σ₃
    | .brk => Q .next σ₃
    | .ret d => Q (.ret d) σ₃)))
end
section
variable {w : World} {F : Fm} {n b : Nat} {σ : St}
theorem wX_For2 {x y : Str} {px py tpos pos : Pos} {k : Nat} {iter : Expr} {body : List Stmt} {Q : Fl → St → Prop} (hs : ∀ (env : Env) v, foldedSetIterable iter env v = pure v)
    (h : WIV w F n σ iter (fun ds σ₁ => Loop2 w F n σ₁.nx x y body Q ds σ₁)) : WX w F n b σ (.For (.Tuple [.Name x px, .Name y py] k tpos) iter body [] pos) Q := by
  intro hb os env κ ρ s A E ok z r
  refine wpAny_For (wpAny_mono (h os env κ ρ s A E ok z r) (fun v s₁ h₁ => wpAny_mono h₁ (fun it s₂ h₂ => ?_) fun _ _ x => x) fun _ _ x => x) (hs env)
  obtain ⟨ρ₁, ds, σ₁, I, fp, wr, γ, P, St', Mid, rfl, g1, g2, g3, W, g5, g6, g7, g8, g9, gγ, g10⟩ := h₂
  have hfin : ∀ {ρ₂ : Km} {σ₂ : St} {s' : Shared} {f : Flow} {fl : Fl}, σ₁.nx ≤ σ₂.nx → EqB σ₁.nx κ ρ₁ ρ₂ → Z w os env F.cw κ ρ₂ σ₂ s' → FlV ρ₂ fl f → Q fl σ₂ → Po w F os env κ ρ b FlV Q f s' := fun k1 k2 k3 k4 k5 =>
    ⟨_, _, _, Nat.le_trans hb (Nat.le_trans g1 k1), (g2.trans k2 g1).less hb, k4, k3, k5⟩
  refine codeAny_forLoop_any (ForInv w F os env κ ρ₁ σ₁.nx ds (Loop2 w F n σ₁.nx x y body Q) fp St') ?_ ds.length
    ⟨ρ₁, σ₁, 0, ds, rfl, Nat.zero_add _, rfl, g10, Nat.le_refl _, fun _ _ => rfl, fun k a hk e => absurd (g3.lt k a e).1 (Nat.not_lt.mpr hk), g3, g5, g8⟩
  rintro m s' ⟨ρ₂, σ₂, i, rest, e1, e2, em, hL, e3, e4, e5, z₂, hst, hft⟩
  have eq2 : EqB σ₁.nx κ ρ₁ ρ₂ := ⟨e4, fun _ k a hk e => (e5 k a hk e).1⟩
  have hap : ∀ a ∈ wr, Apart env κ ρ₂ a := apart_next g9 W.sub e4 fun k a hk e => (e5 k a hk e).2
  cases rest with
  | nil =>
    have hi : i = ds.length := e2
    refine W.done s' _ _ (hi ▸ hst) fun sd hk hos hg => ?_
    have z₃ : Z w os env F.cw κ ρ₂ σ₂ sd := z₂.grownBut hap hk hos (z₂.gens.mv hg gγ)
    exact wpAny_execs_nil (hfin (fl := .next) e3 eq2 z₃ rfl hL)
  | cons de rest =>
    obtain ⟨d, e⟩ := de
    obtain ⟨hdi, hil, hdr⟩ := dropAt1 e1
    refine W.item i s' _ _ hil hst fun T vals si hP hT hMid hk hos hg => ?_
    have z₃ : Z w os env F.cw κ ρ₂ σ₂ si := z₂.grownBut hap hk hos (z₂.gens.mv hg gγ)
    refine W.go _ k tpos i T _ _ _ hMid fun h₂ hst₂ hk₂ => ?_
    have z₃ : Z w os env F.cw κ ρ₂ σ₂ { si with heap := h₂ } := z₃.grownBut (s' := { si with heap := h₂ }) hap hk₂ rfl z₃.gens
    obtain ⟨u, v, d', e', rfl, hd', hV, hV'⟩ := g6 i vals hil hP
    rw [hdi] at hd'; cases hd'
    have up : ∀ {d : D} {v : Value}, Val ρ₁ d v → Val ρ₂ d v := fun hV => hV.mono fun k a e => (e4 k (g3.lt k a e).1).trans e
    have hT₂ : IsTup h₂ T #[u, v] := by obtain ⟨o, ho, q⟩ := hT; exact ⟨o, hk₂ T o (W.apart i T _ hMid) ho, q⟩
    refine assign_Tuple_tuple r.h hT₂ rfl rfl fun h₃ he => ?_
    have z₃ : Z w os env F.cw κ ρ₂ σ₂ { si with heap := h₃ } := z₃.grown (s' := { si with heap := h₃ }) (fun b o e => he b o (Nat.ne_of_lt (Heap.lt_size e)) e) rfl z₃.gens
    have hst₃ : St' (i + 1) { si with heap := h₃ } := W.frame _ _ _ hst₂ (fun a _ o e => he a o (Nat.ne_of_lt (Heap.lt_size e)) e) z₃.x1 ⟨[], (List.append_nil _).symm⟩ z₃.gens.1
    obtain ⟨σ₃, hset, σ₃', hset', hB⟩ := hL
    show wpAny _ A (assignInOrder [assign (.Name x px) env, assign (.Name y py) env] [u, v]) _ _ _
    refine assignInOrder_cons (PyProof.Rows.assign_Name (store_ ok (z₃.kmore hft).gmore (up hV) hset fun s₅ z₅ => ?_))
    refine assignInOrder_cons (PyProof.Rows.assign_Name (store_ ok z₅ (up hV') hset' fun s₆ z₆ => assignInOrder_nil ?_))
    have hlive := g7 i _ hst₃
    refine wpAny_mono (hB ((hset'.nx.trans hset.nx).symm ▸ e3) _ env _ ρ₂ s₆ A _ ok z₆ r) (fun f s₇ h₇ => ?_) fun _ _ x => x
    obtain ⟨ρ₇, fl, σ₇, k1, k2, k3, k4, k5⟩ := h₇
    have e4' : ∀ k, k < σ₁.nx → ρ₇ k = ρ₁ k := fun k hk => (k2.1 k hk).trans (e4 k hk)
    have e5' : ∀ k a, σ₁.nx ≤ k → ρ₇ k = some a → κ a = Option.none ∧ a ∉ fp := fun k a hk e => kx_none hlive (k2.2 (nw_kx e5) k a hk e)
    have z₇ : Z w os env F.cw κ ρ₇ σ₇ s₇ := (k4.gless (os := os) z₃.gens.2).kless (kx_keep z₃.keep) z₃.top
    have eq7 : EqB σ₁.nx κ ρ₁ ρ₇ := ⟨e4', fun _ k a hk e => (e5' k a hk e).1⟩
    have next : Loop2 w F n σ₁.nx x y body Q rest σ₇ → ∃ m', m' < m ∧ ForInv w F os env κ ρ₁ σ₁.nx ds (Loop2 w F n σ₁.nx x y body Q) fp St' m' s₇ := fun hl =>
      ⟨rest.length, em ▸ Nat.lt_succ_self _, ρ₇, σ₇, i + 1, rest, hdr, rest_len e2, rfl, hl, k1, e4', e5', z₇, W.frame _ _ _ hst₃ (fun a ha o e => k4.keep a o (kx_in ha e)) k4.x1 k4.gens.2 k4.gens.1, foot_next (os := os) hft k4 hlive⟩
    cases fl with
    | next => cases k3; exact next k5
    | cont => cases k3; exact next k5
    | brk => cases k3; exact hfin (fl := .next) k1 eq7 z₇ rfl k5
    | ret d => obtain ⟨u, rfl, hu⟩ := k3; exact hfin (fl := .ret d) k1 eq7 z₇ ⟨u, rfl, hu⟩ k5
end
end
end
section
section
variable {M : Model} {A : Around} {R : GenEnd} {Y : Protocol} {n : Nat} {s₀ : Shared} {c : Code} {fs : List Frame} {s : Shared} {env : Env}
  {K : Flow → Sem PySem.Fin} {H : Value → Sem PySem.Fin} {gd : Bool → Bool} {lv : List Value → List Value}
theorem seg_If {test : Expr} {body orelse : List Stmt} {pos : Pos}
    (h : wpAny M (A.over c fs) (isTrue test env (eval test env)) (fun b s' => if b = true then Seg M A R Y n s₀ c ((execs body env).wrap K H gd lv) fs s' else Seg M A R Y n s₀ c ((execs orelse env).wrap K H gd lv) fs s') (fun _ _ => False) s) :
    Seg M A R Y n s₀ c ((exec (.If test body orelse pos) env).wrap K H gd lv) fs s := by
  rw [exec_If]
  refine seg_at ?_
  show Seg M A R Y n s₀ c (Sem.wrap K H gd lv (isTrue test env (eval test env) >>= fun b => if b = true then execs body env else execs orelse env)) fs s
  rw [Sem.bind_eq_wrap', Sem.wrap_wrap]
  refine seg_wrap (wpAny_mono h (fun b s' hb => ?_) fun _ _ x => x.elim)
  cases b with
  | true => exact hb
  | false => exact hb
theorem seg_stmt {st : Stmt} (h : wpAny M (A.over c fs) (exec st env) (fun f s' => Seg M A R Y n s₀ c (K f) fs s') (fun _ _ => False) s) : Seg M A R Y n s₀ c ((exec st env).wrap K H gd lv) fs s :=
  seg_wrap (wpAny_mono h (fun _ _ x => x) fun _ _ x => x.elim)
noncomputable def ownK (K : Flow → Sem PySem.Fin) (H : Value → Sem PySem.Fin) (gd : Bool → Bool) (lv : List Value → List Value) (env : Env) : Result → Sem PySem.Fin := fun r =>
  ((match r with | .ok f => (.pure f : Sem Flow) | .error e => .raise e).onRaise fun (x : Value) => do
        if (← field x 1) == Value.none then unsupported "frame.own-activation:exception-without-traceback"
        setFlight x env.frame).wrap K H gd lv
theorem seg_For {target iter : Expr} {body : List Stmt} {pos : Pos} (hs : ∀ v, foldedSetIterable iter env v = pure v)
    (h : wpAny M (A.over c fs) (eval iter env) (fun x s₁ => wpAny M (A.over c fs) (pyIter x) (fun it s₂ => ∀ p, Seg M A R Y n s₀ (.forLoop target it body [] env) (M.den (.forLoop target it body [] env)) (.ret (ownK K H gd lv env) none (gd false) (lv []) c p [] :: fs) s₂) (fun _ _ => False) s₁) (fun _ _ => False) s) :
    Seg M A R Y n s₀ c ((exec (.For target iter body [] pos) env).wrap K H gd lv) fs s := by
  rw [exec_For]
  refine seg_at ?_
  show Seg M A R Y n s₀ c (Sem.wrap K H gd lv (eval iter env >>= fun x0 => foldedSetIterable iter env x0 >>= fun x => standAt iter.pos >>= fun _ => holding [x] (pyIter x) >>= fun it => runOwn (.forLoop target it body [] env) env)) fs s
  rw [Sem.bind_eq_wrap', Sem.wrap_wrap]
  refine seg_wrap (wpAny_mono h (fun x s₁ h₁ => ?_) fun _ _ x => x.elim)
  show Seg M A R Y n s₀ c (Sem.wrap K H gd lv (foldedSetIterable iter env x >>= fun x => standAt iter.pos >>= fun _ => holding [x] (pyIter x) >>= fun it => runOwn (.forLoop target it body [] env) env)) fs s₁
  rw [hs x, pure_bind]
  refine seg_at ?_
  show Seg M A R Y n s₀ c (Sem.wrap K H gd lv (holding [x] (pyIter x) >>= fun it => runOwn (.forLoop target it body [] env) env)) fs s₁
  rw [Sem.bind_eq_wrap', Sem.wrap_wrap]
  refine seg_wrap (wpAny_holding (wpAny_mono h₁ (fun it s₂ h₂ => ?_) fun _ _ x => x.elim))
  exact seg_call h₂
end
section
variable {w : World} {A : Around} {R : GenEnd} {Y : Protocol} {n : Nat} {s₀ : Shared} {fs : List Frame} {s : Shared} {env : Env}
noncomputable def forK (target : Expr) (it : Value) (body : List Stmt) (env : Env) : Flow → Sem PySem.Fin := fun f => match f with
  | .next | .cont => .pure (.again (.forLoop target it body [] env))
  | .brk => .pure (.done .next)
  | .ret v => .pure (.done (.ret v))
noncomputable def forH (env : Env) : Value → Sem PySem.Fin := fun e => (do noteFrame e env; theTreesLotGoes e : Sem Unit).bind fun _ => .raise e
theorem seg_forLoop {target : Expr} {it : Value} {body : List Stmt}
    (h : wpAny (model pw w) (A.over (.forLoop target it body [] env) fs) (pyNext it) (fun r s₁ => match r with
      | none => Seg (model pw w) A R Y n s₀ (.block [] env) (.pure (.done .next)) fs s₁
      | some v => wpAny (model pw w) (A.over (.forLoop target it body [] env) fs) (letOwnedTupleGo target it v) (fun _ s₁' => wpAny (model pw w) (A.over (.forLoop target it body [] env) fs) (assign target env v) (fun _ s₂ =>
          Seg (model pw w) A R Y n s₀ (.forLoop target it body [] env) ((execs body env).wrap (forK target it body env) (forH env) id id) fs s₂) (fun _ _ => False) s₁') (fun _ _ => False) s₁) (fun _ _ => False) s) :
    Seg (model pw w) A R Y n s₀ (.forLoop target it body [] env) ((model pw w).den (.forLoop target it body [] env)) fs s := by
  show Seg _ A R Y n s₀ _ ((forTurn target it body [] env).onRaise (fun x => do noteFrame x env; theTreesLotGoes x)) fs s
  unfold forTurn
  rw [Sem.onRaise_eq_wrap]
  refine seg_at ?_
  show Seg _ A R Y n s₀ _ (Sem.wrap _ _ _ _ ((pyNext it).onRaise (fun _ => standAt { target.pos with line := 0 }) >>= _)) fs s
  rw [Sem.bind_eq_wrap', Sem.wrap_wrap]
  refine seg_wrap (wpAny_onRaise (wpAny_mono h (fun r s₁ h₁ => ?_) fun _ _ x => x.elim))
  cases r with
  | none =>
    refine seg_again rfl ?_
    exact h₁
  | some v =>
    show Seg _ A R Y n s₀ _ (Sem.wrap _ _ _ _ (letOwnedTupleGo target it v >>= _)) fs s₁
    rw [Sem.bind_eq_wrap', Sem.wrap_wrap]
    refine seg_wrap (wpAny_mono h₁ (fun _ s₁' h₁' => ?_) fun _ _ x => x.elim)
    show Seg _ A R Y n s₀ _ (Sem.wrap _ _ _ _ (assign target env v >>= _)) fs s₁'
    rw [Sem.bind_eq_wrap', Sem.wrap_wrap]
    refine seg_wrap (wpAny_mono h₁' (fun _ s₂ h₂ => ?_) fun _ _ x => x.elim)
    show Seg _ A R Y n s₀ _ (Sem.wrap _ _ _ _ (execs body env >>= _)) fs s₂
    rw [Sem.bind_eq_wrap', Sem.wrap_wrap]
    rw [Sem.wrap_congr (execs body env) _ _ (K' := forK target it body env) (H' := forH env) (fun f => by cases f <;> rfl) (fun e => by rfl)]
    exact h₂
end
end
section
section
open PySem.Sre
theorem runFor_done : ∀ (n : Nat) (m : M), m.outcome.isSome = true → m.runFor n = m
  | 0, m, _ => rfl
  | n + 1, m, h => by unfold M.runFor; rw [if_pos h]
theorem runFor_add : ∀ (a b : Nat) (m : M), m.runFor (a + b) = (m.runFor a).runFor b
  | 0, b, m => by rw [Nat.zero_add]; rfl
  | a + 1, b, m => by
    rw [Nat.succ_add]
    by_cases h : m.outcome.isSome = true
    · rw [runFor_done _ m h, runFor_done _ m h, runFor_done _ m h]
    · show (if m.outcome.isSome = true then m else M.runFor (a + b) m.step) = (if m.outcome.isSome = true then m else M.runFor a m.step).runFor b
      rw [if_neg h, if_neg h]
      exact runFor_add a b _
theorem runFor_one (m : M) (h : m.outcome = none) : m.runFor 1 = m.step := by
  show (if m.outcome.isSome = true then m else m.step) = _
  rw [if_neg (by rw [h]; exact Bool.false_ne_true)]
noncomputable def Goes (n : Nat) (m m' : M) : Prop := m.runFor n = m'
theorem Goes.trans {a b : Nat} {m m' m'' : M} (h : Goes a m m') (h' : Goes b m' m'') : Goes (a + b) m m'' := by
  unfold Goes at *
  rw [runFor_add, h, h']
theorem Goes.step {m m' : M} (h : m.outcome = none) (e : m.step = m') : Goes 1 m m' := by
  unfold Goes; rw [runFor_one m h, e]
noncomputable def code1 : Array Nat := #[14, 4, 0, 1, 1, 6, 1, 16, 46, 1]
noncomputable def at1 (text : Array Nat) (lim : Nat) (must : Bool) (s : Nat) (first : Bool) (seen : Sre.Seen) : M :=
  { code := code1, text, lim, start := s, lastStart := lim, wholeText := false, mustAdvance := must, pc := 5, pos := s, handed := s, outermost := first, marks := #[], lastmark := -1, lastindex := -1, loops := #[], inner := none, frames := [{ wait := .nextStart, pc := 5, pos := s, outermost := first }], weight := 1, answer := none, seen, outcome := none }
noncomputable def bol (text : Array Nat) (s : Nat) : Bool := s == 0 || text.getD (s - 1) 0 == 10
theorem at1_no {text : Array Nat} {lim : Nat} {must : Bool} {s : Nat} {first : Bool} {seen : Sre.Seen} (h : bol text s = false) : ∃ seen', (at1 text lim must s first seen).step = { at1 text lim must s first seen' with answer := some false } := by
  refine ⟨(seen.add 6).add 44, ?_⟩
  show (if (bol text s) = true then _ else _) = _
  rw [h]
  rfl
theorem at1_yes {text : Array Nat} {lim : Nat} {must : Bool} {s : Nat} {first : Bool} {seen : Sre.Seen} (h : bol text s = true) : ∃ seen', (at1 text lim must s first seen).step = { at1 text lim must s first seen' with pc := 7 } := by
  refine ⟨(seen.add 6).add 44, ?_⟩
  show (if (bol text s) = true then _ else _) = _
  rw [h]
  rfl
theorem at1_lit_end {text : Array Nat} {lim : Nat} {must : Bool} {s : Nat} {first : Bool} {seen : Sre.Seen} (h : lim ≤ s) : ∃ seen', M.step { at1 text lim must s first seen with pc := 7 } = { at1 text lim must s first seen' with pc := 7, answer := some false } := by
  refine ⟨seen.add 16, ?_⟩
  show (if s ≥ lim then _ else _) = _
  rw [if_pos h]
  rfl
theorem at1_lit_no {text : Array Nat} {lim : Nat} {must : Bool} {s : Nat} {first : Bool} {seen : Sre.Seen} (h : s < lim) (hc : (text.getD s 0 == 46) = false) : ∃ seen', M.step { at1 text lim must s first seen with pc := 7 } = { at1 text lim must s first seen' with pc := 7, answer := some false } := by
  refine ⟨seen.add 16, ?_⟩
  show (if s ≥ lim then _ else _) = _
  rw [if_neg (Nat.not_le.mpr h)]
  show (match (Except.ok (text.getD s 0 == 46, seen.add 16) : Except String (Bool × Sre.Seen)) with | .error why => _ | .ok (false, seen) => _ | .ok (true, seen) => _) = _
  rw [hc]
  rfl
theorem at1_lit_yes {text : Array Nat} {lim : Nat} {must : Bool} {s : Nat} {first : Bool} {seen : Sre.Seen} (h : s < lim) (hc : (text.getD s 0 == 46) = true) : ∃ seen', M.step { at1 text lim must s first seen with pc := 7 } = { at1 text lim must s first seen' with pc := 9, pos := s + 1 } := by
  refine ⟨seen.add 16, ?_⟩
  show (if s ≥ lim then _ else _) = _
  rw [if_neg (Nat.not_le.mpr h)]
  show (match (Except.ok (text.getD s 0 == 46, seen.add 16) : Except String (Bool × Sre.Seen)) with | .error why => _ | .ok (false, seen) => _ | .ok (true, seen) => _) = _
  rw [hc]
  rfl
theorem at1_next {text : Array Nat} {lim : Nat} {must : Bool} {s pc : Nat} {first : Bool} {seen : Sre.Seen} (h : s < lim) : M.step { at1 text lim must s first seen with pc := pc, answer := some false } = at1 text lim false (s + 1) false seen := by
  show (if s < lim then _ else _) = _
  rw [if_pos h]
  rfl
theorem at1_over {text : Array Nat} {lim : Nat} {must : Bool} {s pc : Nat} {first : Bool} {seen : Sre.Seen} (h : ¬ s < lim) : (M.step { at1 text lim must s first seen with pc := pc, answer := some false }).runFor 1 = { at1 text lim must s first seen with frames := [], weight := 0, answer := some false, outcome := some .failed } := by
  have e : M.step { at1 text lim must s first seen with pc := pc, answer := some false } = { at1 text lim must s first seen with frames := [], weight := 0, answer := some false } := by
    show (if s < lim then _ else _) = _
    rw [if_neg h]
    rfl
  rw [e]
  rfl
end
end
section
section
open PySem.Sre
theorem at1_win {text : Array Nat} {lim : Nat} {must : Bool} {s : Nat} {first : Bool} {seen : Sre.Seen} : ∃ m, Goes 3 { at1 text lim must s first seen with pc := 9, pos := s + 1 } m ∧ m.outcome = some .matched ∧ m.start = s ∧ m.handed = s + 1 := by
  have e0 : (s + 1 == s) = false := by simp
  have e1 : M.step { at1 text lim must s first seen with pc := 9, pos := s + 1 } = { at1 text lim must s first (seen.add 1) with pc := 9, pos := s + 1, handed := s + 1, answer := some true } := by
    show (if (first && ((false && (s + 1 != lim)) || (must && (s + 1 == s)))) = true then _ else _) = _
    rw [e0]
    have : (first && ((false && (s + 1 != lim)) || (must && false))) = false := by cases first <;> cases must <;> rfl
    rw [this]
    rfl
  refine ⟨_, (Goes.step rfl e1).trans ((Goes.step (m' := { at1 text lim must s first (seen.add 1) with pc := 5, pos := s, handed := s + 1, frames := [], weight := 0, answer := some true }) rfl rfl).trans (Goes.step rfl rfl)), rfl, rfl, rfl⟩
noncomputable def hit1 (text : Array Nat) (s : Nat) : Bool := bol text s && text.getD s 0 == 46
theorem at1_turn {text : Array Nat} {lim : Nat} {must : Bool} {s : Nat} {first : Bool} {seen : Sre.Seen} (hs : s < lim) (h : hit1 text s = false) : ∃ N seen', N ≤ 3 ∧ Goes N (at1 text lim must s first seen) (at1 text lim false (s + 1) false seen') := by
  cases hb : bol text s with
  | false =>
    obtain ⟨s1, e1⟩ := at1_no (lim := lim) (must := must) (first := first) (seen := seen) hb
    exact ⟨2, s1, by decide, (Goes.step rfl e1).trans (Goes.step rfl (at1_next (pc := 5) hs))⟩
  | true =>
    have hc : (text.getD s 0 == 46) = false := by
      unfold hit1 at h; rw [hb, Bool.true_and] at h; exact h
    obtain ⟨s1, e1⟩ := at1_yes (lim := lim) (must := must) (first := first) (seen := seen) hb
    obtain ⟨s2, e2⟩ := at1_lit_no (must := must) (first := first) (seen := s1) hs hc
    exact ⟨3, s2, by decide, (Goes.step rfl e1).trans ((Goes.step rfl e2).trans (Goes.step rfl (at1_next hs)))⟩
theorem at1_out {text : Array Nat} {lim : Nat} {must : Bool} {pc : Nat} {first : Bool} {seen : Sre.Seen} : Goes (1 + 1) { at1 text lim must lim first seen with pc := pc, answer := some false } { at1 text lim must lim first seen with frames := [], weight := 0, answer := some false, outcome := some .failed } := by
  unfold Goes; rw [runFor_add]; exact (congrArg (M.runFor 1) (runFor_one { at1 text lim must lim first seen with pc := pc, answer := some false } rfl)).trans (at1_over (Nat.lt_irrefl _))
theorem at1_last {text : Array Nat} {lim : Nat} {must : Bool} {first : Bool} {seen : Sre.Seen} : ∃ N m, N ≤ 4 ∧ Goes N (at1 text lim must lim first seen) m ∧ m.outcome = some .failed := by
  cases hb : bol text lim with
  | false =>
    obtain ⟨s1, e1⟩ := at1_no (lim := lim) (must := must) (first := first) (seen := seen) hb
    exact ⟨1 + (1 + 1), _, by decide, (Goes.step rfl e1).trans (at1_out (pc := 5) (seen := s1)), rfl⟩
  | true =>
    obtain ⟨s1, e1⟩ := at1_yes (lim := lim) (must := must) (first := first) (seen := seen) hb
    obtain ⟨s2, e2⟩ := at1_lit_end (text := text) (must := must) (first := first) (seen := s1) (Nat.le_refl lim)
    exact ⟨1 + (1 + (1 + 1)), _, by decide, (Goes.step rfl e1).trans ((Goes.step rfl e2).trans (at1_out (pc := 7) (seen := s2))), rfl⟩
theorem at1_walk {text : Array Nat} {lim : Nat} : ∀ (k s : Nat) (must first : Bool) (seen : Sre.Seen), s + k ≤ lim → (∀ i, s ≤ i → i < s + k → hit1 text i = false) → ∃ N must' first' seen', N ≤ 3 * k ∧ Goes N (at1 text lim must s first seen) (at1 text lim must' (s + k) first' seen')
  | 0, s, must, first, seen, _, _ => ⟨0, must, first, seen, Nat.le_refl _, rfl⟩
  | k + 1, s, must, first, seen, hl, h => by
    obtain ⟨N, seen1, h1, g1⟩ := at1_turn (lim := lim) (must := must) (first := first) (seen := seen) (by lia) (h s (Nat.le_refl _) (by lia))
    obtain ⟨N2, must', first', seen', h2, g2⟩ := at1_walk (text := text) (lim := lim) k (s + 1) false false seen1 (by lia) (fun i hi hi' => h i (by lia) (by lia))
    refine ⟨N + N2, must', first', seen', by lia, ?_⟩
    have : s + (k + 1) = s + 1 + k := by lia
    rw [this]
    exact g1.trans g2
theorem at1_hit {text : Array Nat} {lim : Nat} {must : Bool} {s : Nat} {first : Bool} {seen : Sre.Seen} (hs : s < lim) (h : hit1 text s = true) : ∃ m, Goes 5 (at1 text lim must s first seen) m ∧ m.outcome = some .matched ∧ m.start = s ∧ m.handed = s + 1 := by
  unfold hit1 at h
  obtain ⟨hb, hc⟩ := Bool.and_eq_true_iff.mp h
  obtain ⟨s1, e1⟩ := at1_yes (lim := lim) (must := must) (first := first) (seen := seen) hb
  obtain ⟨s2, e2⟩ := at1_lit_yes (must := must) (first := first) (seen := s1) hs hc
  obtain ⟨m, g, r⟩ := at1_win (text := text) (lim := lim) (must := must) (s := s) (first := first) (seen := s2)
  exact ⟨m, (Goes.step rfl e1).trans ((Goes.step rfl e2).trans g), r⟩
noncomputable def Srch (code text : Array Nat) (p : Nat) (must : Bool) : Option (Nat × Nat) → Prop
  | none => ∃ N m, N ≤ 1000000 ∧ Goes N (forSearch code text 0 p text.size must) m ∧ m.outcome = some .failed
  | some (a, b) => ∃ N m, N ≤ 1000000 ∧ Goes N (forSearch code text 0 p text.size must) m ∧ m.outcome = some .matched ∧ m.start = a ∧ m.handed = b
theorem for1 {text : Array Nat} {p : Nat} {must : Bool} (h : p < text.size) : ∃ seen, forSearch code1 text 0 p text.size must = at1 text text.size must p true seen := by
  refine ⟨({} : Sre.Seen).add 14, ?_⟩
  show (if (decide (p > text.size) || decide (text.size - p < 1)) = true then _ else _) = _
  rw [if_neg (by simp; lia)]
  rfl
theorem for1_end {text : Array Nat} {p : Nat} {must : Bool} (h : text.size ≤ p) : ∃ m, forSearch code1 text 0 p text.size must = m ∧ m.runFor 1 = { m with outcome := some .failed } := by
  refine ⟨_, rfl, ?_⟩
  have : forSearch code1 text 0 p text.size must = M.say { code := code1, text, lim := text.size, start := p, pc := 5, pos := p, handed := p, marks := Array.replicate (2 * 0) none, mustAdvance := must, seen := ({} : Sre.Seen).add 14 } false := by
    show (if (decide (p > text.size) || decide (text.size - p < 1)) = true then _ else _) = _
    rw [if_pos (by simp; lia)]
    rfl
  rw [this]
  rfl
theorem srch1_none {text : Array Nat} {p : Nat} {must : Bool} (hl : text.size ≤ 10000) (h : ∀ i, p ≤ i → i < text.size → hit1 text i = false) : Srch code1 text p must none := by
  by_cases hp : p < text.size
  · obtain ⟨seen, e⟩ := for1 (must := must) hp
    obtain ⟨N, must', first', seen', h1, g1⟩ := at1_walk (text := text) (lim := text.size) (text.size - p) p must true seen (by lia) (fun i hi hi' => h i hi (by lia))
    rw [show p + (text.size - p) = text.size by lia] at g1
    obtain ⟨N2, m, h2, g2, hm⟩ := at1_last (text := text) (lim := text.size) (must := must') (first := first') (seen := seen')
    exact ⟨N + N2, m, by lia, by rw [e]; exact g1.trans g2, hm⟩
  · obtain ⟨m, e, e2⟩ := for1_end (text := text) (p := p) (must := must) (by lia)
    exact ⟨1, _, by decide, by unfold Goes; rw [e, e2], rfl⟩
theorem srch1_some {text : Array Nat} {p a : Nat} {must : Bool} (hl : text.size ≤ 10000) (hpa : p ≤ a) (ha : a < text.size) (h : ∀ i, p ≤ i → i < a → hit1 text i = false) (hh : hit1 text a = true) : Srch code1 text p must (some (a, a + 1)) := by
  obtain ⟨seen, e⟩ := for1 (must := must) (show p < text.size by lia)
  obtain ⟨N, must', first', seen', h1, g1⟩ := at1_walk (text := text) (lim := text.size) (a - p) p must true seen (by lia) (fun i hi hi' => h i hi (by lia))
  rw [show p + (a - p) = a by lia] at g1
  obtain ⟨m, g2, hm⟩ := at1_hit (must := must') (first := first') (seen := seen') ha hh
  exact ⟨N + 5, m, by lia, by rw [e]; exact g1.trans g2, hm⟩
end
end
section
section
open PySem.Sre
noncomputable def code2 : Array Nat := #[14, 9, 4, 1, 2, 16, 10, 16, 13, 0, 7, 7, 16, 13, 16, 10, 15, 18, 5, 16, 10, 15, 13, 11, 16, 13, 5, 5, 0, 16, 10, 1, 15, 2, 0, 1]
noncomputable def st2 (text : Array Nat) (lim s : Nat) (seen : Sre.Seen) (pc pos handed : Nat) (outer : Bool) (frames : List Sre.Frame) (weight : Nat) (answer : Option Bool) : M :=
  { code := code2, text, lim, start := s, lastStart := lim, wholeText := false, mustAdvance := false, pc, pos, handed, outermost := outer, marks := #[], lastmark := -1, lastindex := -1, loops := #[], inner := none, frames, weight, answer, seen, outcome := none }
noncomputable def frS (s : Nat) (o : Bool) : Sre.Frame := { wait := .nextStart, pc := 10, pos := s, outermost := o }
noncomputable def frB (k s : Nat) (o : Bool) : Sre.Frame := { wait := .nextBranch, pc := k, pos := s, outermost := o }
noncomputable def frN (s : Nat) (o : Bool) : Sre.Frame := { wait := .lookNot, pc := 26, pos := s, outermost := o }
variable {text : Array Nat} {lim s pos handed wt : Nat} {seen : Sre.Seen} {o : Bool} {fs : List Sre.Frame}
noncomputable def isC (text : Array Nat) (lim pos c : Nat) : Bool := decide (pos < lim) && text.getD pos 0 == c
theorem isC_no {c : Nat} (h : isC text lim pos c = false) : pos ≥ lim ∨ (pos < lim ∧ (text.getD pos 0 == c) = false) := by
  unfold isC at h
  by_cases h1 : pos < lim
  · rw [decide_eq_true h1, Bool.true_and] at h; exact .inr ⟨h1, h⟩
  · exact .inl (Nat.le_of_not_lt h1)
theorem isC_yes {c : Nat} (h : isC text lim pos c = true) : pos < lim ∧ (text.getD pos 0 == c) = true := by
  unfold isC at h
  obtain ⟨h1, h2⟩ := Bool.and_eq_true_iff.mp h
  exact ⟨of_decide_eq_true h1, h2⟩
noncomputable def litRes (text : Array Nat) (lim s : Nat) (seen : Sre.Seen) (c pc pos handed : Nat) (o : Bool) (fs : List Sre.Frame) (wt : Nat) : M :=
  if pos ≥ lim then st2 text lim s (seen.add 16) pc pos handed o fs wt (some false) else match text.getD pos 0 == c with
    | false => st2 text lim s (seen.add 16) pc pos handed o fs wt (some false)
    | true => st2 text lim s (seen.add 16) (pc + 2) (pos + 1) handed o fs wt none
theorem lit_eq {pc c : Nat} (hpc : (pc = 12 ∧ c = 13) ∨ (pc = 14 ∧ c = 10) ∨ (pc = 19 ∧ c = 10) ∨ (pc = 24 ∧ c = 13) ∨ (pc = 29 ∧ c = 10)) : (st2 text lim s seen pc pos handed o fs wt none).step = litRes text lim s seen c pc pos handed o fs wt := by
  rcases hpc with ⟨rfl, rfl⟩ | ⟨rfl, rfl⟩ | ⟨rfl, rfl⟩ | ⟨rfl, rfl⟩ | ⟨rfl, rfl⟩ <;> kernel_rfl
theorem lit_no {pc c : Nat} (hpc : (pc = 12 ∧ c = 13) ∨ (pc = 14 ∧ c = 10) ∨ (pc = 19 ∧ c = 10) ∨ (pc = 24 ∧ c = 13) ∨ (pc = 29 ∧ c = 10)) (h : isC text lim pos c = false) : ∃ seen', (st2 text lim s seen pc pos handed o fs wt none).step = st2 text lim s seen' pc pos handed o fs wt (some false) := by
  refine ⟨seen.add 16, ?_⟩
  rw [lit_eq hpc]
  unfold litRes
  rcases isC_no h with h | ⟨h1, h2⟩
  · rw [if_pos h]
  · rw [if_neg (Nat.not_le.mpr h1), h2]
theorem lit_yes {pc c : Nat} (hpc : (pc = 12 ∧ c = 13) ∨ (pc = 14 ∧ c = 10) ∨ (pc = 19 ∧ c = 10) ∨ (pc = 24 ∧ c = 13) ∨ (pc = 29 ∧ c = 10)) (h : isC text lim pos c = true) : ∃ seen', (st2 text lim s seen pc pos handed o fs wt none).step = st2 text lim s seen' (pc + 2) (pos + 1) handed o fs wt none := by
  refine ⟨seen.add 16, ?_⟩
  rw [lit_eq hpc]
  unfold litRes
  obtain ⟨h1, h2⟩ := isC_yes h
  rw [if_neg (Nat.not_le.mpr h1), h2]
theorem st_branch : (st2 text lim s seen 10 pos handed o fs 1 none).step = st2 text lim s (seen.add 7) 12 pos pos o (frB 11 pos o :: fs) 2 none := rfl
theorem st_next1 : (st2 text lim s seen pc pos handed o' (frB 11 p o :: fs) 2 (some false)).step = st2 text lim s seen 19 p p o (frB 18 p o :: fs) 2 none := rfl
theorem st_next2 : (st2 text lim s seen pc pos handed o' (frB 18 p o :: fs) 2 (some false)).step = st2 text lim s seen 24 p p o (frB 23 p o :: fs) 2 none := rfl
theorem st_assert : (st2 text lim s seen 26 pos handed o fs 2 none).step = st2 text lim s (seen.add 5) 29 pos pos false (frN pos o :: fs) 3 none := rfl
theorem st_look : (st2 text lim s seen pc pos handed o' (frN p o :: fs) 3 (some false)).step = st2 text lim s seen 32 p handed o fs 2 none := rfl
theorem st_jump : (st2 text lim s seen 16 pos handed o fs wt none).step = st2 text lim s (seen.add 15) 35 pos handed o fs wt none := rfl
theorem st_jump2 : (st2 text lim s seen 21 pos handed o fs wt none).step = st2 text lim s (seen.add 15) 35 pos handed o fs wt none := rfl
theorem st_jump3 : (st2 text lim s seen 32 pos handed o fs wt none).step = st2 text lim s (seen.add 15) 35 pos handed o fs wt none := rfl
theorem st_win : (st2 text lim s seen 35 pos handed o fs wt none).step = st2 text lim s (seen.add 1) 35 pos pos o fs wt (some true) := by
  show (if (o && ((false && (pos != lim)) || (false && (pos == s)))) = true then _ else _) = _
  rw [show (o && ((false && (pos != lim)) || (false && (pos == s)))) = false by cases o <;> rfl]
  rfl
theorem st_o1 {k p pc : Nat} {o o' : Bool} {f : Sre.Frame} : (st2 text lim s seen pc pos handed o' [frB k p o, f] 2 (some true)).step = st2 text lim s seen k p handed o [f] 1 (some true) := rfl
theorem st_o2 {p pc : Nat} {o o' : Bool} : (st2 text lim s seen pc pos handed o' [frS p o] 1 (some true)).step = st2 text lim s seen 10 p handed o [] 0 (some true) := rfl
theorem st_o3 {pc : Nat} {o : Bool} : (st2 text lim s seen pc pos handed o [] 0 (some true)).step = { st2 text lim s seen pc pos handed o [] 0 (some true) with outcome := some .matched } := rfl
theorem st_out {k p : Nat} {o o' : Bool} {pc : Nat} {h' : Bool} : ∃ m, Goes 3 (st2 text lim s seen pc pos handed o' [frB k p o, frS s h'] 2 (some true)) m ∧ m.outcome = some .matched ∧ m.start = s ∧ m.handed = handed :=
  ⟨_, (Goes.step rfl st_o1).trans ((Goes.step rfl st_o2).trans (Goes.step rfl st_o3)), rfl, rfl, rfl⟩
noncomputable abbrev at2 (text : Array Nat) (lim s : Nat) (o : Bool) (seen : Sre.Seen) : M := st2 text lim s seen 10 s s o [frS s o] 1 none
theorem at2_lf (h : isC text lim s 10 = true) : ∃ N m, N ≤ 12 ∧ Goes N (at2 text lim s o seen) m ∧ m.outcome = some .matched ∧ m.start = s ∧ m.handed = s + 1 := by
  have h' : isC text lim s 13 = false := by
    obtain ⟨h1, h2⟩ := isC_yes h
    unfold isC
    have : text.getD s 0 = 10 := by simpa using h2
    rw [this]; simp
  obtain ⟨s1, e1⟩ := lit_no (s := s) (seen := seen.add 7) (handed := s) (o := o) (fs := [frB 11 s o, frS s o]) (wt := 2) (pc := 12) (by simp) h'
  obtain ⟨s2, e2⟩ := lit_yes (s := s) (seen := s1) (handed := s) (o := o) (fs := [frB 18 s o, frS s o]) (wt := 2) (pc := 19) (by simp) h
  obtain ⟨m, g, r⟩ := st_out (text := text) (lim := lim) (s := s) (seen := (s2.add 15).add 1) (pos := s + 1) (handed := s + 1) (pc := 35) (k := 18) (p := s) (o := o) (o' := o) (h' := o)
  exact ⟨_, m, by decide, (Goes.step rfl st_branch).trans ((Goes.step rfl e1).trans ((Goes.step rfl st_next1).trans ((Goes.step rfl e2).trans ((Goes.step rfl st_jump2).trans ((Goes.step rfl st_win).trans g))))), r⟩
theorem at2_crlf (h : isC text lim s 13 = true) (h2 : isC text lim (s + 1) 10 = true) : ∃ N m, N ≤ 12 ∧ Goes N (at2 text lim s o seen) m ∧ m.outcome = some .matched ∧ m.start = s ∧ m.handed = s + 2 := by
  obtain ⟨s1, e1⟩ := lit_yes (s := s) (seen := seen.add 7) (handed := s) (o := o) (fs := [frB 11 s o, frS s o]) (wt := 2) (pc := 12) (by simp) h
  obtain ⟨s2, e2⟩ := lit_yes (s := s) (seen := s1) (handed := s) (o := o) (fs := [frB 11 s o, frS s o]) (wt := 2) (pc := 14) (by simp) h2
  obtain ⟨m, g, r⟩ := st_out (text := text) (lim := lim) (s := s) (seen := (s2.add 15).add 1) (pos := s + 2) (handed := s + 2) (pc := 35) (k := 11) (p := s) (o := o) (o' := o) (h' := o)
  exact ⟨_, m, by decide, (Goes.step rfl st_branch).trans ((Goes.step rfl e1).trans ((Goes.step rfl e2).trans ((Goes.step rfl st_jump).trans ((Goes.step rfl st_win).trans g)))), r⟩
theorem at2_cr (h : isC text lim s 13 = true) (h2 : isC text lim (s + 1) 10 = false) : ∃ N m, N ≤ 20 ∧ Goes N (at2 text lim s o seen) m ∧ m.outcome = some .matched ∧ m.start = s ∧ m.handed = s + 1 := by
  have h' : isC text lim s 10 = false := by
    obtain ⟨h1, h2⟩ := isC_yes h
    unfold isC
    have : text.getD s 0 = 13 := by simpa using h2
    rw [this]; simp
  obtain ⟨s1, e1⟩ := lit_yes (s := s) (seen := seen.add 7) (handed := s) (o := o) (fs := [frB 11 s o, frS s o]) (wt := 2) (pc := 12) (by simp) h
  obtain ⟨s2, e2⟩ := lit_no (s := s) (seen := s1) (handed := s) (o := o) (fs := [frB 11 s o, frS s o]) (wt := 2) (pc := 14) (by simp) h2
  obtain ⟨s3, e3⟩ := lit_no (s := s) (seen := s2) (handed := s) (o := o) (fs := [frB 18 s o, frS s o]) (wt := 2) (pc := 19) (by simp) h'
  obtain ⟨s4, e4⟩ := lit_yes (s := s) (seen := s3) (handed := s) (o := o) (fs := [frB 23 s o, frS s o]) (wt := 2) (pc := 24) (by simp) h
  obtain ⟨s5, e5⟩ := lit_no (s := s) (seen := s4.add 5) (handed := s + 1) (o := false) (fs := [frN (s + 1) o, frB 23 s o, frS s o]) (wt := 3) (pc := 29) (by simp) h2
  obtain ⟨m, g, r⟩ := st_out (text := text) (lim := lim) (s := s) (seen := (s5.add 15).add 1) (pos := s + 1) (handed := s + 1) (pc := 35) (k := 23) (p := s) (o := o) (o' := o) (h' := o)
  exact ⟨_, m, by decide, (Goes.step rfl st_branch).trans ((Goes.step rfl e1).trans ((Goes.step rfl e2).trans ((Goes.step rfl st_next1).trans ((Goes.step rfl e3).trans ((Goes.step rfl st_next2).trans ((Goes.step rfl e4).trans ((Goes.step rfl st_assert).trans ((Goes.step rfl e5).trans ((Goes.step rfl st_look).trans ((Goes.step rfl st_jump3).trans ((Goes.step rfl st_win).trans g))))))))))), r⟩
end
end
section
section
open PySem.Sre
theorem inSet2 (c : Nat) (seen : Sre.Seen) : ∃ seen', inSet code2 c code2.size 5 true seen = .ok (c == 10 || c == 13, seen') := by
  have e : inSet code2 c code2.size 5 true seen = (if (c == 10) = true then .ok (true, seen.add 16) else if (c == 13) = true then .ok (true, (seen.add 16).add 16) else .ok (false, ((seen.add 16).add 16).add 0)) := by kernel_rfl
  rw [e]
  by_cases h1 : (c == 10) = true
  · rw [if_pos h1, h1]; exact ⟨_, rfl⟩
  · rw [if_neg h1]
    by_cases h2 : (c == 13) = true
    · rw [if_pos h2, h2, Bool.or_true]; exact ⟨_, rfl⟩
    · rw [if_neg h2]
      have e1 : (c == 10) = false := by simpa using h1
      have e2 : (c == 13) = false := by simpa using h2
      rw [e1, e2]; exact ⟨_, rfl⟩
noncomputable def isNL (text : Array Nat) (i : Nat) : Bool := text.getD i 0 == 10 || text.getD i 0 == 13
variable {text : Array Nat} {m : M}
theorem adm_step (hc : m.code = code2) (ht : m.text = text) {fuel s : Nat} {seen : Sre.Seen} (hs : s < m.lim) : ∃ seen', M.admitted m (fuel + 1) s seen = if isNL text s = true then .ok (some s, seen') else M.admitted m fuel (s + 1) seen' := by
  obtain ⟨seen', e⟩ := inSet2 (text.getD s 0) seen
  refine ⟨seen', ?_⟩
  conv => lhs; unfold M.admitted
  rw [if_neg (Nat.not_le.mpr hs), hc, ht, e]
  unfold isNL
  cases (text.getD s 0 == 10 || text.getD s 0 == 13) <;> rfl
theorem adm_some (hc : m.code = code2) (ht : m.text = text) {a : Nat} (ha : a < m.lim) (hh : isNL text a = true) : ∀ (k fuel s : Nat) (seen : Sre.Seen), s + k = a → k < fuel → (∀ i, s ≤ i → i < a → isNL text i = false) → ∃ seen', M.admitted m fuel s seen = .ok (some a, seen')
  | 0, fuel, s, seen, e, hf, h => by
    obtain ⟨fuel, rfl⟩ : ∃ g, fuel = g + 1 := ⟨fuel - 1, by lia⟩
    have : s = a := by lia
    subst this
    obtain ⟨seen', e⟩ := adm_step hc ht (fuel := fuel) (seen := seen) ha
    rw [if_pos hh] at e
    exact ⟨seen', e⟩
  | k + 1, fuel, s, seen, e, hf, h => by
    obtain ⟨fuel, rfl⟩ : ∃ g, fuel = g + 1 := ⟨fuel - 1, by lia⟩
    obtain ⟨seen', e'⟩ := adm_step hc ht (fuel := fuel) (seen := seen) (s := s) (by lia)
    rw [if_neg (by rw [h s (Nat.le_refl _) (by lia)]; exact Bool.false_ne_true)] at e'
    obtain ⟨seen2, e2⟩ := adm_some hc ht ha hh k fuel (s + 1) seen' (by lia) (by lia) (fun i hi hi' => h i (by lia) hi')
    exact ⟨seen2, by rw [e', e2]⟩
theorem adm_none (hc : m.code = code2) (ht : m.text = text) : ∀ (fuel s : Nat) (seen : Sre.Seen), (∀ i, s ≤ i → i < m.lim → isNL text i = false) → ∃ seen', M.admitted m fuel s seen = .ok (none, seen')
  | 0, s, seen, h => ⟨seen, rfl⟩
  | fuel + 1, s, seen, h => by
    by_cases hs : s < m.lim
    · obtain ⟨seen', e'⟩ := adm_step hc ht (fuel := fuel) (seen := seen) hs
      rw [if_neg (by rw [h s (Nat.le_refl _) hs]; exact Bool.false_ne_true)] at e'
      obtain ⟨seen2, e2⟩ := adm_none hc ht fuel (s + 1) seen' (fun i hi hi' => h i (by lia) hi')
      exact ⟨seen2, by rw [e', e2]⟩
    · exact ⟨seen, by unfold M.admitted; rw [if_pos (by lia)]⟩
noncomputable def m02 (text : Array Nat) (p : Nat) (must : Bool) : M := { code := code2, text, lim := text.size, start := p, lastStart := text.size, pc := 10, pos := p, handed := p, marks := #[], mustAdvance := must, seen := ({} : Sre.Seen).add 14 }
theorem for2 {p : Nat} {must : Bool} (h : p < text.size) : forSearch code2 text 0 p text.size must = (match M.admitted (m02 text p must) (text.size + 1 - p) p (({} : Sre.Seen).add 14) with
    | .ok (some s, seen) => M.attemptAt { m02 text p must with mustAdvance := false, seen } s true
    | .ok (none, seen) => M.say { m02 text p must with seen } false
    | .error why => M.stick (m02 text p must) why) := by
  show (if (decide (p > text.size) || decide (text.size - p < 1)) = true then _ else _) = _
  rw [if_neg (by simp; lia)]
  rfl
theorem for2_end {p : Nat} {must : Bool} (h : text.size ≤ p) : ∃ m, forSearch code2 text 0 p text.size must = m ∧ m.runFor 1 = { m with outcome := some .failed } := by
  refine ⟨_, rfl, ?_⟩
  have : forSearch code2 text 0 p text.size must = M.say { code := code2, text, lim := text.size, start := p, pc := 10, pos := p, handed := p, marks := Array.replicate (2 * 0) none, mustAdvance := must, seen := ({} : Sre.Seen).add 14 } false := by
    show (if (decide (p > text.size) || decide (text.size - p < 1)) = true then _ else _) = _
    rw [if_pos (by simp; lia)]
    rfl
  rw [this]
  rfl
theorem srch2_none {p : Nat} {must : Bool} (h : ∀ i, p ≤ i → i < text.size → isNL text i = false) : Srch code2 text p must none := by
  by_cases hp : p < text.size
  · obtain ⟨seen, e⟩ := adm_none (m := m02 text p must) (text := text) rfl rfl (text.size + 1 - p) p (({} : Sre.Seen).add 14) h
    have e2 := for2 (must := must) hp
    rw [e] at e2
    exact ⟨1, _, by decide, by unfold Goes; rw [e2], rfl⟩
  · obtain ⟨m, e, e2⟩ := for2_end (text := text) (p := p) (must := must) (by lia)
    exact ⟨1, _, by decide, by unfold Goes; rw [e, e2], rfl⟩
theorem srch2_some {p a : Nat} {must : Bool} (hpa : p ≤ a) (ha : a < text.size) (h : ∀ i, p ≤ i → i < a → isNL text i = false) (hh : isNL text a = true) :
    Srch code2 text p must (some (a, if (text.getD a 0 == 13 && isC text text.size (a + 1) 10) = true then a + 2 else a + 1)) := by
  obtain ⟨seen, e⟩ := adm_some (m := m02 text p must) (text := text) rfl rfl ha hh (a - p) (text.size + 1 - p) p (({} : Sre.Seen).add 14) (by lia) (by lia) h
  have e2 := for2 (must := must) (show p < text.size by lia)
  rw [e] at e2
  have e3 : forSearch code2 text 0 p text.size must = at2 text text.size a true seen := by rw [e2]; rfl
  have d13 : ∀ c, (text.getD a 0 == c) = true → isC text text.size a c = true := fun c hc => by unfold isC; rw [decide_eq_true ha, hc]; rfl
  unfold isNL at hh
  rcases Bool.or_eq_true_iff.mp hh with h10 | h13
  · have n13 : (text.getD a 0 == 13) = false := by
      have : text.getD a 0 = 10 := by simpa using h10
      rw [this]; rfl
    rw [n13, Bool.false_and, if_neg Bool.false_ne_true]
    obtain ⟨N, m, h1, g, r⟩ := at2_lf (seen := seen) (o := true) (d13 10 h10)
    exact ⟨N, m, by lia, by rw [e3]; exact g, r⟩
  · rw [h13, Bool.true_and]
    cases h2 : isC text text.size (a + 1) 10 with
    | true =>
      rw [if_pos rfl]
      obtain ⟨N, m, h1, g, r⟩ := at2_crlf (seen := seen) (o := true) (d13 13 h13) h2
      exact ⟨N, m, by lia, by rw [e3]; exact g, r⟩
    | false =>
      rw [if_neg Bool.false_ne_true]
      obtain ⟨N, m, h1, g, r⟩ := at2_cr (seen := seen) (o := true) (d13 13 h13) h2
      exact ⟨N, m, by lia, by rw [e3]; exact g, r⟩
end
end
section
section
inductive Subs (code text : Array Nat) (repl : List Nat) : Nat → Nat → List Nat → Prop
  | done {p} : Srch code text p false none → Subs code text repl 0 p (text.toList.drop p)
  | more {k p a b out} : Srch code text p false (some (a, b)) → p ≤ a → a < b → b ≤ text.size → Subs code text repl k b out → Subs code text repl (k + 1) p ((text.toList.drop p).take (a - p) ++ repl ++ out)
theorem firstHit (P : Nat → Bool) (n : Nat) : ∀ (k p : Nat), p + k = n → (∀ i, p ≤ i → i < n → P i = false) ∨ ∃ a, p ≤ a ∧ a < n ∧ P a = true ∧ ∀ i, p ≤ i → i < a → P i = false
  | 0, p, h => .inl fun i h1 h2 => by lia
  | k + 1, p, h => by
    cases hp : P p with
    | true => exact .inr ⟨p, Nat.le_refl _, by lia, hp, fun i h1 h2 => by lia⟩
    | false =>
      rcases firstHit P n k (p + 1) (by lia) with h' | ⟨a, h1, h2, h3, h4⟩
      · exact .inl fun i h1 h2 => by
          by_cases e : i = p
          · subst e; exact hp
          · exact h' i (by lia) h2
      · exact .inr ⟨a, by lia, h2, h3, fun i h5 h6 => by
          by_cases e : i = p
          · subst e; exact hp
          · exact h4 i (by lia) h6⟩
theorem drop_at {text : Array Nat} {p : Nat} (h : p < text.size) : text.toList.drop p = text.getD p 0 :: text.toList.drop (p + 1) := by
  rw [List.drop_eq_getElem_cons (by simpa using h)]
  simp [Array.getD, h]
noncomputable def stuff : Bool → List Nat → List Nat
  | _, [] => []
  | b, c :: r => if (b && c == 46) = true then 46 :: 46 :: stuff false r else c :: stuff (c == 10) r
theorem bol_next (text : Array Nat) (p : Nat) : bol text (p + 1) = (text.getD p 0 == 10) := by
  unfold bol; simp
theorem stuff_none {text : Array Nat} : ∀ (k p : Nat), p + k = text.size → (∀ i, p ≤ i → i < text.size → hit1 text i = false) → stuff (bol text p) (text.toList.drop p) = text.toList.drop p
  | 0, p, e, _ => by rw [List.drop_of_length_le (by simp; lia)]; rfl
  | k + 1, p, e, h => by
    rw [drop_at (by lia)]
    have hp := h p (Nat.le_refl _) (by lia)
    unfold hit1 at hp
    unfold stuff
    rw [hp, if_neg Bool.false_ne_true, ← bol_next, stuff_none k (p + 1) (by lia) fun i hi hi' => h i (by lia) hi']
theorem stuff_some {text : Array Nat} {a : Nat} (ha : a < text.size) (hh : hit1 text a = true) : ∀ (k p : Nat), p + k = a → (∀ i, p ≤ i → i < a → hit1 text i = false) →
    stuff (bol text p) (text.toList.drop p) = (text.toList.drop p).take (a - p) ++ [46, 46] ++ stuff (bol text (a + 1)) (text.toList.drop (a + 1))
  | 0, p, e, _ => by
    have : p = a := by lia
    subst this
    rw [drop_at ha, Nat.sub_self]
    unfold hit1 at hh
    have h46 : text.getD p 0 = 46 := by
      have := (Bool.and_eq_true_iff.mp hh).2
      simpa using this
    conv => lhs; unfold stuff
    rw [hh, if_pos rfl, bol_next, h46]
    rfl
  | k + 1, p, e, h => by
    have hp := h p (Nat.le_refl _) (by lia)
    unfold hit1 at hp
    have ih := stuff_some ha hh k (p + 1) (by lia) fun i hi hi' => h i (by lia) hi'
    rw [drop_at (show p < text.size by lia)]
    conv => lhs; unfold stuff
    rw [hp, if_neg Bool.false_ne_true, ← bol_next, ih]
    rw [show a - p = (a - (p + 1)) + 1 by rw [← e, Nat.add_sub_cancel_left, Nat.add_comm k 1, ← Nat.add_assoc, Nat.add_sub_cancel_left, Nat.add_comm], List.take_succ_cons]
    rfl
theorem subs1 {text : Array Nat} (hl : text.size ≤ 10000) : ∀ (n p : Nat), text.size - p ≤ n → p ≤ text.size → ∃ k, Subs code1 text [46, 46] k p (stuff (bol text p) (text.toList.drop p))
  | n, p, hn, hp => by
    rcases firstHit (hit1 text) text.size (text.size - p) p (by lia) with h | ⟨a, h1, h2, h3, h4⟩
    · refine ⟨0, ?_⟩
      rw [stuff_none (text.size - p) p (by lia) h]
      exact .done (srch1_none hl h)
    · rw [stuff_some h2 h3 (a - p) p (by lia) h4]
      cases n with
      | zero => lia
      | succ n =>
        obtain ⟨k, hk⟩ := subs1 hl n (a + 1) (by lia) (by lia)
        exact ⟨k + 1, .more (srch1_some hl h1 h2 h4 h3) h1 (by lia) (by lia) hk⟩
noncomputable def crlf : List Nat → List Nat
  | [] => []
  | [c] => if (c == 10 || c == 13) = true then [13, 10] else [c]
  | c :: d :: r => if (c == 13 && d == 10) = true then 13 :: 10 :: crlf r else if (c == 10 || c == 13) = true then 13 :: 10 :: crlf (d :: r) else c :: crlf (d :: r)
theorem crlf_plain {c : Nat} {r : List Nat} (h : (c == 10 || c == 13) = false) : crlf (c :: r) = c :: crlf r := by
  have h' : (c == 13) = false := (Bool.or_eq_false_iff.mp h).2
  cases r with
  | nil => unfold crlf; rw [h, if_neg Bool.false_ne_true]
  | cons d r =>
    conv => lhs; unfold crlf
    have e1 : (c == 13 && d == 10) = false := by rw [h']; rfl
    rw [e1, if_neg Bool.false_ne_true, h, if_neg Bool.false_ne_true]
theorem crlf_two (r : List Nat) : crlf (13 :: 10 :: r) = 13 :: 10 :: crlf r := by
  conv => lhs; unfold crlf
  exact if_pos rfl
theorem crlf_one {c : Nat} {r : List Nat} (h : (c == 10 || c == 13) = true) (h' : ∀ s, ¬ (c = 13 ∧ r = 10 :: s)) : crlf (c :: r) = 13 :: 10 :: crlf r := by
  cases r with
  | nil => unfold crlf; rw [h, if_pos rfl]
  | cons d r =>
    conv => lhs; unfold crlf
    have : (c == 13 && d == 10) = false := by
      cases hc : (c == 13 && d == 10) with
      | false => rfl
      | true =>
        obtain ⟨h1, h2⟩ := Bool.and_eq_true_iff.mp hc
        exact absurd ⟨by simpa using h1, by rw [show d = 10 by simpa using h2]⟩ (h' r)
    rw [this, if_neg Bool.false_ne_true, h, if_pos rfl]
theorem crlf_none {text : Array Nat} : ∀ (k p : Nat), p + k = text.size → (∀ i, p ≤ i → i < text.size → isNL text i = false) → crlf (text.toList.drop p) = text.toList.drop p
  | 0, p, e, _ => by rw [List.drop_of_length_le (by simp; lia)]; rfl
  | k + 1, p, e, h => by
    rw [drop_at (by lia)]
    rw [crlf_plain (h p (Nat.le_refl _) (by lia)), crlf_none k (p + 1) (by lia) fun i hi hi' => h i (by lia) hi']
theorem crlf_some {text : Array Nat} {a : Nat} (ha : a < text.size) (hh : isNL text a = true) : ∀ (k p : Nat), p + k = a → (∀ i, p ≤ i → i < a → isNL text i = false) →
    crlf (text.toList.drop p) = (text.toList.drop p).take (a - p) ++ [13, 10] ++ crlf (text.toList.drop (if (text.getD a 0 == 13 && isC text text.size (a + 1) 10) = true then a + 2 else a + 1))
  | 0, p, e, _ => by
    have : p = a := by lia
    subst this
    rw [Nat.sub_self, List.take_zero, List.nil_append]
    cases hc : (text.getD p 0 == 13 && isC text text.size (p + 1) 10) with
    | true =>
      rw [if_pos rfl]
      obtain ⟨h1, h2⟩ := Bool.and_eq_true_iff.mp hc
      obtain ⟨h3, h4⟩ := isC_yes h2
      rw [drop_at ha, drop_at h3, show text.getD p 0 = 13 by simpa using h1, show text.getD (p + 1) 0 = 10 by simpa using h4, crlf_two]
      rfl
    | false =>
      rw [if_neg Bool.false_ne_true, drop_at ha]
      rw [crlf_one hh ?_]
      · rfl
      · rintro s ⟨h1, h2⟩
        have hlt : p + 1 < text.size := by
          rcases Nat.lt_or_ge (p + 1) text.size with h | h
          · exact h
          · rw [List.drop_of_length_le (by simp; lia)] at h2; cases h2
        rw [drop_at hlt] at h2
        injection h2 with h2 _
        rw [h1] at hc
        unfold isC at hc
        rw [decide_eq_true hlt, h2] at hc
        cases hc
  | k + 1, p, e, h => by
    have ih := crlf_some ha hh k (p + 1) (by lia) fun i hi hi' => h i (by lia) hi'
    rw [drop_at (show p < text.size by lia), crlf_plain (h p (Nat.le_refl _) (by lia)), ih]
    rw [show a - p = (a - (p + 1)) + 1 by rw [← e, Nat.add_sub_cancel_left, Nat.add_comm k 1, ← Nat.add_assoc, Nat.add_sub_cancel_left, Nat.add_comm], List.take_succ_cons]
    rfl
theorem subs2 {text : Array Nat} : ∀ (n p : Nat), text.size - p ≤ n → p ≤ text.size → ∃ k, Subs code2 text [13, 10] k p (crlf (text.toList.drop p))
  | n, p, hn, hp => by
    rcases firstHit (isNL text) text.size (text.size - p) p (by lia) with h | ⟨a, h1, h2, h3, h4⟩
    · refine ⟨0, ?_⟩
      rw [crlf_none (text.size - p) p (by lia) h]
      exact .done (srch2_none h)
    · rw [crlf_some h2 h3 (a - p) p (by lia) h4]
      have hb : ∀ b, b = (if (text.getD a 0 == 13 && isC text text.size (a + 1) 10) = true then a + 2 else a + 1) → b ≤ text.size ∧ a < b := by
        intro b hb
        by_cases hc : (text.getD a 0 == 13 && isC text text.size (a + 1) 10) = true
        · rw [if_pos hc] at hb
          have := (isC_yes (Bool.and_eq_true_iff.mp hc).2).1
          lia
        · rw [if_neg hc] at hb
          lia
      have hb := hb _ rfl
      cases n with
      | zero => lia
      | succ n =>
        obtain ⟨k, hk⟩ := subs2 n _ (by lia) hb.1
        exact ⟨k + 1, .more (srch2_some h1 h2 h4 h3) h1 hb.2 hb.1 hk⟩
end
end
section
section
open PySem.Builtin PySem.Builtin.Re
variable {w : World} {A : Around} {E : Value → Shared → Prop} {s : Shared}
theorem reDrive_done : ∀ (turns n : Nat) (m : Sre.M) (Q : Sre.M → Shared → Prop), n < turns → (m.runFor (4 * n)).outcome.isSome = true → Q (m.runFor (4 * n)) s → wpAny (model pw w) A (reDrive turns m) Q E s
  | 0, n, m, Q, h, _, _ => absurd h (Nat.not_lt_zero _)
  | t + 1, 0, m, Q, _, h2, h3 => by
    have e : m.runFor 4 = m := runFor_done 4 m h2
    show wpAny _ A (if (m.runFor 4).outcome.isSome = true then pure (m.runFor 4) else _) Q E s
    rw [if_pos (by rw [e]; exact h2), e]
    exact wpAny_pure h3
  | t + 1, n + 1, m, Q, h1, h2, h3 => by
    have e : m.runFor (4 * (n + 1)) = (m.runFor 4).runFor (4 * n) := by rw [← runFor_add]; congr 1; lia
    show wpAny _ A (if (m.runFor 4).outcome.isSome = true then pure (m.runFor 4) else _) Q E s
    by_cases hc : (m.runFor 4).outcome.isSome = true
    · rw [if_pos hc]
      rw [e, runFor_done _ _ hc] at h3
      exact wpAny_pure h3
    · rw [if_neg hc]
      rw [e] at h2 h3
      exact wpAny_bind (wpAny_rule (reDrive_done t n (m.runFor 4) Q (by lia) h2 h3))
theorem rules_pass (m : Sre.M) (Q : PUnit → Shared → Prop) (h : Q ⟨⟩ s) : ∀ l : List Nat, wpAny (model pw w) A (forIn l PUnit.unit fun i _ => (if m.seen.has i = true then (do rule (Sre.names.getD i ""); pure (ForInStep.yield PUnit.unit)) else pure (ForInStep.yield PUnit.unit) : Sem (ForInStep PUnit))) Q E s
  | [] => wpAny_pure h
  | i :: l => by
    rw [List.forIn_cons]
    refine wpAny_bind ?_
    split
    · exact wpAny_bind (wpAny_rule (wpAny_pure (rules_pass m Q h l)))
    · exact wpAny_pure (rules_pass m Q h l)
theorem runToEnd {m₀ m : Sre.M} {N : Nat} (hN : N ≤ 1000000) (hg : Goes N m₀ m) (ho : m.outcome.isSome = true) {Q : Option Sre.M → Shared → Prop}
    (h : wpAny (model pw w) A (match m.outcome with | some .matched => pure (some m) | some .failed => pure none | some (.stuck why) => unsupported s!"_sre:{why}" | none => unsupported "internal:sre:no-outcome") Q E s) : wpAny (model pw w) A (reRunToEnd m₀) Q E s := by
  have e : m₀.runFor (4 * N) = m := by
    rw [show 4 * N = N + 3 * N by lia, runFor_add]
    have : m₀.runFor N = m := hg
    rw [this, runFor_done _ _ ho]
  unfold reRunToEnd
  refine wpAny_bind (reDrive_done (2 ^ 64) N m₀ _ (by lia) (by rw [e]; exact ho) ?_)
  rw [e]
  exact wpAny_bind (rules_pass m _ h _)
theorem next_none {T : ReTarget} {p : Nat} {Q : Option Sre.M → Shared → Prop} (hg : T.groups = 0) (hl : T.lim = T.text.size) (hs : Srch T.code T.text p false none) (h : Q none s) : wpAny (model pw w) A (reNextFound T p false) Q E s := by
  obtain ⟨N, m, h1, h2, h3⟩ := hs
  unfold reNextFound
  rw [hg, hl]
  refine runToEnd h1 h2 (by rw [h3]; rfl) ?_
  rw [h3]
  exact wpAny_pure h
theorem next_some {T : ReTarget} {p a b : Nat} {Q : Option Sre.M → Shared → Prop} (hg : T.groups = 0) (hl : T.lim = T.text.size) (hs : Srch T.code T.text p false (some (a, b))) (h : ∀ m : Sre.M, m.start = a → m.handed = b → Q (some m) s) : wpAny (model pw w) A (reNextFound T p false) Q E s := by
  obtain ⟨N, m, h1, h2, h3, h4, h5⟩ := hs
  unfold reNextFound
  rw [hg, hl]
  refine runToEnd h1 h2 (by rw [h3]; rfl) ?_
  rw [h3]
  exact wpAny_pure (h m h4 h5)
end
end
section
section
variable {w : World} {F : Fm} {n : Nat} {σ : St}
theorem maps_rev {ρ : Km} : ∀ {names : List Str} {ds : List D} {vs : List Value} {m : List (Str × D)} {l : List (Str × Value)}, All2 (Val ρ) ds vs → (∀ x d, lk m x = some d → ∃ v, l.lookup x = some v ∧ Val ρ d v) →
    ∀ x d, lk ((names.zip ds).foldl (fun m p => setl m p.1 p.2) m) x = some d → ∃ v, ((names.zip vs).reverse ++ l).lookup x = some v ∧ Val ρ d v
  | [], ds, vs, m, l, _, hm => by simpa using hm
  | y :: names, _, _, m, l, .nil, hm => by simpa using hm
  | y :: names, d :: ds, v :: vs, m, l, .cons h1 h2, hm => by
    intro x e he
    simp only [List.zip_cons_cons, List.foldl_cons] at he
    have := maps_rev (names := names) (l := (y, v) :: l) h2 (m := setl m y d) (fun x e he => by
      rw [lk_setl] at he
      by_cases hx : x = y
      · rw [if_pos hx] at he; cases he; subst hx; exact ⟨v, by simp, h1⟩
      · rw [if_neg hx] at he
        obtain ⟨u, q1, q2⟩ := hm x e he
        exact ⟨u, by rw [List.lookup_cons, show (x == y) = false by simpa using hx]; exact q1, q2⟩) x e he
    simpa using this
theorem wL_callD {fdd : FuncData} {a : Addr} {o : Obj} {body : List Stmt} (ho : (X1 w).get? a = some o) (hd : o.data = .func fdd) (hcd : (X1 w).CodeRec fdd.code fdd.qualname) (hbody : fdd.body = .stmts body) (hgl : fdd.globals = mainGlobals) (hbl : fdd.builtins = builtinsNs) (hclo : fdd.closure = [])
    {names : List Str} {ds dsC dsX : List D} {vsX : List Value} {ks : List Nat} {objsC : List (Nat × Sp)} (hks : argsOk' ks σ.objs ds = true) (hds : ds.map (ren ks 0) = dsC) (hobj : freezeAll (newsFrom 0 ks σ.objs 0 ks) = objsC)
    (hX : ∀ ρ, All2 (Val ρ) dsX vsX)
    (hbind : ∀ s : Shared, (∀ b o, (X1 w).get? b = some o → s.heap.get? b = some o) → ∀ vs : List Value, vs.length = ds.length → BindsTo s fdd ⟨vs, []⟩ (names.zip (vs ++ vsX)))
    (hkind : ∀ x ∈ names, fdd.scope.names.lookup x = some .local) (hcell : ∀ x ∈ fdd.scope.names, x.2 ≠ .cell)
    {locs : List (Str × D)} (hl : (names.zip (dsC ++ dsX)).foldl (fun m p => setl m p.1 p.2) [] = locs) (hco : fdd.scope.isCoroutine = false) (hgen : fdd.scope.isGenerator = false) (hk : fdd.scope.kind = .function) {Q : D → St → Prop}
    (hb : WB w ⟨fdd.scope.names, true⟩ n ks.length ⟨locs, [], objsC, ks.length⟩ body (fun fl σ' => ∃ d pick, (fl = .ret d ∨ (fl = .next ∧ d = .none)) ∧ pickOk pick σ'.objs = true ∧ refIn pick d = true ∧ Q (ren pick σ.nx d) (σ.adopt pick σ'.objs))) :
    WL w F (n + 1) Val σ ds (fun _ vs => call (.ref a) vs) Q := by
  intro os env κ ρ s A E vs ok z r hv
  simp only [argsOk', Bool.and_eq_true] at hks
  let ρ₀ : Km := fun j => (ks[j]?).bind ρ
  have hval : ∀ d v, refIn ks d = true → Val ρ d v → Val ρ₀ (ren ks 0 d) v := fun d v hc hv => by
    cases d <;> try exact hv
    rename_i k
    obtain ⟨a, e, rfl⟩ := hv
    refine ⟨a, ?_, rfl⟩
    have hl : idx ks k < ks.length := by simpa [refIn, Nat.blt_eq] using hc
    show (ks[0 + idx ks k]?).bind ρ = some a
    rw [Nat.zero_add, idx_get ks k hl]; exact e
  have hvals : ∀ {ds : List D} {vs : List Value}, All2 (Val ρ) ds vs → ds.all (refIn ks) = true → All2 (Val ρ₀) (ds.map (ren ks 0)) vs := by
    intro ds vs h
    induction h with
    | nil => intro _; exact .nil
    | cons h1 _ ih =>
      intro h
      simp only [List.all_cons, Bool.and_eq_true] at h
      exact .cons (hval _ _ h.1 h1) (ih h.2)
  have hvC : All2 (Val ρ₀) (dsC ++ dsX) (vs ++ vsX) := All2.append (hds ▸ hvals hv hks.2) (hX ρ₀)
  have hr0 : ∀ {j a}, ρ₀ j = some a → ∃ k, ks[j]? = some k ∧ ρ k = some a := fun {j a} e => by
    obtain ⟨k, h1, h2⟩ := Option.bind_eq_some_iff.mp e
    exact ⟨k, h1, h2⟩
  refine wpAny_call (codeAny_call_def (by have := r.d; lia) (z.x1 _ _ ho) hd ((X1_nolimit w).keeps z.x1) (hcd.keeps z.x1) hbody (hbind s z.x1 vs hv.len.symm) hcell (fun x hx => hkind _ (List.of_mem_zip hx).1) ?_ hco hgen hk)
  intro h₁ hns hkeep
  let env' : Env := callEnv fdd s.heap.objs.size a
  have fresh : ∀ b, s.heap.objs.size ≤ b → s.heap.get? b = Option.none := fun b hb => by
    cases e : s.heap.get? b with
    | none => rfl
    | some o' => exact absurd (Heap.lt_size e) (Nat.not_lt.mpr hb)
  have nocell : ∀ (l : List (Str × NameKind)), (∀ x ∈ l, x.2 ≠ NameKind.cell) → ∀ x, l.lookup x ≠ some NameKind.cell := fun l hl x e => hl _ (mem_of_lookup e) rfl
  have ok' : (⟨fdd.scope.names, true⟩ : Fm).Ok env' := ⟨rfl, hk, hgl, hbl, fun _ x hx => absurd hx (nocell _ hcell x)⟩
  have hce : env'.cells = [] := hclo
  have z' : Z w os env' true (fun b => s.heap.get? b) ρ₀ ⟨locs, [], objsC, ks.length⟩ { s with heap := h₁, toks := s.toks + (names.zip (vs ++ vsX)).length } := by
    refine ⟨z.x1, hkeep, ⟨_, hns, ?_⟩, fresh _ (Nat.le_refl _), (fun _ _ e => nomatch e), (fun x c e => by rw [hce] at e; cases e), (fun x y c e _ => by rw [hce] at e; cases e), ?_, ?_, ?_, z.os, z.gens⟩
    · intro x d e
      have e : lk locs x = some d := e
      rw [← hl] at e
      have := maps_rev (names := names) (l := []) hvC (m := []) (fun _ _ e => nomatch e) x d e
      simpa using this
    · intro k sp e
      have e : fd objsC k = some sp := e
      rw [← hobj, fd_freeze] at e
      obtain ⟨sp', e1, rfl⟩ := Option.map_eq_some_iff.mp e
      obtain ⟨m, k', g1, rfl, rfl⟩ := fd_news _ _ _ _ e1
      have hk := List.all_eq_true.mp hks.1.2 k' (List.mem_of_getElem? g1)
      cases e2 : fd σ.objs k' with
      | none => rw [e2] at hk; cases hk
      | some spk =>
        rw [e2] at hk
        obtain ⟨b, h1, ⟨o', vs', n', q1, q2, q3, q4, q5⟩, _⟩ := z.obj k' spk e2
        refine ⟨b, ?_, ⟨o', vs', n', hkeep b o' q1, ?_, q3, ?_, ?_⟩, fun h => nomatch h⟩
        · show (ks[0 + 0 + m]?).bind ρ = some b
          rw [show 0 + 0 + m = m by lia, g1]; exact h1
        · rw [Option.getD_some]; exact q2
        · rw [Option.getD_some]; exact q4
        · rw [Option.getD_some]; exact hvals q5 hk
    · intro k b e
      obtain ⟨k', g1, g2⟩ := hr0 e
      obtain ⟨h1, _, o', h2⟩ := z.lt k' b g2
      exact ⟨(List.getElem?_eq_some_iff.mp g1).1, Nat.ne_of_lt (Heap.lt_size h2), o', hkeep _ _ h2⟩
    · intro k k' b e e'
      obtain ⟨j, g1, g2⟩ := hr0 e
      obtain ⟨j', g1', g2'⟩ := hr0 e'
      have := z.inj _ _ _ g2 g2'
      subst this
      exact distinct_inj ks hks.1.1 _ _ _ g1 g1'
  refine wpAny_mono (hb (Nat.le_refl _) os env' _ ρ₀ _ (A.deeper env') (fun _ _ => False) ok' z' (room_deeper r)) (fun f s' h' => ?_) fun _ _ x => x.elim
  obtain ⟨ρ', fl, σ', g1, g2, g3, g4, d, pick, g5, g6, g7, g9⟩ := h'
  have zg : Z w os env F.cw κ ρ σ s' := z.grown (fun b o e => g4.keep b o e) (g4.os.trans z.os.symm) g4.gens
  obtain ⟨ρ'', j1, j3, j4⟩ := zg.adopt g4 (fun b hb => by
    have := z.apart (a := b) hb
    exact ⟨this.r, this.k, this.l, this.c⟩) g6
  have hnx : σ.nx ≤ (σ.adopt pick σ'.objs).nx := Nat.le_add_right _ _
  rcases g5 with rfl | ⟨rfl, rfl⟩
  · obtain ⟨v, rfl, hv'⟩ := g3
    exact ⟨ρ'', ren pick σ.nx d, σ.adopt pick σ'.objs, hnx, j1, j3 _ _ g7 hv', j4, g9⟩
  · cases g3
    exact ⟨ρ'', .none, σ.adopt pick σ'.objs, hnx, j1, vN, j4, g9⟩
end
end
section
section
noncomputable def rd (st : Setting) (g : Addr → Option Obj) : Nat → (α : Type) → Nat → Sem α → Option (α × Nat)
  | 0, _, _, _ => none
  | n + 1, α, tk, t => match t with
    | .pure a => some (a, tk)
    | .rule _ k => rd st g n α tk (k ())
    | .at _ k => rd st g n α tk (k ())
    | .load a _ k => match g a with
      | some o => rd st g n α tk (k o)
      | none => none
    | .point _ k => rd st g n α tk (k ())
    | .fresh k => rd st g n α (tk + 1) (k tk)
    | .ask k => rd st g n α tk (k st)
    | _ => none
theorem rd_spec {M : Model} {A : Around} {E : Value → Shared → Prop} {g : Addr → Option Obj} {s₀ : Shared} (hg : ∀ b o, g b = some o → s₀.heap.get? b = some o) : ∀ (n : Nat) (α : Type) (tk : Nat) (t : Sem α) (a : α) (tk' : Nat), rd ⟨M.prog, M.w.params⟩ g n α tk t = some (a, tk') →
    ∀ (Q : α → Shared → Prop), Q a { s₀ with toks := tk' } → wpAny M A t Q E { s₀ with toks := tk }
  | 0, _, _, _, _, _, h => by cases (show (none : Option _) = some _ from h)
  | n + 1, α, tk, t, a, tk', h => by
    intro Q hQ
    have IH := rd_spec (M := M) (A := A) (E := E) hg n
    cases t with
    | pure a0 => cases (show some (a0, tk) = some (a, tk') from h); exact wpAny_pure hQ
    | rule tag k => exact fun Γ p hΓ => (IH _ _ _ _ _ h Q hQ) Γ p hΓ
    | «at» q k => exact fun Γ p hΓ => (IH _ _ _ _ _ h Q hQ) Γ q hΓ
    | load b part k =>
      have h : (match g b with | some o => rd ⟨M.prog, M.w.params⟩ g n α tk (k o) | none => none) = some (a, tk') := h
      cases e : g b with
      | none => rw [e] at h; cases h
      | some o => rw [e] at h; exact fun Γ p hΓ => ⟨o, hg b o e, (IH _ _ _ _ _ h Q hQ) Γ p hΓ⟩
    | point l k => exact fun Γ p hΓ => (IH _ _ _ _ _ h Q hQ) Γ p hΓ
    | fresh k => exact fun Γ p hΓ => (IH _ _ _ _ _ h Q hQ) Γ p hΓ
    | ask k => exact fun Γ p hΓ => (IH _ _ _ _ _ h Q hQ) Γ p hΓ
    | unsupported | finish | register | choose | os | newGen | genState | resume | «yield» | fork | await | raise | alloc | update | loadIfAlive | handled | stack | thread | call => cases (show (none : Option (α × Nat)) = some (a, tk') from h)
theorem wpAny_rd {M : Model} {A : Around} {E : Value → Shared → Prop} {g : Addr → Option Obj} {s : Shared} (n : Nat) {α : Type} {t : Sem α} {a : α} {tk' : Nat} {Q : α → Shared → Prop} (h : rd ⟨M.prog, M.w.params⟩ g n α s.toks t = some (a, tk')) (hg : ∀ b o, g b = some o → s.heap.get? b = some o)
    (hQ : Q a { s with toks := tk' }) : wpAny M A t Q E s := rd_spec hg n α s.toks t a tk' h Q hQ
end
end
section
section
open PySem.Builtin PySem.Builtin.Re
variable {w : World} {A : Around} {E : Value → Shared → Prop} {s : Shared}
theorem e_sub : entryFor table "re.Pattern.sub" = some Builtin.«re.Pattern.sub» := entryFor_of_tree (by kernel_rfl)
theorem e_loop : entryFor table "re.Pattern.sub.loop" = some Builtin.«re.Pattern.sub.loop» := entryFor_of_tree (by kernel_rfl)
theorem p_sub : plainId "re.Pattern.sub" = true := by decide +kernel
theorem p_loop : plainId "re.Pattern.sub.loop" = true := by decide +kernel
noncomputable def tgt (P : Value) (code : Array Nat) (x : Str) (u : Nat) : ReTarget := { pattern := P, string := .str x u, code, text := x.cps, kind := 0, groups := 0, pos := 0, lim := x.cps.size }
theorem t1_rd (w : World) (st : Setting) (x : Str) (u tk : Nat) : rd st (fun a => (X1 w).get? a) 300 _ tk (reWholeTarget (.ref 66) (.str x u)) = some (tgt (.ref 66) code1 x u, tk) := by kernel_rfl
theorem t2_rd (w : World) (st : Setting) (x : Str) (u tk : Nat) : rd st (fun a => (X1 w).get? a) 300 _ tk (reWholeTarget (.ref 71) (.str x u)) = some (tgt (.ref 71) code2 x u, tk) := by kernel_rfl
theorem c1_rd (w : World) (st : Setting) (r x : Str) (t u tk : Nat) : rd st (fun a => (X1 w).get? a) 300 _ tk (checkBuiltinCall "re.Pattern.sub" ⟨[.ref 66, .str r t, .str x u], []⟩) = some ((), tk) := by kernel_rfl
end
section
open PySem.Builtin PySem.Builtin.Re
variable {w : World} {A : Around} {E : Value → Shared → Prop} {s : Shared}
noncomputable def loopArgs (P : Value) (x : Str) (u : Nat) (r : Str) (t : Nat) (n p : Int) (L : Addr) : Args := ⟨[P, .str x u, .str r t, rawInt 0, rawInt 0, rawInt n, rawInt p, rawInt p, .bool false, .ref L, .bool false], []⟩
noncomputable def goOn (P : Value) (x : Str) (u : Nat) (r : Str) (t : Nat) (n : Int) (L : Addr) (m : Sre.M) : Sem Fin := do
  updateSeq L (·.push (.str r t))
  again (.builtin "re.Pattern.sub.loop" ⟨[P, .str x u, .str r t, rawInt 0, rawInt 0, rawInt (n + 1), rawInt m.handed, rawInt m.handed, .bool (m.handed == m.start), .ref L, .bool false], []⟩)
noncomputable def foundNext (T : ReTarget) (P : Value) (x : Str) (u : Nat) (r : Str) (t : Nat) (n p : Int) (L : Addr) (m : Sre.M) : Sem Fin :=
  if p.toNat < m.start then (do let v ← reSlice T.text T.kind p.toNat m.start; updateSeq L (·.push v); goOn P x u r t n L m) else goOn P x u r t n L m
noncomputable def foundTail (T : ReTarget) (L : Addr) : Sem Fin := do
  let joiner ← reSlice T.text T.kind 0 0
  let text ← if ((← seqItems? (.ref L)).getD #[]).isEmpty then pure joiner
    else call (.builtin (if T.kind == 0 then "str.join" else "bytes.join")) [joiner, .ref L]
  ret text
noncomputable def foundNo (T : ReTarget) (p : Int) (L : Addr) : Sem Fin :=
  if p.toNat < T.lim then (do let v ← reSlice T.text T.kind p.toNat T.lim; updateSeq L (·.push v); foundTail T L) else foundTail T L
theorem loop_eq (P : Value) (x : Str) (u : Nat) (r : Str) (t : Nat) (n p : Int) (L : Addr) : Builtin.«re.Pattern.sub.loop» (loopArgs P x u r t n p L) = (do
    let T ← reWholeTarget P (.str x u)
    reLiteralCannotBeTurned (.str r t)
    match ← reNextFound T p.toNat false with
    | some m => foundNext T P x u r t n p L m
    | none => foundNo T p L) := by rfl
theorem lit_ok (r : Str) (t : Nat) : reLiteralCannotBeTurned (.str r t) = pure () := by rfl
noncomputable def cat (ys : List Str) : List Nat := ys.flatMap (·.cps.toList)
theorem glue_nil : ∀ (ys : List Str) (acc : Array Nat), (ys.foldl (fun acc p => acc ++ (#[] : Array Nat) ++ p.cps) acc).toList = acc.toList ++ cat ys
  | [], acc => by simp [cat]
  | y :: ys, acc => by
    rw [List.foldl_cons, glue_nil ys]
    simp [cat]
theorem join_cat (ys : List Str) : Txt.join ⟨#[]⟩ ys = ⟨(cat ys).toArray⟩ := by
  unfold Txt.join Str.glued
  cases ys with
  | nil => rfl
  | cons y ys =>
    have := glue_nil ys y.cps
    show (⟨ys.foldl (fun acc p => acc ++ (#[] : Array Nat) ++ p.cps) y.cps⟩ : Str) = _
    congr 1
    apply Array.ext'
    rw [this]
    simp [cat]
end
end
section
section
open PySem.Builtin PySem.Builtin.Re
variable {w : World} {A : Around} {E : Value → Shared → Prop}
noncomputable def noK : Km := fun _ => Option.none
theorem strsD_map : ∀ (ys : List Str), strsD (ys.map D.str) = some ys
  | [] => rfl
  | y :: ys => by simp [strsD, strsD_map ys]
theorem cat_app (ys zs : List Str) : cat (ys ++ zs) = cat ys ++ cat zs := by simp [cat]
theorem cat_one (y : Str) : cat [y] = y.cps.toList := by simp [cat]
theorem cat_len (ys : List Str) : (ys.map (·.length)).sum = (cat ys).length := by
  induction ys with
  | nil => rfl
  | cons y ys ih => simp [cat] at ih ⊢; simp [Str.length] at ih ⊢
theorem seq_upd {h : Heap} {L : Addr} {vals : List Value} {n : Nat} (hL : h.get? L = some (seqO "list" vals n)) (v : Value) : ∃ m, (h.update L (Obj.mapSeq (·.push v))).get? L = some (seqO "list" (vals ++ [v]) m) ∧ ∀ b o, b ≠ L → h.get? b = some o → (h.update L (Obj.mapSeq (·.push v))).get? b = some o := by
  obtain ⟨m, hm⟩ := set_seq (l := L) (items := vals.toArray) (n := n) hL (·.push v)
  refine ⟨m, ?_, fun b o hb e => (Heap.get?_update_other _ _ (fun h => hb h.symm)).trans e⟩
  rw [hm]; simp
theorem upd_push {s : Shared} {L : Addr} {vals : List Value} {n : Nat} {v : Value} {Q : Unit → Shared → Prop} (hL : s.heap.get? L = some (seqO "list" vals n)) (hl : vals.length ≤ 1000000)
    (h : ∀ h' m, h'.get? L = some (seqO "list" (vals ++ [v]) m) → (∀ b o, b ≠ L → s.heap.get? b = some o → h'.get? b = some o) → Q () { s with heap := h' }) : wpAny (model pw w) A (updateSeq L (·.push v)) Q E s := by
  obtain ⟨m, h1, h2⟩ := seq_upd hL v
  exact wpAny_updateSeq hL rfl (h _ m h1 h2) (by rw [List.size_toArray]; unfold sizeLine; lia) (by rw [Array.size_push, List.size_toArray]; unfold sizeLine; lia)
theorem extract_list (a : Array Nat) (i j : Nat) : (a.extract i j).toList = (a.toList.drop i).take (j - i) := by simp
theorem slice_str {T : ReTarget} {i j : Nat} {s : Shared} {Q : Value → Shared → Prop} (hk : T.kind = 0) (hl : T.text.size ≤ 10000) (h : ∀ tk, Q (.str ⟨T.text.extract i j⟩ tk) { s with toks := tk + 1 }) : wpAny (model pw w) A (reSlice T.text T.kind i j) Q E s := by
  rw [hk]
  show wpAny _ A (mkStr ⟨T.text.extract i j⟩) Q E s
  refine wpAny_mkStr (h _) ?_
  show (T.text.extract i j).size ≤ sizeLine
  rw [Array.size_extract]
  unfold sizeLine
  lia
theorem foundNo_wp {T : ReTarget} {p : Nat} {L : Addr} {s : Shared} {ys : List Str} {vals : List Value} {nn : Nat} {Q : Fin → Shared → Prop} (hk : T.kind = 0) (hl : T.text.size ≤ 10000) (hlim : T.lim = T.text.size) (hL : s.heap.get? L = some (seqO "list" vals nn)) (hv : All2 (Val noK) (ys.map D.str) vals)
    (hy : ys.length ≤ 20000) (hc : (cat ys).length ≤ 1000000)
    (hQ : ∀ t' h' tk', (∀ b o, b ≠ L → s.heap.get? b = some o → h'.get? b = some o) → Q (.done (.ret (.str ⟨(cat ys ++ T.text.toList.drop p).toArray⟩ t'))) { s with heap := h', toks := tk' }) :
    wpAny (model pw w) A (foundNo T p L) Q E s := by
  unfold foundNo
  rw [Int.toNat_natCast]
  have tail : ∀ (zs : List Str) (vals : List Value) (nn tk : Nat) (h' : Heap), h'.get? L = some (seqO "list" vals nn) → All2 (Val noK) (zs.map D.str) vals → zs.length ≤ 20001 → cat zs = cat ys ++ T.text.toList.drop p → (cat zs).length ≤ 1010000 → (∀ b o, b ≠ L → s.heap.get? b = some o → h'.get? b = some o) →
      wpAny (model pw w) A (foundTail T L) Q E { s with heap := h', toks := tk } := by
    intro zs vals nn tk h' hL hv hz hcz hcl hkp
    unfold foundTail
    refine wpAny_bind (slice_str hk hl fun tk1 => ?_)
    have e0 : (⟨T.text.extract 0 0⟩ : Str) = ⟨#[]⟩ := by congr 1; apply Array.ext'; rw [extract_list]; rfl
    rw [e0]
    refine wpAny_bind (wpAny_seqItems hL rfl ?_)
    rw [Option.getD_some]
    cases hv' : vals.toArray.isEmpty with
    | true =>
      rw [if_pos rfl]
      have hvn : vals = [] := by simpa using hv'
      subst hvn
      have hzn : zs = [] := by cases zs with | nil => rfl | cons z zs => cases hv
      subst hzn
      have := hQ tk1 h' (tk1 + 1) hkp
      rw [← hcz] at this
      exact wpAny_bind (wpAny_pure (wpAny_pure this))
    | false =>
      rw [if_neg Bool.false_ne_true, hk]
      refine wpAny_bind ?_
      show wpAny _ A (call (.builtin "str.join") [.str ⟨#[]⟩ tk1, .ref L]) _ _ _
      refine join_list (ys := zs) (items := vals.toArray) ⟨_, hL, rfl, nn, rfl⟩ (strsAre_of (ρ := noK) hv (strsD_map zs)) (by rw [cat_len]; show _ + _ * 0 ≤ _; lia) fun t' k => wpAny_pure ?_
      rw [join_cat, hcz]
      exact hQ t' h' k hkp
  split
  · rename_i hp
    refine wpAny_bind (slice_str hk hl fun tk1 => wpAny_bind ?_)
    refine upd_push hL (by rw [← hv.len, List.length_map]; lia) fun h' m h1 h2 => ?_
    refine tail (ys ++ [⟨T.text.extract p T.lim⟩]) _ m (tk1 + 1) h' h1 ?_ (by simp; lia) ?_ ?_ h2
    · rw [List.map_append]; exact hv.append (.cons ⟨tk1, rfl⟩ .nil)
    · rw [cat_app, cat_one, extract_list, hlim]
      congr 1
      exact List.take_of_length_le (by simp)
    · rw [cat_app, cat_one, extract_list, List.length_append, List.length_take, List.length_drop]; simp; lia
  · rename_i hp
    refine tail ys vals nn s.toks s.heap hL hv (by lia) ?_ (by lia) fun b o _ e => e
    rw [List.drop_of_length_le (by simp; lia), List.append_nil]
end
end
section
theorem ife_t {c : Bool} {P P' : Prop} (hc : c = true) (h : P) : (c = true → P) ∧ (c = false → P') := ⟨fun _ => h, fun e => (by rw [hc] at e; cases e)⟩
theorem ife_f {c : Bool} {P P' : Prop} (hc : c = false) (h : P') : (c = true → P) ∧ (c = false → P') := ⟨fun e => (by rw [hc] at e; cases e), fun _ => h⟩
noncomputable def tbl0 : List Int := [173, 847, 6150, 6155, 6156, 6157, 8203, 8204, 8205, 8288, 65279] ++ (List.range 16).map fun (i : Nat) => (65024 : Int) + (i : Nat)
noncomputable def alph : List Int := [0, 1, 2, 4, 7, 8, 9, 10, 11, 12]
noncomputable def sev : List (Int × Str) := [(223, Str.ofString "ss"), (64256, Str.ofString "ff"), (64257, Str.ofString "fi"), (64258, Str.ofString "fl"), (64259, Str.ofString "ffi"), (64260, Str.ofString "ffl"), (64261, Str.ofString "st"), (8360, Str.ofString "rs"), (8470, Str.ofString "no"), (8481, Str.ofString "tel"), (8482, Str.ofString "tm"), (13169, Str.ofString "hpa"), (13201, Str.ofString "khz"), (13259, Str.ofString "hp")]
noncomputable def chrS (i : Int) : Str := ⟨#[i.toNat]⟩
noncomputable def sgn (x : Int) : Str × Str :=
  let k := x.fmod 5
  let r := x.fdiv 5
  if k = 0 then (chrS (tbl0.getD (r.fmod 27).toNat 0), Str.ofString "")
  else if k = 1 then (chrS (97 + r.fmod 26), chrS (97 + r.fmod 26))
  else if k = 2 then (chrS (65 + r.fmod 26), chrS (97 + r.fmod 26))
  else if k = 3 then (chrS (119808 + 52 * alph.getD ((r.fdiv 26).fmod 10).toNat 0 + r.fmod 26), chrS (97 + r.fmod 26))
  else let p := sev.getD (r.fmod 14).toNat (0, Str.ofString ""); (chrS p.1, p.2)
noncomputable def SignPost (x : Int) : Fl → St → Prop := fun fl σ' => ∃ k, fl = .ret (.ref k) ∧ fd σ'.objs k = some ⟨"tuple", [.str (sgn x).1, .str (sgn x).2], false, true⟩
theorem fmod_b (r m : Int) (hm : 0 < m) : 0 ≤ r.fmod m ∧ r.fmod m < m := ⟨Int.fmod_nonneg_of_pos _ hm, Int.fmod_lt_of_pos _ hm⟩
theorem seqI {i : Int} {n : Nat} (h0 : 0 ≤ i) (h1 : i < n) : seqIndex? i n = some i.toNat := seqIndex_of h0 h1
theorem map_at {l : List Int} {i : Nat} (h : i < l.length) : (l.map D.int)[i]? = some (.int (l.getD i 0)) := by
  rw [List.getElem?_map, List.getElem?_eq_getElem h, List.getD_eq_getElem?_getD, List.getElem?_eq_getElem h]; rfl
theorem lt14 {P : Nat → Prop} (h0 : P 0) (h1 : P 1) (h2 : P 2) (h3 : P 3) (h4 : P 4) (h5 : P 5) (h6 : P 6) (h7 : P 7) (h8 : P 8) (h9 : P 9) (h10 : P 10) (h11 : P 11) (h12 : P 12) (h13 : P 13) : ∀ j, j < 14 → P j := by
  intro j hj
  have step : ∀ n, j < n + 1 → j < n ∨ j = n := fun n h => Nat.lt_succ_iff_lt_or_eq.mp h
  rcases step 13 hj with hj | rfl; rcases step 12 hj with hj | rfl; rcases step 11 hj with hj | rfl; rcases step 10 hj with hj | rfl
  rcases step 9 hj with hj | rfl; rcases step 8 hj with hj | rfl; rcases step 7 hj with hj | rfl; rcases step 6 hj with hj | rfl
  rcases step 5 hj with hj | rfl; rcases step 4 hj with hj | rfl; rcases step 3 hj with hj | rfl; rcases step 2 hj with hj | rfl
  rcases step 1 hj with hj | rfl; rcases step 0 hj with hj | rfl
  exact absurd hj (Nat.not_lt_zero _)
  all_goals assumption
noncomputable def sevTup (j : Nat) : Sp := ⟨"tuple", [.int (sev.getD j (0, Str.ofString "")).1, .str (sev.getD j (0, Str.ofString "")).2], false, true⟩
theorem sev_b : ∀ j < 14, 0 ≤ (sev.getD j (0, Str.ofString "")).1 ∧ (sev.getD j (0, Str.ofString "")).1 ≤ 1114111 := by decide +kernel
section
variable {w : World} {F : Fm} {n : Nat} {σ : St}
theorem w2_item14 {value slice : Expr} {k : Nat} {r : Int} {Q : D → St → Prop} (hk : fd σ.objs k = some ⟨"list", (List.range 14).map D.ref, false, true⟩) (h0 : 0 ≤ r) (h1 : r < 14) (h : Q (.ref r.toNat) σ) : W2 w F n Val σ (.ref k) (.int r) (fun _ u v => subscriptTail value slice u v) Q :=
  w2_item (j := r.toNat) hk rfl (seqI h0 h1) (by have : r.toNat < 14 := by lia
                                                 rw [List.getElem?_map, List.getElem?_range this]; rfl) ⟨by lia, by lia⟩ h
end
set_option pp.maxSteps 200
theorem sign_wb (w : World) (n : Nat) (x : Int) : WB w (fmOf 18) n 0 ⟨[(Str.ofString "number", .int x)], [], [], 0⟩ (bodyOf 18) (SignPost x) := by
  have b27 := fmod_b (x.fdiv 5) 27 (by decide)
  have b26 := fmod_b (x.fdiv 5) 26 (by decide)
  have b10 := fmod_b ((x.fdiv 5).fdiv 26) 10 (by decide)
  have b14 := fmod_b (x.fdiv 5) 14 (by decide)
  have b5 := fmod_b x 5 (by decide)
  refine wB_cons ?_
  repeat (walk_at "m")
  refine ⟨fun h0 => ?_, fun h0 => ?_⟩
  · repeat (walk_at "m")
    refine ⟨_, _, rfl, by unfold okR; lia, ?_⟩
    repeat (walk_at "m")
    refine w2_item (by walk_at "m_fd") rfl (seqI b27.1 (by show _ < ((27 : Nat) : Int); lia)) (map_at (l := tbl0) (i := ((x.fdiv 5).fmod 27).toNat) (by show _ < 27; lia)) ⟨by lia, by lia⟩ ?_
    have c0 : ∀ k < 27, 0 ≤ tbl0.getD k 0 ∧ tbl0.getD k 0 ≤ 1114111 := by decide +kernel
    have c1 := c0 _ (show ((x.fdiv 5).fmod 27).toNat < 27 by lia)
    repeat (walk_at "m")
    have e : x.fmod 5 = 0 := by simpa using h0
    exact ⟨_, rfl, by simp [fd, sgn, e, chrS]⟩
  · repeat (walk_at "m")
    refine ⟨fun h1 => ?_, fun h1 => ?_⟩
    · repeat (walk_at "m")
      have e : x.fmod 5 = 1 := by simpa using h1
      exact ⟨_, rfl, by simp [fd, sgn, e, chrS]⟩
    · repeat (walk_at "m")
      refine ⟨fun h2 => ?_, fun h2 => ?_⟩
      · repeat (walk_at "m")
        have e : x.fmod 5 = 2 := by simpa using h2
        exact ⟨_, rfl, by simp [fd, sgn, e, chrS]⟩
      · repeat (walk_at "m")
        refine ⟨fun h3 => ?_, fun h3 => ?_⟩
        · repeat (walk_at "m")
          refine w2_item (by walk_at "m_fd") rfl (seqI b10.1 (by show _ < ((10 : Nat) : Int); lia)) (map_at (l := alph) (i := (((x.fdiv 5).fdiv 26).fmod 10).toNat) (by show _ < 10; lia)) ⟨by lia, by lia⟩ ?_
          have c0 : ∀ k < 10, 0 ≤ alph.getD k 0 ∧ alph.getD k 0 ≤ 12 := by decide +kernel
          have c1 := c0 _ (show (((x.fdiv 5).fdiv 26).fmod 10).toNat < 10 by lia)
          repeat (walk_at "m")
          have e : x.fmod 5 = 3 := by simpa using h3
          exact ⟨_, rfl, by simp [fd, sgn, e, chrS]⟩
        · repeat (walk_at "m")
          have e : x.fmod 5 = 4 := by
            have a0 : x.fmod 5 ≠ 0 := by simpa using h0
            have a1 : x.fmod 5 ≠ 1 := by simpa using h1
            have a2 : x.fmod 5 ≠ 2 := by simpa using h2
            have a3 : x.fmod 5 ≠ 3 := by simpa using h3
            lia
          have c1 := sev_b ((x.fdiv 5).fmod 14).toNat (by lia)
          refine w2_item14 fd_here b14.1 b14.2 ?_
          refine ⟨_, sevTup ((x.fdiv 5).fmod 14).toNat, _, _, rfl, lt14 (P := fun j => fd _ j = some (sevTup j)) rfl rfl rfl rfl rfl rfl rfl rfl rfl rfl rfl rfl rfl rfl _ (by lia), rfl, rfl, ?_⟩
          repeat (walk_at "m")
          exact ⟨_, rfl, by simp [fd, sgn, e, chrS]⟩
end
section
section
variable {w : World} {F : Fm} {n : Nat} {σ : St}
noncomputable def noRef : D → Bool
  | .ref _ => false
  | _ => true
theorem ren_no {pick : List Nat} {b : Nat} : ∀ {ds : List D}, ds.all noRef = true → ds.map (ren pick b) = ds ∧ ds.all (refIn pick) = true
  | [], _ => ⟨rfl, rfl⟩
  | d :: ds, h => by
    simp only [List.all_cons, Bool.and_eq_true] at h
    obtain ⟨h1, h2⟩ := ren_no (pick := pick) (b := b) h.2
    have : ren pick b d = d ∧ refIn pick d = true := by cases d <;> first | exact ⟨rfl, rfl⟩ | (exact absurd h.1 Bool.false_ne_true)
    simp only [List.map_cons, List.all_cons, h1, h2, this.1, this.2, Bool.and_self, and_self]
theorem adopt_one {objs : List (Nat × Sp)} {k : Nat} {sp : Sp} {Q : D → St → Prop} (h : fd objs k = some sp) (hf : sp.fz = false) (hn : sp.ds.all noRef = true) (hQ : Mk σ sp Q) : pickOk [k] objs = true ∧ refIn [k] (.ref k) = true ∧ Q (ren [k] σ.nx (.ref k)) (σ.adopt [k] objs) := by
  obtain ⟨e1, e2⟩ := ren_no (pick := [k]) (b := σ.nx) hn
  refine ⟨by simp [pickOk, distinct, h, hf, e2], by simp [refIn, idx], ?_⟩
  have a1 : ren [k] σ.nx (.ref k) = .ref σ.nx := by simp [ren, idx]
  have a2 : σ.adopt [k] objs = σ.mk' sp := by
    simp only [St.adopt, newsFrom, h, Option.getD_some, renSp, e1, Nat.add_zero, List.singleton_append, List.length_singleton]
    rfl
  rw [a1, a2]
  exact hQ
theorem adopt_none {objs : List (Nat × Sp)} {d : D} {Q : D → St → Prop} (hn : noRef d = true) (hQ : Q d σ) : pickOk [] objs = true ∧ refIn [] d = true ∧ Q (ren [] σ.nx d) (σ.adopt [] objs) := by
  refine ⟨rfl, ?_, ?_⟩
  · cases d <;> first | rfl | exact absurd hn Bool.false_ne_true
  · have a1 : ren [] σ.nx d = d := by cases d <;> first | rfl | exact absurd hn Bool.false_ne_true
    rw [a1]; exact hQ
theorem sgn_body : (defAt 18).2.2.1 = bodyOf 18 := by kernel_rfl
theorem sgn_bind {md : Value} (vs : List Value) (h : vs.length = 1) : bindArgs (Calls.docDef (defAt 18).1 (defAt 18).2.1 (defAt 18).2.2.1 (defAt 18).2.2.2 md (.ref 148) .none) ⟨vs, []⟩ = pure ([Str.ofString "number"].zip vs) := by
  obtain ⟨a, rfl⟩ := len1 h
  kernel_rfl
theorem sgn_kind : ([Str.ofString "number"].all fun x => decide ((defAt 18).2.2.2.names.lookup x = some .local) || decide ((defAt 18).2.2.2.names.lookup x = some .cell)) = true := by kernel_rfl
theorem sgn_locs (d : D) : locsOf (defAt 18).2.2.2.names ([Str.ofString "number"].zip [d]) [] = [(Str.ofString "number", d)] := by kernel_rfl
theorem sgn_cels (d : D) : celsOf (defAt 18).2.2.2.names ([Str.ofString "number"].zip [d]) [] = [] := by kernel_rfl
theorem wL_sign {x : Int} {Q : D → St → Prop} (h : Mk σ ⟨"tuple", [.str (sgn x).1, .str (sgn x).2], false, true⟩ Q) : WL w F (n + 1) Val σ [.int x] (fun _ vs => call (.ref 149) vs) Q := by
  refine wL_call (fa_sign w) (names := [Str.ofString "number"]) (ks := []) (ds := [.int x]) (dsC := [.int x]) (objsC := []) rfl rfl rfl (fun vs hv => sgn_bind vs (by simpa using hv)) sgn_kind (sgn_locs _) (sgn_cels _) ?_
  rw [sgn_body]
  refine (sign_wb w n x).mono fun fl σ' ⟨k, e1, e2⟩ => ?_
  obtain ⟨q1, q2, q3⟩ := adopt_one e2 rfl rfl h
  exact ⟨.ref k, [k], .inl e1, q1, q2, q3⟩
end
end
section
section
theorem room_func {n : Nat} {A : Around} {body : List Stmt} {env : Env} (r : Room (n + 1) A) : Room n (A.over (.func body env) []) where
  d := by have := r.d; show A.depth + 0 + 1 + n < recursionLimit; lia
  u := by have := r.u; show A.units + 0 + 3 + 20 * n < cLine; lia
  h := r.h
theorem room_loop {n : Nat} {A : Around} {body body' : List Stmt} {env env' : Env} {t : Expr} {it : Value} {kk : Result → Sem PySem.Fin} {g : Bool} {lv : List Value} {p : Pos} {orelse : List Stmt} (r : Room (n + 1) A) : Room n (A.over (.forLoop t it body' orelse env') [.ret kk none g lv (.func body env) p []]) where
  d := by have := r.d; show A.depth + (1 + 0) + 0 + n < recursionLimit; lia
  u := by have := r.u; show A.units + (3 + 0) + 0 + 20 * n < cLine; lia
  h := r.h
end
section
variable {w : World}
structure GI (w : World) (L E It : Addr) (x : Str) (t : Tok) (i : Nat) (loc : List (Str × D)) (s : Shared) : Prop where
  top : ∀ b o, (X1 w).get? b = some o → s.heap.get? b = some o
  ns : ∃ m, s.heap.Ns L m ∧ ∀ y d, lk loc y = some d → ∃ v, m y = some v ∧ Val noK d v
  en : ∃ old, IsEnum s.heap E It (i : Int) old
  it : s.heap.IsStrIter It (strIterType x) x t i
  ba : AllBare s.gens
structure Apt (w : World) (L E It : Addr) : Prop where
  le : L ≠ E
  li : L ≠ It
  ei : E ≠ It
  lx : (X1 w).get? L = Option.none
  ex : (X1 w).get? E = Option.none
  ix : (X1 w).get? It = Option.none
noncomputable def kL (L : Addr) (h : Heap) : Kp := fun b => if b = L then Option.none else h.get? b
theorem kL_ne {L b : Addr} {h : Heap} (hb : b ≠ L) : kL L h b = h.get? b := if_neg hb
theorem gi_z {L : Addr} {loc : List (Str × D)} {s : Shared} {env : Env} (hx : (X1 w).get? L = Option.none) (hL : env.locals = L) (hc : env.cells = []) (top : ∀ b o, (X1 w).get? b = some o → s.heap.get? b = some o) (ns : ∃ m, s.heap.Ns L m ∧ ∀ y d, lk loc y = some d → ∃ v, m y = some v ∧ Val noK d v) (ba : AllBare s.gens) :
    Z w ⟨s.os, s.gens.toList⟩ env true (kL L s.heap) noK ⟨loc, [], [], 0⟩ s := by
  subst hL
  have hk : ∀ b o, kL env.locals s.heap b = some o → s.heap.get? b = some o := fun b o e => by
    unfold kL at e; split at e
    · cases e
    · exact e
  refine ⟨fun b o e => ?_, hk, ns, if_pos rfl, (fun _ _ e => nomatch e), (fun y c e => by rw [hc] at e; cases e), (fun y z c e _ => by rw [hc] at e; cases e), (fun _ _ e => nomatch e), (fun _ _ e => nomatch e), (fun _ _ _ e _ => nomatch e), rfl, ba, [], by simp⟩
  rw [kL_ne (fun h => by rw [h, hx] at e; cases e)]
  exact top b o e
structure Sn (wr : List Addr) (s₀ s : Shared) : Prop where
  heap : ∀ b o, b ∉ wr → s₀.heap.get? b = some o → s.heap.get? b = some o
  os : s.os = s₀.os
  gens : ∃ r, s.gens.toList = s₀.gens.toList ++ r
theorem Sn.refl (wr : List Addr) (s : Shared) : Sn wr s s := ⟨fun _ _ _ e => e, rfl, [], by simp⟩
theorem Sn.trans {wr wr' : List Addr} {s₀ s₁ s₂ : Shared} (h : Sn wr s₀ s₁) (h' : Sn wr' s₁ s₂) (hw : ∀ b ∈ wr', b ∈ wr) : Sn wr s₀ s₂ := by
  refine ⟨fun b o hb e => h'.heap b o (fun q => hb (hw b q)) (h.heap b o hb e), h'.os.trans h.os, ?_⟩
  obtain ⟨r, e⟩ := h.gens
  obtain ⟨r', e'⟩ := h'.gens
  exact ⟨r ++ r', by rw [e', e, List.append_assoc]⟩
theorem z_sn {L : Addr} {s s' : Shared} {env : Env} {ρ : Km} {σ : St} (z : Z w ⟨s.os, s.gens.toList⟩ env true (kL L s.heap) ρ σ s') : Sn [L] s s' :=
  ⟨fun b o hb e => z.keep b o (by rw [kL_ne (by simpa using hb)]; exact e), z.os, z.gens.2⟩
theorem val_no {ρ : Km} {d : D} {v : Value} (h : noRef d = true) (hv : Val ρ d v) : Val noK d v := by cases d <;> first | exact hv | exact absurd h Bool.false_ne_true
theorem z_gi {L E It : Addr} {x : Str} {t : Tok} {i : Nat} {loc loc' : List (Str × D)} {s s' : Shared} {env : Env} {ρ : Km} {σ : St} (a : Apt w L E It) (hL : env.locals = L) (g : GI w L E It x t i loc s) (z : Z w ⟨s.os, s.gens.toList⟩ env true (kL L s.heap) ρ σ s') (hl : ∀ y d, lk loc' y = some d → lk σ.loc y = some d ∧ noRef d = true) : GI w L E It x t i loc' s' where
  top := fun b o e => z.keep b o (by rw [kL_ne (fun h => by rw [h, a.lx] at e; cases e)]; exact g.top b o e)
  ns := by
    obtain ⟨m, N, h⟩ := z.ns
    rw [hL] at N
    exact ⟨m, N, fun y d e => let ⟨h1, h2⟩ := hl y d e; let ⟨v, q1, q2⟩ := h y d h1; ⟨v, q1, val_no h2 q2⟩⟩
  en := let ⟨old, e⟩ := g.en; ⟨old, z.keep E _ (by rw [kL_ne (Ne.symm a.le)]; exact e)⟩
  it := let ⟨o, e, q⟩ := g.it; ⟨o, z.keep It o (by rw [kL_ne (Ne.symm a.li)]; exact e), q⟩
  ba := z.gens.1
inductive GiS (w : World) (L E It : Addr) (x : Str) (t : Tok) (i : Nat) (Q : Fl → St → Prop) (s : Shared) (f : Flow) (s' : Shared) : Prop
  | mk (ρ : Km) (fl : Fl) (σ : St) (h1 : FlV ρ fl f) (h2 : Q fl σ) (h3 : Sn [L] s s') (h4 : ∀ loc', (∀ y d, lk loc' y = some d → lk σ.loc y = some d ∧ noRef d = true) → GI w L E It x t i loc' s')
inductive GiE {α δ : Type} (w : World) (L E It : Addr) (x : Str) (t : Tok) (i : Nat) (RR : Km → δ → α → Prop) (Q : δ → St → Prop) (s : Shared) (f : α) (s' : Shared) : Prop
  | mk (ρ : Km) (d : δ) (σ : St) (h1 : RR ρ d f) (h2 : Q d σ) (h3 : Sn [L] s s') (h4 : ∀ k sp, fd σ.objs k = some sp → ∃ b, ρ k = some b ∧ Has ρ s'.heap b sp) (h5 : ∀ loc', (∀ y d, lk loc' y = some d → lk σ.loc y = some d ∧ noRef d = true) → GI w L E It x t i loc' s')
theorem gi_ws {L E It : Addr} {x : Str} {t : Tok} {i : Nat} {loc : List (Str × D)} {s : Shared} {env : Env} {F : Fm} {n : Nat} {A : Around} {tm : Env → Sem Flow} {Q : Fl → St → Prop} {E' : Value → Shared → Prop} (a : Apt w L E It) (hL : env.locals = L) (hc : env.cells = []) (ok : F.Ok env) (hcw : F.cw = true) (r : Room n A) (g : GI w L E It x t i loc s)
    (h : WS w F n 0 ⟨loc, [], [], 0⟩ tm Q) : wpAny (model pw w) A (tm env) (GiS w L E It x t i Q s) E' s := by
  have z := gi_z a.lx hL hc g.top g.ns g.ba
  refine wpAny_mono (h (Nat.le_refl _) _ env _ noK s A E' ok (by rw [hcw]; exact z) r) (fun f s' h' => ?_) fun _ _ x => x
  obtain ⟨ρ', fl, σ', _, _, h3, h4, h5⟩ := h'
  rw [hcw] at h4
  exact ⟨ρ', fl, σ', h3, h5, z_sn h4, fun loc' hl => z_gi a hL g h4 hl⟩
theorem gi_w0 {L E It : Addr} {x : Str} {t : Tok} {i : Nat} {loc : List (Str × D)} {s : Shared} {env : Env} {F : Fm} {n : Nat} {A : Around} {α δ : Type} {RR : Km → δ → α → Prop} {tm : Env → Sem α} {Q : δ → St → Prop} {E' : Value → Shared → Prop} (a : Apt w L E It) (hL : env.locals = L) (hc : env.cells = []) (ok : F.Ok env) (hcw : F.cw = true) (r : Room n A) (g : GI w L E It x t i loc s)
    (h : W0 w F n RR ⟨loc, [], [], 0⟩ tm Q) : wpAny (model pw w) A (tm env) (GiE w L E It x t i RR Q s) E' s := by
  have z := gi_z a.lx hL hc g.top g.ns g.ba
  refine wpAny_mono (h _ env _ noK s A E' ok (by rw [hcw]; exact z) r) (fun f s' h' => ?_) fun _ _ x => x
  obtain ⟨ρ', fl, σ', _, _, h3, h4, h5⟩ := h'
  rw [hcw] at h4
  exact ⟨ρ', fl, σ', h3, h5, z_sn h4, (fun k sp e => let ⟨b, q1, q2, _⟩ := h4.obj k sp e; ⟨b, q1, q2⟩), fun loc' hl => z_gi a hL g h4 hl⟩
theorem drawsStr {A : Around} (hh : A.handled = none) (it : Addr) (x : Str) (t : Tok) : Draws pw w A it [it] x.cps.size (fun i v => ∃ c u, x.cps[i]? = some c ∧ v = .str ⟨#[c]⟩ u) (fun i h => h.IsStrIter it (strIterType x) x t i) := by
  unfold strIterType
  split
  · exact Draws.strAscii hh it x t
  · exact Draws.strWide hh it x t
end
end
section
section
variable {w : World}
theorem GI.less {L E It : Addr} {x : Str} {t : Tok} {i : Nat} {loc loc' : List (Str × D)} {s : Shared} (g : GI w L E It x t i loc s) (h : ∀ y d, lk loc' y = some d → lk loc y = some d) : GI w L E It x t i loc' s :=
  ⟨g.top, let ⟨m, N, q⟩ := g.ns; ⟨m, N, fun y d e => q y d (h y d e)⟩, g.en, g.it, g.ba⟩
noncomputable def fd2 : FuncData := fnO 2 3 (.ref 37) .none .none (.str (S "cpy313.email.utils") 282)
noncomputable def fm2 : Fm := ⟨(defAt 2).2.2.2.names, true⟩
noncomputable abbrev lG (x : Str) (pos : Int) (e : Bool) : List (Str × D) := [(Str.ofString "addr", .str x), (Str.ofString "pos", .int pos), (Str.ofString "escape", .bool e)]
noncomputable abbrev lG' (x : Str) (pos : Int) (e : Bool) (c : Nat) : List (Str × D) := [(Str.ofString "addr", .str x), (Str.ofString "pos", .int pos), (Str.ofString "escape", .bool e), (Str.ofString "ch", .str ⟨#[c]⟩)]
theorem gen_item {L E It : Addr} {x : Str} {t : Tok} {i : Nat} {pos : Int} {e : Bool} {s : Shared} {env : Env} {n : Nat} {A : Around} {Qn Qs : Shared → Prop} {px py tpos : Pos} {k : Nat} (a : Apt w L E It) (hL : env.locals = L) (hc : env.cells = []) (ok : fm2.Ok env) (r : Room n A) (g : GI w L E It x t i (lG x pos e) s) {c : Nat} (hi : x.cps[i]? = some c)
    (hQ : ∀ s₂, Sn [L, E, It] s s₂ → GI w L E It x t (i + 1) (lG' x i e c) s₂ → Qs s₂) :
    wpAny (model pw w) A (pyNext (.ref E)) (fun rr s₁ => match rr with
      | none => Qn s₁
      | some v => wpAny (model pw w) A (letOwnedTupleGo (.Tuple [.Name (Str.ofString "pos") px, .Name (Str.ofString "ch") py] k tpos) (.ref E) v) (fun _ s₁' => wpAny (model pw w) A (assign (.Tuple [.Name (Str.ofString "pos") px, .Name (Str.ofString "ch") py] k tpos) env v) (fun _ s₂ => Qs s₂) (fun _ _ => False) s₁') (fun _ _ => False) s₁) (fun _ _ => False) s := by
  have hlt : i < x.cps.size := (Array.getElem?_eq_some_iff.mp hi).1
  have WT := WalksT.enumerateD (drawsStr (w := w) (A := A.in1) (by exact r.h) It x t) E a.ei (by simpa using a.ei) (by simp)
  refine WT.item i s _ _ hlt ⟨g.en, g.it⟩ fun T vals h₁ tk hP hsz hT hMid hk => ?_
  obtain ⟨tp, v, ⟨c', u, hc', rfl⟩, rfl⟩ := hP
  rw [hi] at hc'; cases hc'
  refine WT.go _ k tpos i T _ _ _ hMid fun h₂ hst hk₂ => ?_
  obtain ⟨hen, hit⟩ := hst
  have up : ∀ b o, b ∉ [E, It] → s.heap.get? b = some o → h₂.get? b = some o := fun b o hb e => hk₂ b o hb (hk b o hb e)
  have hTn : T ∉ [E, It] := WT.apart i T _ hMid
  have hT₂ : IsTup h₂ T #[.int i tp, .str ⟨#[c]⟩ u] := let ⟨o, ho, q⟩ := hT; ⟨o, hk₂ T o hTn ho, q⟩
  have nL : L ∉ [E, It] := by simp [a.le, a.li]
  have top₂ : ∀ b o, (X1 w).get? b = some o → h₂.get? b = some o := fun b o e => by
    refine up b o (fun hb => ?_) (g.top b o e)
    simp at hb
    rcases hb with rfl | rfl
    · rw [a.ex] at e; cases e
    · rw [a.ix] at e; cases e
  refine assign_Tuple_tuple r.h hT₂ rfl rfl fun h₃ he => ?_
  have up₃ : ∀ b o, h₂.get? b = some o → h₃.get? b = some o := fun b o e => he b o (Nat.ne_of_lt (Heap.lt_size e)) e
  have ns₃ : ∃ m, h₃.Ns L m ∧ ∀ y d, lk (lG x pos e) y = some d → ∃ v, m y = some v ∧ Val noK d v := by
    obtain ⟨m, N, q⟩ := g.ns
    exact ⟨m, N.at' fun o e => up₃ _ _ (up L o nL e), q⟩
  have hen₃ : ∃ old, IsEnum h₃ E It ((i + 1 : Nat) : Int) old := let ⟨old, e⟩ := hen; ⟨old, up₃ _ _ e⟩
  have hit₃ : h₃.IsStrIter It (strIterType x) x t (i + 1) := let ⟨o, e, q⟩ := hit; ⟨o, up₃ _ _ e, q⟩
  have g₃ : GI w L E It x t (i + 1) (lG x pos e) { s with heap := h₃, toks := tk } := ⟨fun b o e => up₃ b o (top₂ b o e), ns₃, hen₃, hit₃, g.ba⟩
  have z := gi_z (env := env) a.lx hL hc g₃.top g₃.ns g₃.ba
  have sn₃ : Sn [L, E, It] s { s with heap := h₃, toks := tk } := ⟨fun b o hb e => up₃ b o (up b o (by simp at hb ⊢; exact hb.2) e), rfl, [], by simp⟩
  show wpAny _ A (assignInOrder [assign (.Name (Str.ofString "pos") px) env, assign (.Name (Str.ofString "ch") py) env] [.int i tp, .str ⟨#[c]⟩ u]) _ _ _
  refine assignInOrder_cons (PyProof.Rows.assign_Name (store_ (F := fm2) (d := .int i) (x := Str.ofString "pos") ok z ⟨tp, rfl⟩ (.inl ⟨by decide +kernel, rfl⟩) fun s₄ z₄ => ?_))
  refine assignInOrder_cons (PyProof.Rows.assign_Name (store_ (F := fm2) (d := .str ⟨#[c]⟩) (x := Str.ofString "ch") ok z₄ ⟨u, rfl⟩ (.inl ⟨by decide +kernel, rfl⟩) fun s₅ z₅ => assignInOrder_nil ?_))
  have eL : setl (setl (lG x pos e) (Str.ofString "pos") (.int i)) (Str.ofString "ch") (.str ⟨#[c]⟩) = lG' x i e c := by
    rw [show setl (lG x pos e) (Str.ofString "pos") (.int i) = lG x i e by walk_at "m_setl"]
    walk_at "m_setl"
  refine hQ _ (sn₃.trans (z_sn z₅) (by simp)) (z_gi a hL g₃ z₅ fun y d h => ?_)
  refine ⟨?_, ?_⟩
  · show lk (setl (setl (lG x pos e) (Str.ofString "pos") (.int i)) (Str.ofString "ch") (.str ⟨#[c]⟩)) y = some d
    rw [eL]; exact h
  · have : ∀ (l : List (Str × D)), l.all (fun p => noRef p.2) = true → lk l y = some d → noRef d = true := by
      intro l
      induction l with
      | nil => intro _ h; cases h
      | cons p l ih =>
        obtain ⟨y', d'⟩ := p
        intro ha hl
        simp only [List.all_cons, Bool.and_eq_true] at ha
        simp only [lk] at hl
        split at hl
        · cases hl; exact ha.1
        · exact ih ha.2 hl
    exact this _ rfl h
end
end
section
section
variable {w : World}
theorem gen_done {L E It : Addr} {x : Str} {t : Tok} {i : Nat} {loc : List (Str × D)} {s : Shared} {n : Nat} {A : Around} {Qs : Value → Shared → Prop} {Qn : Shared → Prop} (a : Apt w L E It) (r : Room n A) (g : GI w L E It x t i loc s) (hi : i = x.cps.size)
    (hQ : ∀ s₂, Sn [L, E, It] s s₂ → (∀ b o, (X1 w).get? b = some o → s₂.heap.get? b = some o) → (∃ m, s₂.heap.Ns L m ∧ ∀ y d, lk loc y = some d → ∃ v, m y = some v ∧ Val noK d v) → AllBare s₂.gens → Qn s₂) :
    wpAny (model pw w) A (pyNext (.ref E)) (fun rr s₁ => match rr with | none => Qn s₁ | some v => Qs v s₁) (fun _ _ => False) s := by
  subst hi
  have WT := WalksT.enumerateD (drawsStr (w := w) (A := A.in1) (by exact r.h) It x t) E a.ei (by simpa using a.ei) (by simp)
  refine WT.done s _ _ ⟨g.en, g.it⟩ fun h' tk hk => ?_
  refine hQ _ ⟨fun b o hb e => hk b o (by simp at hb ⊢; exact hb.2) e, rfl, [], by simp⟩ (fun b o e => hk b o (fun hb => ?_) (g.top b o e)) ?_ g.ba
  · simp at hb
    rcases hb with rfl | rfl
    · rw [a.ex] at e; cases e
    · rw [a.ix] at e; cases e
  · obtain ⟨m, N, q⟩ := g.ns
    exact ⟨m, N.at' fun o e => hk L o (by simp [a.le, a.li]) e, q⟩
noncomputable def escL : Bool → Nat → List Nat → List (Int × Str)
  | _, _, [] => []
  | true, p, c :: r => ((p : Int), ⟨#[92, c]⟩) :: escL false (p + 1) r
  | false, p, c :: r => if c = 92 then escL true (p + 1) r else ((p : Int), ⟨#[c]⟩) :: escL false (p + 1) r
noncomputable def escF : Bool → List Nat → Bool
  | e, [] => e
  | true, _ :: r => escF false r
  | false, c :: r => escF (decide (c = 92)) r
noncomputable def Rdy (w : World) (L E It : Addr) (s s'' : Shared) : Prop := (∀ b ∈ [L, E, It], ∀ o, s.heap.get? b = some o → s''.heap.get? b = some o) ∧ (∀ b o, (X1 w).get? b = some o → s''.heap.get? b = some o) ∧ AllBare s''.gens
noncomputable def gY (w : World) (L E It : Addr) (items : List (Int × Str)) : Protocol := fun m s₀ v s kap =>
  (∃ T p y tp ty, v = .ref T ∧ s.heap.IsTuple T #[.int p tp, .str y ty] ∧ items[items.length - 1 - m]? = some (p, y) ∧ T ∉ [L, E, It]) ∧ Sn [L, E, It] s₀ s ∧ AllBare s.gens ∧ (∀ b ∈ [L, E, It], ∃ o, s.heap.get? b = some o) ∧
    ∀ s'', Rdy w L E It s s'' → kap (.send .none) s''
noncomputable def gR (L E It : Addr) : GenEnd := fun n s₀ r s₁ => r = .ok (.ret .none) ∧ n = 0 ∧ Sn [L, E, It] s₀ s₁ ∧ AllBare s₁.gens
theorem GI.rdy {L E It : Addr} {x : Str} {t : Tok} {i : Nat} {loc : List (Str × D)} {s s'' : Shared} (g : GI w L E It x t i loc s) (h : Rdy w L E It s s'') : GI w L E It x t i loc s'' :=
  ⟨h.2.1, let ⟨m, N, q⟩ := g.ns; ⟨m, N.at' fun o e => h.1 L (by simp) o e, q⟩, let ⟨old, e⟩ := g.en; ⟨old, h.1 E (by simp) _ e⟩, let ⟨o, e, q⟩ := g.it; ⟨o, h.1 It (by simp) o e, q⟩, h.2.2⟩
theorem GI.live {L E It : Addr} {x : Str} {t : Tok} {i : Nat} {loc : List (Str × D)} {s : Shared} (g : GI w L E It x t i loc s) : ∀ b ∈ [L, E, It], ∃ o, s.heap.get? b = some o := fun b hb => by
  simp at hb
  rcases hb with rfl | rfl | rfl
  · obtain ⟨m, ⟨o, _, _, h, _⟩, _⟩ := g.ns; exact ⟨o, h⟩
  · obtain ⟨old, e⟩ := g.en; exact ⟨_, e⟩
  · obtain ⟨o, e, _⟩ := g.it; exact ⟨o, e⟩
theorem lk_more : ∀ (l m : List (Str × D)) (x : Str) (d : D), lk l x = some d → lk (l ++ m) x = some d
  | [], _, _, _, h => by cases h
  | (y, e) :: l, m, x, d, h => by
    simp only [lk, List.cons_append] at h ⊢
    split
    · rename_i hx; rw [if_pos hx] at h; exact h
    · rename_i hx; rw [if_neg hx] at h; exact lk_more l m x d h
theorem lk_noRef {y : Str} {d : D} : ∀ {l : List (Str × D)}, l.all (fun p => noRef p.2) = true → lk l y = some d → noRef d = true
  | [], _, h => by cases h
  | (y', d') :: l, ha, hl => by
    simp only [List.all_cons, Bool.and_eq_true] at ha
    simp only [lk] at hl
    split at hl
    · cases hl; exact ha.1
    · exact lk_noRef ha.2 hl
noncomputable def genFor : List Stmt := match ((bodyOf 2)[2]? : Option Stmt) with | some (Stmt.For _ _ b _ _) => b | _ => []
noncomputable def genTgt : Expr := match ((bodyOf 2)[2]? : Option Stmt) with | some (Stmt.For t _ _ _ _) => t | _ => .Constant .none 0 default
theorem wT_name {F : Fm} {n : Nat} {σ : St} {y : Str} {pos : Pos} {b : Bool} {Q : Bool → St → Prop} (he : ∀ env, isTrue (.Name y pos) env (eval (.Name y pos) env) = (do let v ← eval (.Name y pos) env; standAt (Expr.Name y pos).pos; holding [v] (truthy v)))
    (h : WE w F n σ (.Name y pos) (fun d σ₁ => d = .bool b ∧ Q b σ₁)) : WT w F n σ (.Name y pos) Q := by
  refine wT_value he (h.mono fun d σ₁ ⟨h1, h2⟩ => ?_)
  subst h1
  exact w1_truthy_bool h2
section
variable {n : Nat}
theorem t_esc (x : Str) (pos : Int) (e : Bool) (c : Nat) : ∃ p, (∃ b o q, genFor = [.If (.Name (Str.ofString "escape") p) b o q]) ∧ WT w fm2 n ⟨lG' x pos e c, [], [], 0⟩ (.Name (Str.ofString "escape") p) (fun b σ => b = e ∧ σ = ⟨lG' x pos e c, [], [], 0⟩) := by
  refine ⟨_, ⟨_, _, _, rfl⟩, ?_⟩
  refine wT_name (b := e) (by intro _; with_unfolding_all rfl) ?_
  refine wE_loc (by decide +kernel) (by walk_at "m_lk") ⟨rfl, rfl, rfl⟩ (by decide)
end
end
end
section
section
variable {w : World}
theorem bs_app (c : Nat) : Str.ofString "\\" ++ (⟨#[c]⟩ : Str) = ⟨#[92, c]⟩ := by
  have : (Str.ofString "\\") = (⟨#[92]⟩ : Str) := by decide +kernel
  rw [this]; rfl
theorem items_here {items r : List (Int × Str)} {q : Int × Str} (h : items.drop (items.length - (q :: r).length) = q :: r) : items[items.length - 1 - r.length]? = some q ∧ items.drop (items.length - r.length) = r := by
  have hl := congrArg List.length h
  rw [List.length_drop, List.length_cons] at hl
  have hle : r.length + 1 ≤ items.length := hl ▸ Nat.sub_le _ _
  have e : items.length - (q :: r).length = items.length - 1 - r.length := by rw [List.length_cons, Nat.add_comm, Nat.sub_add_eq]
  have e2 : items.length - (q :: r).length + 1 = items.length - r.length := Nat.succ_pred_eq_of_pos (Nat.sub_pos_of_lt hle)
  constructor
  · rw [← e]
    have : (items.drop (items.length - (q :: r).length))[0]? = some q := by rw [h]; rfl
    rw [List.getElem?_drop] at this
    exact this
  · rw [← e2, ← List.drop_drop, h]; rfl
theorem gi_tup {L E It : Addr} {x : Str} {t : Tok} {i : Nat} {loc : List (Str × D)} {s : Shared} {T : Addr} {o : Obj} {vs : Array Value} {n : Nat} (g : GI w L E It x t i loc s) (ho : s.heap.get? T = some o) (hd : o.data = .seq vs n) : T ∉ [L, E, It] := fun hm => by
  simp at hm
  rcases hm with rfl | rfl | rfl
  · obtain ⟨m, ⟨o', es, ep, h1, h2, _⟩, _⟩ := g.ns
    rw [ho] at h1; cases h1
    rw [hd] at h2; cases h2
  · obtain ⟨old, e⟩ := g.en
    unfold IsEnum at e
    rw [ho] at e; cases e; cases hd
  · obtain ⟨o', e, _, h2⟩ := g.it
    rw [ho] at e; cases e
    rw [hd] at h2; cases h2
section
variable {L E It : Addr} {x : Str} {t : Tok} {i : Nat} {loc loc' : List (Str × D)} {s : Shared} {env : Env} {F : Fm} {n : Nat} {A : Around} {E' : Value → Shared → Prop}
theorem gi_t {tm : Env → Sem Bool} {c : Bool} {Post : Bool → Shared → Prop} (a : Apt w L E It) (hL : env.locals = L) (hc : env.cells = []) (ok : F.Ok env) (hcw : F.cw = true) (r : Room n A) (g : GI w L E It x t i loc s) (hn : loc'.all (fun p => noRef p.2) = true)
    (h : W0 w F n isB ⟨loc, [], [], 0⟩ tm (fun b σ => b = c ∧ σ = ⟨loc', [], [], 0⟩)) (k : ∀ s', Sn [L] s s' → GI w L E It x t i loc' s' → Post c s') : wpAny (model pw w) A (tm env) Post E' s := by
  refine wpAny_mono (gi_w0 a hL hc ok hcw r g h) (fun b s₃ h₃ => ?_) fun _ _ x => x
  obtain ⟨_, b', σ, hb, ⟨rfl, rfl⟩, hs₃, _, hg₃⟩ := h₃
  cases hb
  exact k _ hs₃ (hg₃ loc' fun y d h => ⟨h, lk_noRef hn h⟩)
theorem gi_x {tm : Env → Sem Flow} {Post : Flow → Shared → Prop} (a : Apt w L E It) (hL : env.locals = L) (hc : env.cells = []) (ok : F.Ok env) (hcw : F.cw = true) (r : Room n A) (g : GI w L E It x t i loc s) (hn : loc'.all (fun p => noRef p.2) = true)
    (h : WS w F n 0 ⟨loc, [], [], 0⟩ tm (fun fl σ => fl = .next ∧ σ = ⟨loc', [], [], 0⟩)) (k : ∀ s', Sn [L] s s' → GI w L E It x t i loc' s' → Post .next s') : wpAny (model pw w) A (tm env) Post E' s := by
  refine wpAny_mono (gi_ws a hL hc ok hcw r g h) (fun b s₃ h₃ => ?_) fun _ _ x => x
  obtain ⟨_, fl, σ, hb, ⟨rfl, rfl⟩, hs₃, hg₃⟩ := h₃
  cases hb
  exact k _ hs₃ (hg₃ loc' fun y d h => ⟨h, lk_noRef hn h⟩)
theorem gi_p {tm : Env → Sem Value} {q : Int} {y : Str} {Post : Value → Shared → Prop} (a : Apt w L E It) (hL : env.locals = L) (hc : env.cells = []) (ok : F.Ok env) (hcw : F.cw = true) (r : Room n A) (g : GI w L E It x t i loc s) (hn : loc'.all (fun p => noRef p.2) = true)
    (h : W0 w F n Val ⟨loc, [], [], 0⟩ tm (fun d σ => ∃ k, d = .ref k ∧ fd σ.objs k = some ⟨"tuple", [.int q, .str y], false, true⟩ ∧ σ.loc = loc'))
    (k : ∀ T tp ty s', Sn [L] s s' → GI w L E It x t i loc' s' → T ∉ [L, E, It] → s'.heap.IsTuple T #[.int q tp, .str y ty] → Post (.ref T) s') : wpAny (model pw w) A (tm env) Post E' s := by
  refine wpAny_mono (gi_w0 a hL hc ok hcw r g h) (fun b s₃ h₃ => ?_) fun _ _ x => x
  obtain ⟨ρ, d, σ, hv, ⟨k', rfl, hfd, hloc⟩, hs₄, hob, hg₄⟩ := h₃
  obtain ⟨T, hT, rfl⟩ := hv
  obtain ⟨T', hT', o, vs, nn, ho, hcls, hdat, _, hvs⟩ := hob k' _ hfd
  rw [hT] at hT'; cases hT'
  have g₄ := hg₄ loc' fun y d h => ⟨by rw [hloc]; exact h, lk_noRef hn h⟩
  have hvs : All2 (Val ρ) [.int q, .str y] vs := hvs
  obtain ⟨_, _, rfl, ⟨tp, h1⟩, hv1⟩ := hvs.c
  obtain ⟨_, _, rfl, ⟨ty, h2⟩, hv2⟩ := hv1.c
  cases hv2.n; subst h1; subst h2
  exact k T tp ty _ hs₄ g₄ (gi_tup g₄ ho hdat) ⟨o, ho, hcls, nn, hdat⟩
end
theorem gen_loop {L E It : Addr} {x : Str} {t : Tok} {env : Env} {A : Around} {n0 : Nat} {items : List (Int × Str)} {kk : Result → Sem PySem.Fin} {lv : List Value} {p : Pos} {body : List Stmt} (a : Apt w L E It) (hL : env.locals = L) (hc : env.cells = []) (ok : fm2.Ok env) (r : Room (n0 + 1) A) (hco : env.scope.isCoroutine = false) (hx : x.length ≤ 1000)
    (hfin : ∀ (s₀ s : Shared) (e : Bool) (pos : Int), e = escF false x.cps.toList → Sn [L, E, It] s₀ s → (∀ b o, (X1 w).get? b = some o → s.heap.get? b = some o) → (∃ m, s.heap.Ns L m ∧ ∀ y d, lk (lG x pos e) y = some d → ∃ v, m y = some v ∧ Val noK d v) → AllBare s.gens → Seg (model pw w) A (gR L E It) (gY w L E It items) 0 s₀ (.func body env) (kk (.ok .next)) [] s) :
    ∀ (l : List Nat) (i : Nat) (e : Bool) (pos : Int) (s₀ s : Shared), i ≤ x.cps.size → x.cps.toList.drop i = l → GI w L E It x t i (lG x pos e) s → Sn [L, E, It] s₀ s → escF e l = escF false x.cps.toList → items.drop (items.length - (escL e i l).length) = escL e i l →
      Seg (model pw w) A (gR L E It) (gY w L E It items) (escL e i l).length s₀ (.forLoop genTgt (.ref E) genFor [] env) ((model pw w).den (.forLoop genTgt (.ref E) genFor [] env)) [.ret kk none false lv (.func body env) p []] s := by
  intro l
  have rl : Room n0 (A.over (.forLoop genTgt (.ref E) genFor [] env) [.ret kk none false lv (.func body env) p []]) := room_loop r
  have hint : interactive env = false := by unfold interactive; rw [ok.kind]; rfl
  induction l with
  | nil =>
    intro i e pos s₀ s hil hd g hs hf hit
    have hi : i = x.cps.size := by
      have := congrArg List.length hd
      simp at this; lia
    refine seg_forLoop (gen_done a rl g hi fun s₂ h1 h2 h3 h4 => ?_)
    exact seg_leaf (.ok .next) (hfin s₀ s₂ e pos hf (hs.trans h1 fun _ h => h) h2 h3 h4)
  | cons c l ih =>
    intro i e pos s₀ s hil hd g hs hf hit
    have hi : x.cps[i]? = some c := by
      have : (x.cps.toList.drop i)[0]? = some c := by rw [hd]; rfl
      rw [List.getElem?_drop] at this
      simpa using this
    have hd' : x.cps.toList.drop (i + 1) = l := by rw [← List.drop_drop, hd]; rfl
    have hsub : ∀ b ∈ [L], b ∈ [L, E, It] := by simp
    refine seg_forLoop (gen_item (Qn := fun s₁ => Seg (model pw w) A (gR L E It) (gY w L E It items) _ s₀ (.block [] env) (.pure (.done .next)) _ s₁) a hL hc ok rl g hi fun s₂ hs₂ g₂ => ?_)
    have hs₂ := hs.trans hs₂ fun _ h => h
    have again : ∀ (e' : Bool) (s₀' s' : Shared) (loc : List (Str × D)), GI w L E It x t (i + 1) loc s' → (∀ y d, lk (lG x i e') y = some d → lk loc y = some d) → Sn [L, E, It] s₀' s' → escF e' l = escF false x.cps.toList → items.drop (items.length - (escL e' (i + 1) l).length) = escL e' (i + 1) l →
        Seg (model pw w) A (gR L E It) (gY w L E It items) (escL e' (i + 1) l).length s₀' (.forLoop genTgt (.ref E) genFor [] env) (forK genTgt (.ref E) genFor env .next) [.ret kk none false lv (.func body env) p []] s' := by
      intro e' s₀' s' loc g' hl hs' hf' hit'
      exact seg_again rfl (ih (i + 1) e' i s₀' s' (Array.getElem?_eq_some_iff.mp hi).1 hd' (g'.less hl) hs' hf' hit')
    cases e with
    | true =>
      show Seg (model pw w) A _ _ (_ + 1) s₀ _ ((execs (.If (.Name _ _) (.Expr (.Yield (some _) _) _ :: .Assign [.Name _ _] _ _ :: []) (_ :: []) _ :: []) env).wrap _ _ _ _) _ s₂
      refine seg_execs_cons (seg_If ?_)
      refine gi_t (F := fm2) (n := n0) (c := true) (loc' := lG' x i true c) a hL hc ok rfl rl g₂ rfl (wT_name (b := true) (by intro _; with_unfolding_all rfl) (wE_loc (by decide +kernel) (by walk_at "m_lk") ⟨rfl, rfl, rfl⟩ (by decide))) fun s₃ hs₃ g₃ => ?_
      have hs₃ := hs₂.trans hs₃ hsub
      rw [if_pos rfl]
      refine seg_execs_cons (seg_Expr_Yield rfl rfl rfl ?_ hco hint)
      refine gi_p (F := fm2) (n := n0) (q := i) (y := ⟨#[92, c]⟩) (loc' := lG' x i true c) a hL hc ok rfl rl g₃ rfl ?_ fun T tp ty s₄ hs₄ g₄ hTn hTt => ?_
      · repeat (walk_at "m")
        refine w2_sadd (by show (Str.ofString "\\").length + 1 ≤ sizeLine; rw [show (Str.ofString "\\").length = 1 by decide +kernel]; decide) ?_
        rw [bs_app]
        repeat (walk_at "m")
        exact ⟨_, rfl, by walk_at "m_fd", rfl⟩
      · have hs₄ := hs₃.trans hs₄ hsub
        obtain ⟨hix, hit'⟩ := items_here (q := ((i : Int), ⟨#[92, c]⟩)) (r := escL false (i + 1) l) hit
        intro kap hkap
        refine ⟨⟨T, i, ⟨#[92, c]⟩, tp, ty, rfl, hTt, hix, hTn⟩, hs₄, g₄.ba, g₄.live, fun s'' hr => hkap .none s'' ?_⟩
        have g₅ := g₄.rdy hr
        show Seg (model pw w) A _ _ _ s'' _ ((execs (.Assign [.Name _ _] (.Constant (.bool false) _ _) _ :: []) env).wrap _ _ _ _) _ s''
        refine seg_execs_cons (seg_stmt ?_)
        refine gi_x (F := fm2) (n := n0) (loc' := lG' x i false c) a hL hc ok rfl rl g₅ rfl ?_ fun s₆ hs₆ g₆ => ?_
        · repeat (walk_at "m")
          exact ⟨rfl, rfl⟩
        · exact again false s'' s₆ _ g₆ (fun y d h => lk_more (lG x i false) [(Str.ofString "ch", .str ⟨#[c]⟩)] y d h) (by exact ⟨fun b o hb e => hs₆.heap b o (by simp at hb ⊢; exact hb.1) e, hs₆.os, hs₆.gens⟩) hf hit'
    | false =>
      show Seg (model pw w) A _ _ _ s₀ _ ((execs (.If (.Name _ _) (_ :: _ :: []) (.If (.Compare _ _ _ _) (.Assign [.Name _ _] _ _ :: []) (.Expr (.Yield (some _) _) _ :: []) _ :: []) _ :: []) env).wrap _ _ _ _) _ s₂
      refine seg_execs_cons (seg_If ?_)
      refine gi_t (F := fm2) (n := n0) (c := false) (loc' := lG' x i false c) a hL hc ok rfl rl g₂ rfl (wT_name (b := false) (by intro _; with_unfolding_all rfl) (wE_loc (by decide +kernel) (by walk_at "m_lk") ⟨rfl, rfl, rfl⟩ (by decide))) fun s₃ hs₃ g₃ => ?_
      have hs₃ := hs₂.trans hs₃ hsub
      rw [if_neg Bool.false_ne_true]
      refine seg_execs_cons (seg_If ?_)
      refine gi_t (tm := fun env => PySem.isTrue (.Compare _ _ _ _) env (eval (.Compare _ _ _ _) env)) (F := fm2) (n := n0) (c := decide (c = 92)) (loc' := lG' x i false c) a hL hc ok rfl rl g₃ rfl ?_ fun s₄ hs₄ g₄ => ?_
      · repeat (walk_at "m")
        refine w2_seq ?_
        repeat (walk_at "m")
        refine ⟨?_, rfl⟩
        have : (Str.ofString "\\").cps.toList = [92] := by decide +kernel
        rw [this]
        by_cases h : c = 92
        · subst h; rfl
        · rw [decide_eq_false h]; simpa using h
      · have hs₄ := hs₃.trans hs₄ hsub
        by_cases h92 : c = 92
        · rw [if_pos (by simpa using h92)]
          have e1 : escL false i (c :: l) = escL true (i + 1) l := if_pos h92
          have e2 : escF false (c :: l) = escF true l := by show escF (decide (c = 92)) l = _; rw [decide_eq_true h92]
          rw [e1] at hit ⊢
          rw [e2] at hf
          refine seg_execs_cons (seg_stmt ?_)
          refine gi_x (F := fm2) (n := n0) (loc' := lG' x i true c) a hL hc ok rfl rl g₄ rfl ?_ fun s₆ hs₆ g₆ => ?_
          · repeat (walk_at "m")
            exact ⟨rfl, rfl⟩
          · exact again true s₀ s₆ _ g₆ (fun y d h => lk_more (lG x i true) [(Str.ofString "ch", .str ⟨#[c]⟩)] y d h) (hs₄.trans hs₆ hsub) hf hit
        · rw [if_neg (by simpa using h92)]
          have e1 : escL false i (c :: l) = ((i : Int), ⟨#[c]⟩) :: escL false (i + 1) l := if_neg h92
          have e2 : escF false (c :: l) = escF false l := by show escF (decide (c = 92)) l = _; rw [decide_eq_false h92]
          rw [e1] at hit ⊢
          rw [e2] at hf
          obtain ⟨hix, hit'⟩ := items_here hit
          refine seg_execs_cons (seg_Expr_Yield rfl rfl rfl ?_ hco hint)
          refine gi_p (F := fm2) (n := n0) (q := i) (y := ⟨#[c]⟩) (loc' := lG' x i false c) a hL hc ok rfl rl g₄ rfl ?_ fun T tp ty s₅ hs₅ g₅ hTn hTt => ?_
          · repeat (walk_at "m")
            exact ⟨_, rfl, by walk_at "m_fd", rfl⟩
          · have hs₅ := hs₄.trans hs₅ hsub
            intro kap hkap
            refine ⟨⟨T, i, ⟨#[c]⟩, tp, ty, rfl, hTt, hix, hTn⟩, hs₅, g₅.ba, g₅.live, fun s'' hr => hkap .none s'' ?_⟩
            exact again false s'' s'' _ (g₅.rdy hr) (fun y d h => lk_more (lG x i false) [(Str.ofString "ch", .str ⟨#[c]⟩)] y d h) (.refl _ _) hf hit'
end
end
section
section
variable {w : World}
theorem g2_body : (defAt 2).2.2.1 = bodyOf 2 := by kernel_rfl
theorem gen_store {L : Addr} {loc : List (Str × D)} {s : Shared} {env : Env} {A : Around} {E' : Value → Shared → Prop} {y : Str} {d : D} {v : Value} {Q : Unit → Shared → Prop} (hx : (X1 w).get? L = Option.none) (hL : env.locals = L) (ok : fm2.Ok env) (hk : fm2.names.lookup y = some .local) (top : ∀ b o, (X1 w).get? b = some o → s.heap.get? b = some o) (ns : ∃ m, s.heap.Ns L m ∧ ∀ y d, lk loc y = some d → ∃ v, m y = some v ∧ Val noK d v) (hv : Val noK d v)
    (hQ : ∀ s', s'.heap.objs.size = s.heap.objs.size → s'.gens = s.gens → Sn [L] s s' → (∀ b o, (X1 w).get? b = some o → s'.heap.get? b = some o) → (∃ m, s'.heap.Ns L m ∧ ∀ y' d', lk (setl loc y d) y' = some d' → ∃ v, m y' = some v ∧ Val noK d' v) → Q () s') : wpAny (model pw w) A (storeName env y v) Q E' s := by
  obtain ⟨m, N, hm⟩ := ns
  subst hL
  refine wpAny_storeName_local (by show env.scope.names.lookup y = _; rw [ok.names]; exact hk) N (fun h' hn hs => ?_) (by rw [ok.kind]; rfl)
  refine hQ _ hs.1 rfl ⟨fun b o hb e => hs.extBut b o (by simpa using hb) e, rfl, [], by simp⟩ (fun b o e => hs.extBut b o (fun h => by rw [h, hx] at e; cases e) (top b o e)) ⟨_, hn, fun y' d' h => ?_⟩
  rw [lk_setl] at h
  by_cases hy : y' = y
  · rw [if_pos hy] at h; cases h; exact ⟨v, if_pos hy, hv⟩
  · rw [if_neg hy] at h
    obtain ⟨u, q1, q2⟩ := hm y' d' h
    exact ⟨u, by simp only [if_neg hy]; exact q1, q2⟩
theorem gen_func {L : Addr} {N : Nat} {x : Str} {env : Env} {A : Around} {n0 : Nat} {s : Shared} (hx1 : (X1 w).get? L = Option.none) (hL : env.locals = L) (hLN : L < N) (hN : s.heap.objs.size = N) (hc : env.cells = []) (ok : fm2.Ok env) (r : Room (n0 + 1) A) (hco : env.scope.isCoroutine = false) (hx : x.length ≤ 1000) (hesc : escF false x.cps.toList = false)
    (top : ∀ b o, (X1 w).get? b = some o → s.heap.get? b = some o) (ns : ∃ m, s.heap.Ns L m ∧ ∀ y d, lk [(Str.ofString "addr", D.str x)] y = some d → ∃ v, m y = some v ∧ Val noK d v) (ba : AllBare s.gens) :
    Seg (model pw w) A (gR L (N + 1) N) (gY w L (N + 1) N (escL false 0 x.cps.toList)) (escL false 0 x.cps.toList).length s (.func (bodyOf 2) env) ((model pw w).den (.func (bodyOf 2) env)) [] s := by
  have rf : Room n0 (A.over (.func (bodyOf 2) env) []) := room_func r
  have fresh : ∀ i, (X1 w).get? (N + i) = Option.none := fun i => by
    cases e : (X1 w).get? (N + i) with
    | none => rfl
    | some o => exact absurd (Heap.lt_size (top _ _ e)) (by rw [hN]; exact Nat.not_lt.mpr (Nat.le_add_right _ _))
  have a : Apt w L (N + 1) N := ⟨Nat.ne_of_lt (Nat.lt_succ_of_lt hLN), Nat.ne_of_lt hLN, Nat.succ_ne_self N, hx1, fresh 1, fresh 0⟩
  refine seg_func ?_
  show Seg _ A _ _ _ s _ ((execs (.Assign [.Name _ _] (.Constant (.int 0) _ _) _ :: .Assign [.Name _ _] (.Constant (.bool false) _ _) _ :: .For genTgt (.Call (.Name _ _) [.Name _ _] [] _) genFor [] _ :: .If (.Name _ _) (_ :: []) [] _ :: []) env).wrap _ _ _ _) [] s
  refine seg_execs_cons (seg_stmt (wpAny_Assign_Name (wpAny_Constant_int ?_) (by with_unfolding_all rfl)))
  refine gen_store (d := .int 0) hx1 hL ok (by decide +kernel) top ns ⟨_, rfl⟩ fun s₁ z1 z2 z3 z4 z5 => ?_
  refine seg_execs_cons (seg_stmt (wpAny_Assign_Name (wpAny_Constant_bool ?_) (by with_unfolding_all rfl)))
  refine gen_store (d := .bool false) hx1 hL ok (by decide +kernel) z4 z5 rfl fun s₂ y1 y2 y3 y4 y5 => ?_
  have eL : setl (setl [(Str.ofString "addr", D.str x)] (Str.ofString "pos") (.int 0)) (Str.ofString "escape") (.bool false) = lG x 0 false := by
    rw [show setl [(Str.ofString "addr", D.str x)] (Str.ofString "pos") (.int 0) = [(Str.ofString "addr", D.str x), (Str.ofString "pos", .int 0)] by walk_at "m_setl"]
    walk_at "m_setl"
  rw [eL] at y5
  have hsz : s₂.heap.objs.size = N := by rw [y1, z1, hN]
  have hba : AllBare s₂.gens := by rw [y2, z2]; exact ba
  have hsn : Sn [L, N + 1, N] s s₂ := ⟨fun b o hb e => y3.heap b o (by simp at hb ⊢; exact hb.1) (z3.heap b o (by simp at hb ⊢; exact hb.1) e), y3.os.trans z3.os, [], by rw [y2, z2]; simp⟩
  refine seg_execs_cons (seg_For (by intro _; with_unfolding_all rfl) ?_)
  obtain ⟨m, Nm, hm⟩ := y5
  obtain ⟨av, ha, t, rfl⟩ := hm (Str.ofString "addr") (.str x) lk_here
  have hpl : ([.Name (Str.ofString "addr") default] : List Expr).all plainE = true := rfl
  refine wpAny_Call_Name_kw (Calls.Name_function_global ok.kind (by show env.scope.names.lookup _ = _; rw [ok.names]; decide +kernel) (Calls.loadGlobal_builtin (by rw [ok.globals]; exact (X1_ns w).keeps y4) (g_enum w).1 (by rw [ok.builtins]; exact (X1_bs w).keeps y4) (g_enum w).2 ?_) (by decide))
  refine PySem.callWith_type (back_plain (by with_unfolding_all rfl) env _) ?_
  refine Calls.evalArgs_plain (rest := backTo _ (starEach [] env)) (args_cons (wpAny_Name (wpAny_loadName_local ok.kind (by show env.scope.names.lookup _ = _; rw [ok.names]; decide +kernel) (by rw [hL]; exact Nm) ha ?_) (by decide)))
  refine args_nil ?_
  refine call_enumerate_str fun h' he hi' hs' hk => ?_
  rw [hsz] at he hi' hs'
  show wpAny _ _ (pyIter (.ref (s₂.heap.objs.size + 1))) _ _ _
  rw [hsz]
  refine wpAny_pyIter_enum he fun p => ?_
  have top' : ∀ b o, (X1 w).get? b = some o → h'.get? b = some o := fun b o e => hk b o (y4 b o e)
  have ns' : ∃ m, h'.Ns L m ∧ ∀ y d, lk (lG x 0 false) y = some d → ∃ v, m y = some v ∧ Val noK d v := ⟨m, Nm.keeps hk, hm⟩
  have g : GI w L (N + 1) N x t 0 (lG x 0 false) { s₂ with heap := h' } := ⟨top', ns', ⟨_, he⟩, hi', hba⟩
  have hsn' : Sn [L, N + 1, N] s { s₂ with heap := h' } := hsn.trans (s₂ := { s₂ with heap := h' }) (wr' := []) ⟨fun b o _ e => hk b o e, rfl, [], by simp⟩ (fun _ h => nomatch h)
  refine gen_loop (x := x) (t := t) (n0 := n0) (p := p) (lv := id []) a hL hc ok r hco hx ?_ x.cps.toList 0 false 0 s _ (Nat.zero_le _) (by simp) g hsn' rfl (by simp)
  intro s₀ s₃ e pos he' hs₃ top₃ ns₃ ba₃
  rw [hesc] at he'
  subst he'
  show Seg _ A _ _ 0 s₀ _ ((execs (.If (.Name _ _) (_ :: []) [] _ :: []) env).wrap _ _ _ _) [] s₃
  refine seg_execs_cons (seg_If ?_)
  have z := gi_z (env := env) hx1 hL hc top₃ ns₃ ba₃
  refine wpAny_mono (wT_name (w := w) (F := fm2) (n := n0) (σ := ⟨lG x pos false, [], [], 0⟩) (b := false) (Q := fun b σ => b = false) (by intro _; with_unfolding_all rfl) (wE_loc (by decide +kernel) (by walk_at "m_lk") ⟨rfl, rfl⟩ (by decide)) _ env _ noK s₃ _ (fun _ _ => False) ok z rf) (fun b s₄ h₄ => ?_) fun _ _ x => x
  obtain ⟨_, b', σ, _, _, hb, z₄, rfl⟩ := h₄
  cases hb
  rw [if_neg Bool.false_ne_true]
  have hs₄ := hs₃.trans (z_sn z₄) (by simp)
  exact seg_end (.ok (.ret .none)) ⟨rfl, rfl, hs₄, z₄.gens.1⟩
end
end
section
section
variable {w : World} {A : Around} {E' : Value → Shared → Prop} {s : Shared}
theorem next_gen {a : Addr} {g n : Nat} {gs : GenState} {P : Nat → Shared → Shared → Prop} {Y : Protocol} {Q : Option Value → Shared → Prop} (hh : A.handled = none)
    (hl : s.heap.NoLimit) (hroom : A.depth < recursionLimit) (hg : s.heap.IsGen a g) (hgs : s.gens[g]? = some gs)
    (hgo : gs.Goes (model pw w) A.in1 (fun n s₀ r s₁ => r = .ok (.ret .none) ∧ P n s₀ s₁) Y n (.send .none) (s.setGen g .running))
    (hY : ∀ v s₁ gs', gs'.bare = true → Y (n - 1) (s.setGen g .running) v s₁ (fun r' s'' => match n with
        | 0 => False
        | m + 1 => gs'.Goes (model pw w) A.in1 (fun n s₀ r s₁ => r = .ok (.ret .none) ∧ P n s₀ s₁) Y m r' s'') → Q (some v) (s₁.setGen g gs'))
    (hP : ∀ s₁, P n (s.setGen g .running) s₁ → ∀ h', (∀ b o, s₁.heap.get? b = some o → h'.get? b = some o) → Q none { s₁.setGen g .finished with heap := h' }) :
    wpAny (model pw w) A (pyNext (.ref a)) Q E' s := by
  unfold pyNext
  refine wpAny_bind (wpAny_attempt (wpAny_callSpecial?_slot (name := Str.ofString "__next__") hg.typeIs slot_gen_next
    (wpAny_call_entry slot_gen_next hg.typeIs entry_gen_next ?_ (args_gen_next _))))
  show wpAny _ A.in1 (Builtin.Generator.genWake (.ref a) (.send .none)) _ _ s
  unfold Builtin.Generator.genWake
  refine wpAny_bind (wpAny_holding (wpAny_genNumber hg (wpAny_bind (wpAny_genState hgs ?_))))
  cases gs with
  | running => exact hgo.elim
  | finished => exact hgo.elim
  | _ =>
    refine wpAny_bind (wpAny_roomToWake hl hroom ?_)
    show wpAny _ A.in1 (.resume g (.send .none) [] _) _ _ s
    refine wpAny_resumeQ hgs hgo (fun x s₁ hx => ?_) (fun v s₁ gs' hb hv => ?_)
    · obtain ⟨rfl, hp⟩ := hx
      show wpAny _ A.in1 (newExc (.type "StopIteration") [] >>= _) _ _ _
      refine wpAny_bind ?_
      simp only [newExc, newTuple]
      refine wpAny_bind (wpAny_newObj_type ?_ (by size_fits))
      refine wpAny_bind (m := firstArgMember _ _) (wpAny_of_eq (a := Value.none) (by first | rfl | (simp only [firstArgMember]; rfl)) ?_)
      refine wpAny_newObj_type ?_ (by size_fits)
      simp only [raiseNew]
      refine wpAny_bind (wpAny_bind (wpAny_handled ?_))
      rw [show A.in1.handled = none from hh]
      refine wpAny_throw ?_
      refine wpAny_bind (wpAny_isInstance (T := "StopIteration") (b := true) ⟨_, Heap.get?_push_size _ rfl, rfl⟩ isSubtype_stop ?_)
      exact wpAny_pure (hP s₁ hp _ fun b o hb => Heap.get?_push_of_some _ (Heap.get?_push_of_some _ hb))
    · exact wpAny_pure ⟨v, rfl, wpAny_pure (hY v s₁ gs' hb hv)⟩
end
section
variable {w : World}
theorem set_get {l : Array GenState} {g : Nat} {x y : GenState} (h : l[g]? = some y) : (l.setIfInBounds g x)[g]? = some x := by
  have : g < l.size := (Array.getElem?_eq_some_iff.mp h).1
  simp [this]
theorem set_bare {l : Array GenState} {g : Nat} {x : GenState} (h : AllBare l) (hx : x.bare = true) : AllBare (l.setIfInBounds g x) := fun y hy => by
  rcases Array.mem_or_eq_of_mem_setIfInBounds hy with h1 | h1
  · exact h y h1
  · rw [h1]; exact hx
theorem set_pre {a : Array GenState} {l r : List GenState} {g : Nat} {x : GenState} (h : a.toList = l ++ r) (hg : l.length ≤ g) : ∃ r', (a.setIfInBounds g x).toList = l ++ r' := by
  rw [Array.toList_setIfInBounds, h]
  exact ⟨_, List.set_append_right _ _ hg⟩
theorem gmv_wake {a b : Array GenState} {g : Nat} {x y : GenState} {r : List GenState} (hb : b.toList = (a.setIfInBounds g x).toList ++ r) (hB : AllBare b) (hy : y.bare = true) : GMv g a (b.setIfInBounds g y) :=
  ⟨fun _ => set_bare hB hy, fun l r' e hl => by
    obtain ⟨r1, e1⟩ := set_pre (x := x) e hl
    rw [e1, List.append_assoc] at hb
    exact set_pre hb hl⟩
noncomputable def GSt (w : World) (A : Around) (a L E It : Addr) (g N : Nat) (x : Str) (env : Env) (i : Nat) (s : Shared) : Prop :=
  s.heap.IsGen a g ∧ (∀ b o, (X1 w).get? b = some o → s.heap.get? b = some o) ∧ AllBare s.gens ∧ (match i with
    | 0 => s.gens[g]? = some (.fresh (.func (bodyOf 2) env)) ∧ s.heap.objs.size = N ∧ ∃ m, s.heap.Ns L m ∧ ∀ y d, lk [(Str.ofString "addr", D.str x)] y = some d → ∃ v, m y = some v ∧ Val noK d v
    | j + 1 => (∀ b ∈ [L, E, It], ∃ o, s.heap.get? b = some o) ∧ ∃ gs, s.gens[g]? = some gs ∧ ∀ s'', Rdy w L E It s s'' → gs.Goes (model pw w) A.in1 (gR L E It) (gY w L E It (escL false 0 x.cps.toList)) ((escL false 0 x.cps.toList).length - (j + 1)) (.send .none) s'')
theorem isgen_move {h h' : Heap} {a : Addr} {g : Nat} (x : h.IsGen a g) (hk : ∀ o, h.get? a = some o → h'.get? a = some o) : h'.IsGen a g := let ⟨o, nm, qn, ho, r⟩ := x; ⟨o, nm, qn, hk o ho, r⟩
theorem go_gen {A : Around} {elts : List Expr} {k : Nat} {pos : Pos} {a T : Addr} {g : Nat} {s : Shared} {Q : Unit → Shared → Prop} {E' : Value → Shared → Prop} (hg : s.heap.IsGen a g) (hQ : Q () s) : wpAny (model pw w) A (letOwnedTupleGo (.Tuple elts k pos) (.ref a) (.ref T)) Q E' s := by
  obtain ⟨o, nm, qn, ho, hc, hd, _⟩ := hg
  unfold letOwnedTupleGo
  refine wpAny_bind (wpAny_load ho ?_)
  rw [hc, hd]
  show wpAny _ A (if (["enumerate", "zip", "dict_itemiterator", "dict_reverseitemiterator", "odict_iterator", "itertools.zip_longest", "itertools.pairwise"].contains "generator" && (#[.int g 0, nm, qn] : Array Value)[0]? == some (rawInt T)) = true then _ else _) Q E' s
  rw [show (["enumerate", "zip", "dict_itemiterator", "dict_reverseitemiterator", "odict_iterator", "itertools.zip_longest", "itertools.pairwise"].contains "generator") = false from by decide, Bool.false_and, if_neg Bool.false_ne_true]
  exact wpAny_pure hQ
end
end
section
section
variable {w : World}
theorem apt_x {L E It : Addr} (a : Apt w L E It) : ∀ b o, (X1 w).get? b = some o → b ∉ [L, E, It] := fun b o e hb => by
  simp at hb
  rcases hb with rfl | rfl | rfl
  · rw [a.lx] at e; cases e
  · rw [a.ex] at e; cases e
  · rw [a.ix] at e; cases e
theorem walksG {A : Around} {a L : Addr} {g N : Nat} {x : Str} {env : Env} {n0 : Nat} (r : Room (n0 + 2) A) (hx1 : (X1 w).get? L = Option.none) (hL : env.locals = L) (hLN : L < N) (haN : a < N) (haL : a ≠ L) (hXN : ∀ b o, (X1 w).get? b = some o → b < N) (hc : env.cells = []) (ok : fm2.Ok env) (hco : env.scope.isCoroutine = false) (hx : x.length ≤ 1000) (hesc : escF false x.cps.toList = false) :
    WalksV w A a [a, L, N + 1, N] [L, N + 1, N] g (escL false 0 x.cps.toList).length (fun i vals => ∃ p y tp ty, (escL false 0 x.cps.toList)[i]? = some (p, y) ∧ vals = #[.int p tp, .str y ty]) (GSt w A a L (N + 1) N g N x env) (fun i T s => GSt w A a L (N + 1) N g N x env (i + 1) s ∧ T ∉ [L, N + 1, N]) := by
  have fresh : ∀ i, (X1 w).get? (N + i) = Option.none := fun i => by
    cases e : (X1 w).get? (N + i) with
    | none => rfl
    | some o => exact absurd (hXN _ _ e) (Nat.not_lt.mpr (Nat.le_add_right _ _))
  have ap : Apt w L (N + 1) N := ⟨Nat.ne_of_lt (Nat.lt_succ_of_lt hLN), Nat.ne_of_lt hLN, Nat.succ_ne_self N, hx1, fresh 1, fresh 0⟩
  have haw : a ∉ [L, N + 1, N] := by simp [haL, Nat.ne_of_lt haN, Nat.ne_of_lt (Nat.lt_succ_of_lt haN)]
  have rr : Room (n0 + 1) A.in1 := by
    constructor
    · have := r.d; show A.depth + (n0 + 1) < _; lia
    · have := r.u; show A.units + 1 + 20 * (n0 + 1) < _; lia
    · exact r.h
  have hroom : A.depth < recursionLimit := by have := r.d; lia
  have hlim : ∀ s : Shared, (∀ b o, (X1 w).get? b = some o → s.heap.get? b = some o) → s.heap.NoLimit := fun s top => (X1_nolimit w).keeps top
  have wake : ∀ i (s : Shared), i ≤ (escL false 0 x.cps.toList).length → GSt w A a L (N + 1) N g N x env i s → ∃ gs, s.gens[g]? = some gs ∧ gs.Goes (model pw w) A.in1 (gR L (N + 1) N) (gY w L (N + 1) N (escL false 0 x.cps.toList)) ((escL false 0 x.cps.toList).length - i) (.send .none) (s.setGen g .running) := by
    intro i s hi st
    obtain ⟨hg, top, ba, st⟩ := st
    have ba' : AllBare (s.setGen g .running).gens := set_bare ba rfl
    cases i with
    | zero =>
      obtain ⟨h1, h2, h3⟩ := st
      exact ⟨_, h1, rfl, gen_func (s := s.setGen g .running) (n0 := n0) hx1 hL hLN h2 hc ok rr hco hx hesc top h3 ba'⟩
    | succ j =>
      obtain ⟨_, gs, h2, h3⟩ := st
      exact ⟨gs, h2, h3 _ ⟨fun b _ o e => e, top, ba'⟩⟩
  refine ⟨by simp, ?_, ?_, ?_, fun i T s h => h.2, ?_⟩
  · rintro i s s' ⟨h1, h2, h3, h4, gs, h5, h6⟩ hk ht ⟨r', hr'⟩ hb
    refine ⟨isgen_move h1 fun o e => hk a (by simp) o e, ht, hb, fun b hb => ?_, gs, ?_, fun s'' hr => h6 s'' ⟨fun b hb o e => hr.1 b hb o (hk b (by simp at hb ⊢; exact .inr hb) o e), hr.2⟩⟩
    · obtain ⟨o, e⟩ := h4 b hb
      exact ⟨o, hk b (by simp at hb ⊢; exact .inr hb) o e⟩
    · have : s.gens.toList[g]? = some gs := by simpa using h5
      have h7 : s'.gens.toList[g]? = some gs := by
        rw [hr', List.getElem?_append_left (List.getElem?_eq_some_iff.mp this).1]; exact this
      simpa using h7
  · intro i s Q E hi st hQ
    obtain ⟨gs, hgs, hgo⟩ := wake i s (Nat.le_of_lt hi) st
    obtain ⟨m, hm⟩ : ∃ m, (escL false 0 x.cps.toList).length - i = m + 1 := ⟨_, (Nat.succ_pred_eq_of_pos (Nat.sub_pos_of_lt hi)).symm⟩
    rw [hm] at hgo
    obtain ⟨hg, top, ba, _⟩ := st
    refine next_gen (P := fun n s₀ s₁ => n = 0 ∧ Sn [L, N + 1, N] s₀ s₁ ∧ AllBare s₁.gens) r.h (hlim s top) hroom hg hgs hgo (fun v s₁ gs' hb hv => ?_) (fun s₁ hp h' hk => absurd hp.1 (Nat.succ_ne_zero m))
    obtain ⟨⟨T, p, y, tp, ty, rfl, hT, hix, hTn⟩, hs, hba, hlive, hkap⟩ := hv
    have hidx : (escL false 0 x.cps.toList).length - 1 - (m + 1 - 1) = i := by rw [Nat.add_sub_cancel, Nat.sub_sub, Nat.add_comm 1 m, ← hm, Nat.sub_sub_self (Nat.le_of_lt hi)]
    rw [hidx] at hix
    obtain ⟨r', hr'⟩ := hs.gens
    have hget : s₁.gens[g]? = some .running := by
      have h1 : (s.gens.setIfInBounds g .running)[g]? = some .running := set_get hgs
      have h2 : (s.gens.setIfInBounds g .running).toList[g]? = some .running := by rw [Array.getElem?_toList]; exact h1
      have : s₁.gens.toList[g]? = some .running := by
        rw [hr']
        show ((s.gens.setIfInBounds g .running).toList ++ r')[g]? = _
        rw [List.getElem?_append_left (List.getElem?_eq_some_iff.mp h2).1]; exact h2
      simpa using this
    have st' : GSt w A a L (N + 1) N g N x env (i + 1) (s₁.setGen g gs') := by
      refine ⟨isgen_move hg fun o e => hs.heap a o haw e, fun b o e => hs.heap b o (apt_x ap b o e) (top b o e), set_bare hba hb, hlive, gs', set_get hget, fun s'' hr => ?_⟩
      have : (escL false 0 x.cps.toList).length - (i + 1) = m := by rw [Nat.sub_succ, hm]; rfl
      rw [this]
      exact hkap s'' hr
    exact hQ T _ _ ⟨p, y, tp, ty, hix, rfl⟩ hT ⟨st', hTn⟩ (fun b o hb e => hs.heap b o hb e) hs.os (gmv_wake hr' hba hb)
  · rintro elts k pos i T s Q E ⟨st, _⟩ hQ
    exact go_gen st.1 (hQ s.heap st fun _ _ _ e => e)
  · intro s Q E st hQ
    obtain ⟨gs, hgs, hgo⟩ := wake _ s (Nat.le_refl _) st
    rw [Nat.sub_self] at hgo
    obtain ⟨hg, top, ba, _⟩ := st
    refine next_gen (P := fun n s₀ s₁ => n = 0 ∧ Sn [L, N + 1, N] s₀ s₁ ∧ AllBare s₁.gens) r.h (hlim s top) hroom hg hgs hgo (fun v s₁ gs' hb hv => ?_) (fun s₁ hp h' hk => ?_)
    · obtain ⟨_, hs, hba, _, hkap⟩ := hv
      exact False.elim (hkap s₁ ⟨fun _ _ _ e => e, fun b o e => hs.heap b o (apt_x ap b o e) (top b o e), hba⟩)
    · obtain ⟨_, hs, hba⟩ := hp
      obtain ⟨r', hr'⟩ := hs.gens
      exact hQ _ (fun b o hb e => hk b o (hs.heap b o hb e)) hs.os (gmv_wake hr' hba rfl)
end
end
section
noncomputable def es86 : List (Int × Nat) := [(65024, 419), (65025, 420), (65026, 421), (65027, 422), (65028, 423), (65029, 424), (6150, 405), (65030, 425), (65031, 426), (65032, 427), (65033, 428), (6155, 406), (6156, 407), (6157, 408), (8203, 409), (8204, 410), (8205, 411), (65034, 429), (65035, 430), (65036, 431), (65037, 432), (65038, 433), (65039, 434), (173, 403), (847, 404), (8288, 412), (65279, 413)]
noncomputable def es86V : List (Int × Value) := es86.map fun p => (p.1, .int p.1 p.2)
noncomputable def t86 (P : Params) : SetTable := match (o86c P).data with | .set _ _ t => t | _ => default
theorem k86 (w : World) : (X1 w).get? 86 = some (o86c w.params) := by kernel_rfl
theorem k86c (P : Params) : (o86c P).ExactSet := ⟨by kernel_rfl, by kernel_rfl, by kernel_rfl⟩
theorem k86d (P : Params) : (o86c P).data = .set es86V.toArray 29 (t86 P) := by kernel_rfl
theorem k86f (P : Params) : (t86 P).fits es86V.toArray.size = true := by kernel_rfl
theorem k86h : ∀ p ∈ es86, hashInt p.1 = p.1 := by decide +kernel
theorem in86 : ∀ x ∈ tbl0, ∃ p ∈ es86, p.1 = x := by decide +kernel
theorem of86 : ∀ p ∈ es86, tbl0.contains p.1 = true := by decide +kernel
theorem set86 (w : World) : (X1 w).SetOf (intKind pw w) 86 (fun i => tbl0.contains i) 27 := by
  refine ⟨o86c w.params, es86V.toArray, 29, t86 w.params, k86 w, k86c _, k86d _, ?_, ?_, by decide +kernel, k86f _, rfl⟩
  · intro e he
    obtain ⟨p, hp, rfl⟩ := List.mem_map.mp (show e ∈ es86V from he)
    exact ⟨⟨p.1, by simp [intKind, Value.isInt], (k86h p hp).symm⟩, rfl⟩
  · intro k
    constructor
    · intro h
      obtain ⟨p, hp, e⟩ := in86 k (List.contains_iff_mem.mp h)
      exact ⟨(p.1, .int p.1 p.2), show _ ∈ es86V from List.mem_map.mpr ⟨p, hp, rfl⟩, by simp [intKind, Value.isInt, e]⟩
    · rintro ⟨e, he, hk⟩
      obtain ⟨p, hp, rfl⟩ := List.mem_map.mp (show e ∈ es86V from he)
      have : p.1 = k := by simpa [intKind, Value.isInt] using hk
      rw [← this]; exact of86 p hp
end
section
section
variable {w : World} {F : Fm} {n : Nat} {σ : St}
theorem w2_inSet {i : Int} {Q : D → St → Prop} (h : Q (.bool (tbl0.contains i)) σ) : W2 w F n Val σ (.int i) (.glob (.ref 86)) (fun _ u v => compareOp .In u v) Q := by
  rintro os env κ ρ s A E _ v ok z r ⟨t, rfl⟩ hv
  cases hv
  obtain ⟨o, es, ep, tt, h1, h2⟩ := set86 w
  have hS : s.heap.SetOf (intKind pw w) 86 (fun i => tbl0.contains i) 27 := ⟨o, es, ep, tt, z.x1 _ _ h1, h2⟩
  exact wpAny_inSet_of (by simp [intKind, Value.isInt]) rfl hS (po (z.tok _) vB h)
noncomputable def ordS (x : Str) : Int := (x.cps.getD 0 0 : Nat)
theorem in_wb (x : Str) (hx : x.length = 1) : WB w (fmOf 14) n 0 ⟨[(Str.ofString "code", .str x)], [], [], 0⟩ (bodyOf 14) (fun fl σ' => fl = .ret (.bool (tbl0.contains (ordS x)))) := by
  refine wB_cons ?_
  repeat (walk_at "m")
  refine w1_ord hx ?_
  repeat (walk_at "m")
  refine wE_glob (by decide +kernel) (gf_set w) ?_
  refine w2_inSet ?_
  repeat (walk_at "m")
  rfl
theorem in_body : (defAt 14).2.2.1 = bodyOf 14 := by kernel_rfl
theorem in_bind {md : Value} (vs : List Value) (h : vs.length = 1) : bindArgs (Calls.docDef (defAt 14).1 (defAt 14).2.1 (defAt 14).2.2.1 (defAt 14).2.2.2 md (.ref 95) .none) ⟨vs, []⟩ = pure ([Str.ofString "code"].zip vs) := by
  obtain ⟨a, rfl⟩ := len1 h
  kernel_rfl
theorem in_kind : ([Str.ofString "code"].all fun x => decide ((defAt 14).2.2.2.names.lookup x = some .local) || decide ((defAt 14).2.2.2.names.lookup x = some .cell)) = true := by kernel_rfl
theorem in_locs (d : D) : locsOf (defAt 14).2.2.2.names ([Str.ofString "code"].zip [d]) [] = [(Str.ofString "code", d)] := by kernel_rfl
theorem in_cels (d : D) : celsOf (defAt 14).2.2.2.names ([Str.ofString "code"].zip [d]) [] = [] := by kernel_rfl
theorem wL_in {x : Str} (hx : x.length = 1) {Q : D → St → Prop} (h : Q (.bool (tbl0.contains (ordS x))) σ) : WL w F (n + 1) Val σ [.str x] (fun _ vs => call (.ref 96) vs) Q := by
  refine wL_call (fa_in w) (names := [Str.ofString "code"]) (ks := []) (ds := [.str x]) (dsC := [.str x]) (objsC := []) rfl rfl rfl (fun vs hv => in_bind vs (by simpa using hv)) in_kind (in_locs _) (in_cels _) ?_
  rw [in_body]
  refine (in_wb x hx).mono fun fl σ' e => ?_
  obtain ⟨q1, q2, q3⟩ := adopt_none (objs := σ'.objs) (σ := σ) (d := .bool (tbl0.contains (ordS x))) rfl h
  exact ⟨_, [], .inl e, q1, q2, q3⟩
end
end
section
section
variable {w : World} {F : Fm} {n : Nat} {σ : St}
noncomputable def keyFits (e : DictEntry) : Bool := match e.key with | .int k _ => e.hash == hashInt k | _ => false
noncomputable def valFits (e : DictEntry) : Bool := match e.val with | .str _ _ => true | _ => false
theorem b3_keys : b3ents.all keyFits = true := by kernel_rfl
theorem b3_vals : b3ents.all valFits = true := by kernel_rfl
theorem k97 (w : World) : (X1 w).get? 97 = some (dO 0) := by kernel_rfl
theorem k97d : ∃ m, dO 0 = dictObj b3ents m := ⟨total (chunkAt 0 :: (chunksMid ++ [chunkLast])), by kernel_rfl⟩
noncomputable def b3get (k : Int) : Option Str := (b3ents.find? fun e => Value.isInt k e.key).bind fun e => match e.val with | .str m _ => some m | _ => none
theorem map97 (w : World) : (X1 w).MapOf (intKind pw w) 97 (fun k => findBy Value.isInt b3ents.toArray k) := by
  obtain ⟨m, hm⟩ := k97d
  refine ⟨dO 0, b3ents.toArray, m, k97 w, ?_, by rw [hm]; rfl, ?_, fun _ => rfl⟩
  · rw [hm]; exact ⟨rfl, rfl, rfl⟩
  · intro e he
    have h1 := List.all_eq_true.mp b3_keys e (by simpa using he)
    unfold keyFits at h1
    split at h1
    · rename_i k t hk
      exact ⟨k, by rw [hk]; simp [intKind, Value.isInt], (by simpa using h1 : e.hash = hashInt k)⟩
    · cases h1
theorem b3_found {k : Int} {v : Value} (h : findBy Value.isInt b3ents.toArray k = some v) : ∃ m t, b3get k = some m ∧ v = .str m t := by
  unfold findBy at h
  obtain ⟨e, h1, rfl⟩ := Option.map_eq_some_iff.mp h
  have h1' : b3ents.find? (fun e => Value.isInt k e.key) = some e := by simpa using h1
  have h2 := List.all_eq_true.mp b3_vals e (List.mem_of_find?_eq_some h1')
  unfold valFits at h2
  split at h2
  · rename_i m t hv
    exact ⟨m, t, by simp [b3get, h1', hv], hv⟩
  · cases h2
theorem b3_lost {k : Int} (h : findBy Value.isInt b3ents.toArray k = none) : b3get k = none := by
  unfold findBy at h
  have h1 := Option.map_eq_none_iff.mp h
  have h1' : b3ents.find? (fun e => Value.isInt k e.key) = none := by simpa using h1
  simp [b3get, h1']
noncomputable def optS : Option Str → D
  | some m => .str m
  | none => .none
theorem w2_get97 {i : Int} {Q : D → St → Prop} (h : Q (optS (b3get i)) σ) : W2 w F n Val σ (.glob (.ref 97)) (.int i) (fun _ u v => call (.builtin "dict.get") [u, v]) Q := by
  rintro os env κ ρ s A E u _ ok z r hu ⟨t, rfl⟩
  cases hu
  obtain ⟨o, es, ep, h1, h2, h3, h4, h5⟩ := map97 w
  have hm : s.heap.MapOf (intKind pw w) 97 (fun k => findBy Value.isInt b3ents.toArray k) := ⟨o, es, ep, z.x1 _ _ h1, h2, h3, h4, h5⟩
  refine call_meetsIn PySem.F.slot_dict_get hm.typeIs PySem.F.entry_dict_get (PySem.F.args_dict_get_2 _ _) (meets_dict_get (intKind pw w) 97 (k := i) (by simp [intKind, Value.isInt]) (by decide)) ⟨_, hm, ?_⟩
  cases hf : findBy Value.isInt b3ents.toArray i with
  | none => rw [b3_lost hf] at h; exact po (z.tok _) vN h
  | some v => obtain ⟨m, tt, e1, rfl⟩ := b3_found hf; rw [e1] at h; exact po (z.tok _) vS h
theorem gm_get97 : GM w σ (.glob (.ref 97)) (Str.ofString "get") "dict.get" := by
  intro os env cw κ ρ s A E v pl Q z hv hQ
  cases hv
  obtain ⟨o, es, ep, h1, h2, h3, h4, h5⟩ := map97 w
  have hm : s.heap.MapOf (intKind pw w) 97 (fun k => findBy Value.isInt b3ents.toArray k) := ⟨o, es, ep, z.x1 _ _ h1, h2, h3, h4, h5⟩
  exact getMethod_builtin hm.typeIs PySem.F.plainAttrs_dict PySem.F.slot_dict_get PySem.F.type_dict_get (fun a e => by cases e; exact ⟨o, z.x1 _ _ h1, h2.2.1⟩) hQ
end
end
section
section
variable {w : World} {F : Fm} {n : Nat} {σ : St}
noncomputable def mapS (x : Str) : Str := (b3get (ordS x)).getD (Txt.lower x)
theorem map_wb (x : Str) (hx : x.length = 1) : WB w (fmOf 16) n 0 ⟨[(Str.ofString "code", .str x)], [], [], 0⟩ (bodyOf 16) (fun fl σ' => fl = .ret (.str (mapS x))) := by
  refine wB_cons ?_
  refine wX_Assign (by intro _; with_unfolding_all rfl) ?_
  refine wE_Meth (id := "dict.get") (by with_unfolding_all rfl) _ (by intro _; with_unfolding_all rfl) ?_
  refine wE_glob (by decide +kernel) (gf_exc w) ?_
  refine ⟨gm_get97, ?_⟩
  repeat (walk_at "m")
  refine w1_ord hx ?_
  repeat (walk_at "m")
  refine w2_get97 ?_
  cases hb : b3get (↑(x.cps.getD 0 0) : Int) with
  | some m =>
    simp only [optS]
    repeat (walk_at "m")
    refine w2_isNotNone isn_str ?_
    repeat (walk_at "m")
    refine ife_t rfl ?_
    repeat (walk_at "m")
    have e : mapS x = m := by unfold mapS ordS; rw [hb]; rfl
    rw [e]
  | none =>
    simp only [optS]
    repeat (walk_at "m")
    refine w2_isNotNone isn_none ?_
    repeat (walk_at "m")
    refine ife_f rfl ?_
    repeat (walk_at "m")
    refine wE_Meth0 (id := "str.lower") _ (by intro _; with_unfolding_all rfl) ?_
    repeat (walk_at "m")
    refine ⟨gm_lower, ?_⟩
    refine w1_lower (by rw [hx]; decide) ?_
    repeat (walk_at "m")
    have e : mapS x = Txt.lower x := by unfold mapS ordS; rw [hb]; rfl
    rw [e]
theorem map_body : (defAt 16).2.2.1 = bodyOf 16 := by kernel_rfl
theorem map_bind {md : Value} (vs : List Value) (h : vs.length = 1) : bindArgs (Calls.docDef (defAt 16).1 (defAt 16).2.1 (defAt 16).2.2.1 (defAt 16).2.2.2 md (.ref 141) .none) ⟨vs, []⟩ = pure ([Str.ofString "code"].zip vs) := by
  obtain ⟨a, rfl⟩ := len1 h
  kernel_rfl
theorem map_kind : ([Str.ofString "code"].all fun x => decide ((defAt 16).2.2.2.names.lookup x = some .local) || decide ((defAt 16).2.2.2.names.lookup x = some .cell)) = true := by kernel_rfl
theorem map_locs (d : D) : locsOf (defAt 16).2.2.2.names ([Str.ofString "code"].zip [d]) [] = [(Str.ofString "code", d)] := by kernel_rfl
theorem map_cels (d : D) : celsOf (defAt 16).2.2.2.names ([Str.ofString "code"].zip [d]) [] = [] := by kernel_rfl
theorem wL_map {x : Str} (hx : x.length = 1) {Q : D → St → Prop} (h : Q (.str (mapS x)) σ) : WL w F (n + 1) Val σ [.str x] (fun _ vs => call (.ref 142) vs) Q := by
  refine wL_call (fa_map w) (names := [Str.ofString "code"]) (ks := []) (ds := [.str x]) (dsC := [.str x]) (objsC := []) rfl rfl rfl (fun vs hv => map_bind vs (by simpa using hv)) map_kind (map_locs _) (map_cels _) ?_
  rw [map_body]
  refine (map_wb x hx).mono fun fl σ' e => ?_
  obtain ⟨q1, q2, q3⟩ := adopt_none (objs := σ'.objs) (σ := σ) (d := .str (mapS x)) rfl h
  exact ⟨_, [], .inl e, q1, q2, q3⟩
end
end
section
section
variable {w : World} {F : Fm} {n : Nat} {σ : St}
noncomputable def readStep (acc c : Str) : Str := if tbl0.contains (ordS c) = true then acc else acc ++ mapS c
noncomputable abbrev stR (x acc sg : Str) (hd : Bool) : St := ⟨[(Str.ofString "text", .str x), (Str.ofString "letters", .str acc), (Str.ofString "sign", .str sg), (Str.ofString "held", .bool hd)], [], [], 0⟩
noncomputable abbrev st0 (x acc : Str) : St := ⟨[(Str.ofString "text", .str x), (Str.ofString "letters", .str acc)], [], [], 0⟩
noncomputable def readBody : List Stmt := match ((bodyOf 19)[1]? : Option Stmt) with | some (Stmt.For _ _ b _ _) => b | _ => []
theorem w1_of {d : D} {α δ : Type} {R : Km → δ → α → Prop} {t : Env → List Value → Sem α} {Q : δ → St → Prop} (h : WL w F n R σ [d] t Q) : W1 w F n R σ d (fun env v => t env [v]) Q :=
  fun os env κ ρ s A E v ok z r hv => h os env κ ρ s A E [v] ok z r (.cons hv .nil)
theorem w2_of {a c : D} {α δ : Type} {R : Km → δ → α → Prop} {t : Env → List Value → Sem α} {Q : δ → St → Prop} (h : WL w F n R σ [a, c] t Q) : W2 w F n R σ a c (fun env u v => t env [u, v]) Q :=
  fun os env κ ρ s A E u v ok z r hu hv => h os env κ ρ s A E [u, v] ok z r (.cons hu (.cons hv .nil))
theorem wE_CallF {i : Nat} {a : Addr} {md : Value} {f : Str} {p pos : Pos} {e : Expr} {rest : List Expr} {Q : D → St → Prop} (fa : FnAt w i a md) (hf : WE w F n σ (.Name f p) (fun d σ₁ => d = .glob (.ref a) ∧ σ₁ = σ)) (hpl : (e :: rest).all plainE = true)
    (h : WEs w F n σ pos (e :: rest) (fun ds σ₂ => WL w F n Val σ₂ ds (fun _ vs => call (.ref a) vs) Q)) : WE w F n σ (.Call (.Name f p) (e :: rest) [] pos) Q := by
  obtain ⟨o, h1, h2⟩ := fa.get
  exact wE_CallFn hf h1 h2 hpl h
theorem read_rest (x acc c : Str) (hc : c.length = 1) (hl : acc.length + (mapS c).length ≤ sizeLine) {Q : Fl → St → Prop} (hQ : Q .next (stR x (readStep acc c) c (tbl0.contains (ordS c)))) :
    WB w (fmOf 19) (n + 1) 0 (stR x acc c (tbl0.contains (ordS c))) (readBody.drop 1) Q := by
  show WB w (fmOf 19) (n + 1) 0 _ (_ :: _) _
  refine wB_cons ?_
  repeat (walk_at "m")
  refine w2_isBool ?_
  repeat (walk_at "m")
  unfold readStep at hQ
  cases hb : tbl0.contains (ordS c) with
  | false =>
    rw [hb] at hQ
    refine ife_t rfl ?_
    repeat (walk_at "m")
    refine wE_CallF (fa_map w) (name_is (by decide +kernel) (gf_map w)) (by with_unfolding_all rfl) ?_
    repeat (walk_at "m")
    refine w1_of (wL_map hc ?_)
    refine w2_sadd hl ?_
    repeat (walk_at "m")
    exact hQ
  | true =>
    rw [hb] at hQ
    refine ife_f rfl ?_
    repeat (walk_at "m")
    refine w2_isNotBool ?_
    repeat (walk_at "m")
    refine ife_f rfl ?_
    repeat (walk_at "m")
    exact hQ
theorem read_turn (x acc c sg : Str) (hd : Bool) (hc : c.length = 1) (hl : acc.length + (mapS c).length ≤ sizeLine) {Q : Fl → St → Prop} (hQ : Q .next (stR x (readStep acc c) c (tbl0.contains (ordS c)))) :
    Sto (fmOf 19) (stR x acc sg hd) (Str.ofString "sign") (.str c) (fun σ₁ => WB w (fmOf 19) (n + 1) 0 σ₁ readBody Q) ∧ Sto (fmOf 19) (st0 x acc) (Str.ofString "sign") (.str c) (fun σ₁ => WB w (fmOf 19) (n + 1) 0 σ₁ readBody Q) := by
  have r := read_rest (w := w) (n := n) x acc c hc hl hQ
  constructor
  · walk_at "m"
    show WB w (fmOf 19) (n + 1) 0 _ (_ :: _) _
    refine wB_cons ?_
    refine wX_Assign (by intro _; with_unfolding_all rfl) ?_
    refine wE_CallF (fa_in w) (name_is (by decide +kernel) (gf_in w)) (by with_unfolding_all rfl) ?_
    repeat (walk_at "m")
    refine w1_of (wL_in hc ?_)
    walk_at "m"
    exact thenB_next r
  · walk_at "m"
    show WB w (fmOf 19) (n + 1) 0 _ (_ :: _) _
    refine wB_cons ?_
    refine wX_Assign (by intro _; with_unfolding_all rfl) ?_
    refine wE_CallF (fa_in w) (name_is (by decide +kernel) (gf_in w)) (by with_unfolding_all rfl) ?_
    repeat (walk_at "m")
    refine w1_of (wL_in hc ?_)
    walk_at "m"
    exact thenB_next r
end
end
section
section
variable {w : World} {F : Fm} {n : Nat} {σ : St}
noncomputable def smallR (acc : Str) (cs : List Str) : Prop := acc.length + (cs.map fun c => (mapS c).length).sum ≤ sizeLine
theorem read_loop (x : Str) {Q : Fl → St → Prop} : ∀ (cs : List Str) (acc sg : Str) (hd : Bool), (∀ c ∈ cs, c.length = 1) → smallR acc cs → (∀ sg hd, Q .next (stR x (cs.foldl readStep acc) sg hd)) →
    Loop w (fmOf 19) (n + 1) 0 (Str.ofString "sign") readBody Q (cs.map D.str) (stR x acc sg hd)
  | [], acc, sg, hd, _, _, hQ => hQ sg hd
  | c :: cs, acc, sg, hd, h1, h2, hQ => by
    simp only [smallR, List.map_cons, List.sum_cons] at h2
    refine (read_turn x acc c sg hd (h1 c List.mem_cons_self) (by lia) ?_).1
    refine read_loop x cs _ _ _ (fun c hc => h1 c (List.mem_cons_of_mem _ hc)) ?_ hQ
    have e : (readStep acc c).length ≤ acc.length + (mapS c).length := by
      unfold readStep; split
      · lia
      · rw [strLen_append]; exact Nat.le_refl _
    simp only [smallR]; lia
noncomputable def charS (x : Str) : List Str := x.cps.toList.map fun c => ⟨#[c]⟩
theorem chars_eq (x : Str) : chars x = (charS x).map D.str := by simp [chars, charS]
theorem charS_one (x : Str) : ∀ c ∈ charS x, c.length = 1 := fun c hc => by
  obtain ⟨a, _, rfl⟩ := List.mem_map.mp hc; rfl
noncomputable def readS (x : Str) : Str := (charS x).foldl readStep (Str.ofString "")
theorem read_wb (x : Str) (hs : smallR (Str.ofString "") (charS x)) : WB w (fmOf 19) (n + 1) 0 ⟨[(Str.ofString "text", .str x)], [], [], 0⟩ (bodyOf 19) (fun fl σ' => fl = .ret (.str (readS x))) := by
  refine wB_cons ?_
  repeat (walk_at "m")
  refine wX_For (by intro _ _; with_unfolding_all rfl) (wI_str ?_)
  walk_at "m"
  refine ⟨x, rfl, ?_⟩
  have fin : ∀ sg hd, thenB w (fmOf 19) (n + 1) 0 ((bodyOf 19).drop 2) (fun fl σ' => fl = .ret (.str (readS x))) .next (stR x (readS x) sg hd) := fun sg hd => by
    show thenB w (fmOf 19) (n + 1) 0 (_ :: _) _ _ _
    repeat (walk_at "m")
    rfl
  rw [chars_eq]
  have h1 := charS_one x
  cases hc : charS x with
  | nil =>
    show thenB w (fmOf 19) (n + 1) 0 (_ :: _) _ .next (st0 x _)
    repeat (walk_at "m")
    unfold readS; rw [hc]; rfl
  | cons c cs =>
    rw [hc] at h1 hs
    simp only [smallR, List.map_cons, List.sum_cons] at hs
    refine (read_turn x (Str.ofString "") c (Str.ofString "") true (h1 c List.mem_cons_self) (by lia) ?_).2
    refine read_loop x cs _ _ _ (fun c hc => h1 c (List.mem_cons_of_mem _ hc)) ?_ ?_
    · have e : (readStep (Str.ofString "") c).length ≤ (Str.ofString "").length + (mapS c).length := by
        unfold readStep; split
        · lia
        · rw [strLen_append]; exact Nat.le_refl _
      simp only [smallR]; lia
    · intro sg hd
      have e : readS x = cs.foldl readStep (readStep (Str.ofString "") c) := by unfold readS; rw [hc]; rfl
      rw [← e]
      exact fin sg hd
theorem read_body : (defAt 19).2.2.1 = bodyOf 19 := by kernel_rfl
theorem read_bind {md : Value} (vs : List Value) (h : vs.length = 1) : bindArgs (Calls.docDef (defAt 19).1 (defAt 19).2.1 (defAt 19).2.2.1 (defAt 19).2.2.2 md (.ref 155) .none) ⟨vs, []⟩ = pure ([Str.ofString "text"].zip vs) := by
  obtain ⟨a, rfl⟩ := len1 h
  kernel_rfl
theorem read_kind : ([Str.ofString "text"].all fun x => decide ((defAt 19).2.2.2.names.lookup x = some .local) || decide ((defAt 19).2.2.2.names.lookup x = some .cell)) = true := by kernel_rfl
theorem read_locs (d : D) : locsOf (defAt 19).2.2.2.names ([Str.ofString "text"].zip [d]) [] = [(Str.ofString "text", d)] := by kernel_rfl
theorem read_cels (d : D) : celsOf (defAt 19).2.2.2.names ([Str.ofString "text"].zip [d]) [] = [] := by kernel_rfl
theorem wL_read {x : Str} (hs : smallR (Str.ofString "") (charS x)) {Q : D → St → Prop} (h : Q (.str (readS x)) σ) : WL w F (n + 2) Val σ [.str x] (fun _ vs => call (.ref 156) vs) Q := by
  refine wL_call (fa_read w) (names := [Str.ofString "text"]) (ks := []) (ds := [.str x]) (dsC := [.str x]) (objsC := []) rfl rfl rfl (fun vs hv => read_bind vs (by simpa using hv)) read_kind (read_locs _) (read_cels _) ?_
  rw [read_body]
  refine (read_wb x hs).mono fun fl σ' e => ?_
  obtain ⟨q1, q2, q3⟩ := adopt_none (objs := σ'.objs) (σ := σ) (d := .str (readS x)) rfl h
  exact ⟨_, [], .inl e, q1, q2, q3⟩
end
end
section
section
variable {w : World} {F : Fm} {n : Nat} {σ : St}
noncomputable def hid : List Str := [Str.ofString "", Str.ofString "\\(", Str.ofString "\")\"", Str.ofString "\"\\\"(\""]
noncomputable def repS (c : Nat) (k : Nat) : Str := ⟨(List.replicate k c).toArray⟩
noncomputable def hidAt (mark place : Int) : Nat := ((mark.fdiv (4 ^ (place + 1).toNat)).fmod 4).toNat
noncomputable def pieceS (mark place : Int) (k : Nat) : Str := hid.getD (hidAt mark place) (Str.ofString "") ++ repS 40 k ++ Str.ofString ")"
theorem piece_wb (mark place : Int) (sp : Sp) (ns : List Int) (ht : sp.ty = "list") (hp : sp.px = true) (hn : intsD sp.ds = some ns) (h0 : 0 ≤ place) (h1 : place ≤ 10) (h2 : ns.count place ≤ 100) :
    WB w (fmOf 22) n 1 ⟨[(Str.ofString "place", .int place), (Str.ofString "wishes", .ref 0), (Str.ofString "mark", .int mark)], [], [(0, sp)], 1⟩ (bodyOf 22) (fun fl σ' => fl = .ret (.str (pieceS mark place (ns.count place)))) := by
  refine wB_cons ?_
  repeat (walk_at "m")
  refine w2_pow4 (by lia) (by lia) ?_
  have p4 : (1 : Int) ≤ 4 ^ (place + 1).toNat ∧ (4 : Int) ^ (place + 1).toNat ≤ 4194304 := by
    have : ∀ k < 12, (1 : Int) ≤ 4 ^ k ∧ (4 : Int) ^ k ≤ 4194304 := by decide +kernel
    exact this _ (by lia)
  refine w2_floordiv (by lia) (by lia) ?_
  repeat (walk_at "m")
  have b4 := fmod_b (mark.fdiv (4 ^ (place + 1).toNat)) 4 (by decide)
  have hh : (hid.map D.str)[hidAt mark place]? = some (.str (hid.getD (hidAt mark place) (Str.ofString ""))) := by
    have hlt : hidAt mark place < hid.length := by show hidAt mark place < 4; unfold hidAt; lia
    rw [List.getElem?_map, List.getElem?_eq_getElem hlt, List.getD_eq_getElem?_getD, List.getElem?_eq_getElem hlt]; rfl
  have hl : (hid.getD (hidAt mark place) (Str.ofString "")).length ≤ 10 := by
    have : ∀ k < 4, (hid.getD k (Str.ofString "")).length ≤ 10 := by decide +kernel
    exact this _ (by unfold hidAt; lia)
  refine w2_item (by walk_at "m_fd") rfl (seqI b4.1 (by show _ < ((4 : Nat) : Int); lia)) hh ⟨by lia, by lia⟩ ?_
  repeat (walk_at "m")
  refine wE_Meth (id := "list.count") (by with_unfolding_all rfl) _ (by intro _; with_unfolding_all rfl) ?_
  repeat (walk_at "m")
  refine ⟨gm_count (by walk_at "m_fd") ht hp, ?_⟩
  repeat (walk_at "m")
  refine w2_count (by walk_at "m_fd") ht hn ?_
  refine w2_smul (by decide +kernel) (by lia) (by lia) ?_
  have e40 : (⟨(List.replicate ((ns.count place : Nat) : Int).toNat ((Str.ofString "(").cps.getD 0 0)).toArray⟩ : Str) = repS 40 (ns.count place) := by
    have : (Str.ofString "(").cps.getD 0 0 = 40 := by decide +kernel
    rw [this]; rfl
  rw [e40]
  have hr : (repS 40 (ns.count place)).length = ns.count place := by simp [repS, Str.length]
  refine w2_sadd (by rw [hr]; unfold sizeLine; lia) ?_
  repeat (walk_at "m")
  refine w2_sadd (by rw [strLen_append, hr, show (Str.ofString ")").length = 1 by decide +kernel]; unfold sizeLine; lia) ?_
  repeat (walk_at "m")
  rfl
end
end
section
section
variable {w : World} {F : Fm} {n : Nat} {σ : St}
theorem intsD_noRef : ∀ {ds : List D} {ns : List Int}, intsD ds = some ns → ds.all noRef = true
  | [], _, _ => rfl
  | d :: ds, ns, h => by
    cases d <;> simp only [intsD, reduceCtorEq] at h
    obtain ⟨ms, h1, _⟩ := Option.map_eq_some_iff.mp h
    simp only [List.all_cons, noRef, Bool.true_and]
    exact intsD_noRef h1
theorem arg_one {k : Nat} {sp : Sp} (h : fd σ.objs k = some sp) (hn : sp.ds.all noRef = true) : freezeAll (newsFrom 0 [k] σ.objs 0 [k]) = [(0, { sp with fz := true })] ∧ ∀ ds : List D, ds.all (fun d => noRef d || (match d with | .ref j => Nat.beq j k | _ => false)) = true → argsOk' [k] σ.objs ds = true := by
  obtain ⟨e1, e2⟩ := ren_no (pick := [k]) (b := 0) hn
  refine ⟨?_, fun ds hd => ?_⟩
  · simp [newsFrom, h, renSp, e1, freezeAll]
  · have : ds.all (refIn [k]) = true := List.all_eq_true.mpr fun d hm => by
      have := List.all_eq_true.mp hd d hm
      cases d <;> first
        | rfl
        | (simp only [noRef, Bool.false_or] at this; simp [refIn, idx, this])
    simp [argsOk', distinct, h, e2, this]
theorem piece_body : (defAt 22).2.2.1 = bodyOf 22 := by kernel_rfl
theorem piece_bind {md : Value} (vs : List Value) (h : vs.length = 3) : bindArgs (Calls.docDef (defAt 22).1 (defAt 22).2.1 (defAt 22).2.2.1 (defAt 22).2.2.2 md (.ref 172) .none) ⟨vs, []⟩ = pure ([Str.ofString "place", Str.ofString "wishes", Str.ofString "mark"].zip vs) := by
  obtain ⟨a, b, c, rfl⟩ := len3 h
  kernel_rfl
theorem piece_kind : ([Str.ofString "place", Str.ofString "wishes", Str.ofString "mark"].all fun x => decide ((defAt 22).2.2.2.names.lookup x = some .local) || decide ((defAt 22).2.2.2.names.lookup x = some .cell)) = true := by kernel_rfl
theorem piece_locs (a b c : D) : locsOf (defAt 22).2.2.2.names ([Str.ofString "place", Str.ofString "wishes", Str.ofString "mark"].zip [a, b, c]) [] = [(Str.ofString "place", a), (Str.ofString "wishes", b), (Str.ofString "mark", c)] := by kernel_rfl
theorem piece_cels (a b c : D) : celsOf (defAt 22).2.2.2.names ([Str.ofString "place", Str.ofString "wishes", Str.ofString "mark"].zip [a, b, c]) [] = [] := by kernel_rfl
theorem wL_piece {mark place : Int} {k : Nat} {sp : Sp} {ns : List Int} (hk : fd σ.objs k = some sp) (ht : sp.ty = "list") (hp : sp.px = true) (hn : intsD sp.ds = some ns) (h0 : 0 ≤ place) (h1 : place ≤ 10) (h2 : ns.count place ≤ 100) {Q : D → St → Prop} (h : Q (.str (pieceS mark place (ns.count place))) σ) :
    WL w F (n + 1) Val σ [.int place, .ref k, .int mark] (fun _ vs => call (.ref 173) vs) Q := by
  obtain ⟨a1, a2⟩ := arg_one hk (intsD_noRef hn)
  refine wL_call (fa_piece w) (names := [Str.ofString "place", Str.ofString "wishes", Str.ofString "mark"]) (ks := [k]) (ds := [.int place, .ref k, .int mark]) (dsC := [.int place, .ref 0, .int mark]) (objsC := [(0, { sp with fz := true })]) (a2 _ (by simp [noRef])) (by simp [ren, idx]) a1 (fun vs hv => piece_bind vs (by simpa using hv)) piece_kind (piece_locs _ _ _) (piece_cels _ _ _) ?_
  rw [piece_body]
  refine (piece_wb mark place { sp with fz := true } ns ht hp hn h0 h1 h2).mono fun fl σ' e => ?_
  obtain ⟨q1, q2, q3⟩ := adopt_none (objs := σ'.objs) (σ := σ) (d := .str (pieceS mark place (ns.count place))) rfl h
  exact ⟨_, [], .inl e, q1, q2, q3⟩
end
end
section
section
variable {w : World} {F : Fm} {n : Nat} {σ : St}
theorem g2_get (w : World) : (X1 w).get? 38 = some ⟨.type "function", Option.none, .func fd2, #[]⟩ := by kernel_rfl
theorem g2_code (w : World) : (X1 w).CodeRec fd2.code fd2.qualname := codeRecB_ok (c := 37) (by kernel_rfl)
theorem g2_bind (v : Value) : bindArgs fd2 ⟨[v], []⟩ = pure [(Str.ofString "addr", v)] := by kernel_rfl
theorem g2_stmts : fd2.body = .stmts (bodyOf 2) := by kernel_rfl
theorem g2_addr : fd2.scope.names.lookup (Str.ofString "addr") = some .local := by decide +kernel
theorem g2_cells : ∀ x ∈ fd2.scope.names, x.2 ≠ .cell := by
  have : fd2.scope.names.all (fun x => x.2 != .cell) = true := by kernel_rfl
  intro x hx; simpa using List.all_eq_true.mp this x hx
noncomputable def escD (x : Str) : List (D × D) := (escL false 0 x.cps.toList).map fun p => (.int p.1, .str p.2)
theorem X1_size (w : World) : ∀ b o, (X1 w).get? b = some o → b < 179 := fun b o e => by
  have := Heap.lt_size e
  have h : (X1 w).objs.size = 179 := absHeap_size ..
  rw [h] at this
  exact this
theorem wIV_gen {f : Str} {p pos : Pos} {e : Expr} {Q : List (D × D) → St → Prop} (hf : WE w F (n + 2) σ (.Name f p) (fun d σ₁ => d = .glob (.ref 38) ∧ σ₁ = σ)) (hpl : ([e] : List Expr).all plainE = true)
    (h : WEs w F (n + 2) σ pos [e] (fun ds σ₁ => ∃ x, ds = [.str x] ∧ x.length ≤ 1000 ∧ escF false x.cps.toList = false ∧ Q (escD x) σ₁)) : WIV w F (n + 2) σ (.Call (.Name f p) [e] [] pos) Q := by
  intro os env κ ρ s A E ok z r
  refine wpAny_Call_Name_kw (wpAny_mono (hf os env κ ρ s A E ok z r) (fun fv s₁ h₁ => ?_) fun _ _ x => x)
  obtain ⟨ρ₁, d, σ₁, g1, g2, g3, g4, rfl, rfl⟩ := h₁
  cases g3
  refine callWith_def (fd := fd2) (o := ⟨.type "function", Option.none, .func fd2, #[]⟩) rfl (wpAny_mono (h os env κ ρ₁ s₁ A E ok g4 r) (fun vs s₂ h₂ => ?_) fun _ _ x => x) (by have := star_plain hpl env; rw [this]; rfl)
  obtain ⟨ρ₂, ds, σ₂, k1, k2, k3, k4, x, rfl, hx, hesc, hQ⟩ := h₂
  refine ⟨k4.x1 _ _ (g2_get w), ?_⟩
  match vs, k3 with
  | _, .cons ⟨t, hv⟩ .nil =>
    subst hv
    have hroom : A.depth < recursionLimit := by have := r.d; lia
    refine wpAny_call (codeAny_call_generator hroom (k4.x1 _ _ (g2_get w)) rfl (by kernel_rfl) (by kernel_rfl) g2_stmts ((g2_code w).keeps k4.x1) ?_)
    rw [g2_bind]
    refine wpAny_pure (wpAny_newFunctionEnv g2_cells (by intro y hy; rw [List.mem_singleton.mp hy]; exact g2_addr) (fun h' hns hsb => ?_) (by kernel_rfl))
    have hsz : h'.objs.size = s₂.heap.objs.size + 1 := by rw [hsb.1, Heap.size_push]
    have keep1 : ∀ b o, s₂.heap.get? b = some o → h'.get? b = some o := fun b o e => hsb.extBut b o (Nat.ne_of_lt (Heap.lt_size e)) (Heap.get?_push_of_some _ e)
    refine ⟨(X1_nolimit w).keeps fun b o e => keep1 b o (k4.x1 b o e), ?_⟩
    let env' : Env := newEnv fd2.scope s₂.heap.objs.size fd2.globals fd2.closure (fd2.qualname ++ ".<locals>.") (some 38) fd2.code none fd2.builtins
    let s₃ : Shared := { s₂ with gens := s₂.gens.push (.fresh (.func (bodyOf 2) env')), toks := s₂.toks + 1 + 1 + 1,
                                  heap := h'.push { cls := .type "generator", data := .fields #[.int s₂.gens.size 0, .str fd2.name (s₂.toks + 1), .str fd2.qualname (s₂.toks + 1 + 1)] } }
    show wpAny (model pw w) A (pyIter (.ref h'.objs.size)) _ E s₃
    rw [hsz]
    have keep3 : ∀ b o, s₂.heap.get? b = some o → s₃.heap.get? b = some o := fun b o e => Heap.get?_push_of_some _ (keep1 b o e)
    have hg : s₃.heap.IsGen (s₂.heap.objs.size + 1) s₂.gens.size := ⟨_, _, _, by rw [← hsz]; exact Heap.get?_push_size _ rfl, rfl, rfl, rfl⟩
    have hba : AllBare s₃.gens := k4.gens.1.push rfl
    have z₃ : Z w os env F.cw κ ρ₂ σ₂ s₃ := k4.grown keep3 rfl ⟨hba, by
      obtain ⟨r', hr'⟩ := k4.gens.2
      exact ⟨r' ++ [.fresh (.func (bodyOf 2) env')], by show (s₂.gens.push _).toList = _; rw [Array.toList_push, hr', List.append_assoc]⟩⟩
    have none : ∀ i, s₂.heap.get? (s₂.heap.objs.size + i) = Option.none := fun i => by
      cases e : s₂.heap.get? (s₂.heap.objs.size + i) with
      | none => rfl
      | some o => exact absurd (Heap.lt_size e) (Nat.not_lt.mpr (Nat.le_add_right _ _))
    have ap : ∀ i, Apart env κ ρ₂ (s₂.heap.objs.size + i) := fun i => k4.apart (none i)
    have x1n : ∀ i, (X1 w).get? (s₂.heap.objs.size + i) = Option.none := fun i => by
      cases e : (X1 w).get? (s₂.heap.objs.size + i) with
      | none => rfl
      | some o => have h1 := k4.x1 _ _ e; rw [none i] at h1; cases h1
    have oke : fm2.Ok env' := ⟨by kernel_rfl, by kernel_rfl, rfl, rfl, fun _ y hy => absurd hy (by
      intro h
      exact g2_cells _ (mem_of_lookup h) rfl)⟩
    refine wpAny_pyIter_gen hg ?_
    have W := walksG (w := w) (A := A) (a := s₂.heap.objs.size + 1) (L := s₂.heap.objs.size) (g := s₂.gens.size) (N := s₂.heap.objs.size + 2) (x := x) (env := env') (n0 := n) r (x1n 0) rfl (Nat.lt_add_of_pos_right (by decide)) (Nat.lt_succ_self _) (Nat.succ_ne_self _) (fun b o e => Nat.lt_add_right 2 (Heap.lt_size (k4.x1 b o e))) rfl oke (by kernel_rfl) hx hesc
    have hlen : (escD x).length = (escL false 0 x.cps.toList).length := by simp [escD]
    rw [← hlen] at W
    obtain ⟨r', hr'⟩ := k4.gens.2
    have hγ : os.g.length ≤ s₂.gens.size := by
      have := congrArg List.length hr'
      simp at this; lia
    refine ⟨ρ₂, escD x, σ₂, _, _, _, s₂.gens.size, _, _, _, rfl, Nat.le_trans g1 k1, g2.trans k2 g1, z₃, W, ?_, ?_, ?_, ?_, ?_, hγ, hQ⟩
    · refine ⟨hg, z₃.x1, hba, ?_, ?_, ?_⟩
      · show (s₂.gens.push _)[s₂.gens.size]? = _
        exact Array.getElem?_push_size ..
      · show (h'.push _).objs.size = _
        rw [Heap.size_push, hsz]
      · refine ⟨_, hns.push _, fun y d hy => ?_⟩
        simp only [lk] at hy
        split at hy
        · rename_i hyy
          cases hy
          subst hyy
          exact ⟨.str x t, by rfl, t, rfl⟩
        · cases hy
    · rintro i vals hi ⟨p, y, tp, ty, hix, rfl⟩
      exact ⟨_, _, .int p, .str y, rfl, by simp [escD, hix], ⟨tp, rfl⟩, ⟨ty, rfl⟩⟩
    · rintro i s ⟨⟨o, _, _, ho, _⟩, _, _, hl, _⟩ b hb
      rcases List.mem_cons.mp hb with rfl | hb
      · exact ⟨o, ho⟩
      · exact hl b hb
    · intro b hb
      simp at hb
      rcases hb with rfl | rfl | rfl | rfl
      · exact (ap 1).foot
      · exact (ap 0).foot
      · exact (ap 3).foot
      · exact (ap 2).foot
    · intro b hb
      simp at hb
      rcases hb with rfl | rfl | rfl
      · exact ap 0
      · exact ap 3
      · exact ap 2
end
end
section
section
open PySem.Builtin PySem.Builtin.Re
variable {w : World} {A : Around}
theorem re_loop {P : Value} {x r : Str} {u t : Nat} {code : Array Nat} {L : Addr} (hx : x.length ≤ 10000) (hr : r.length ≤ 10) (hT : ∀ (st : Setting) (tk : Nat), rd st (fun a => (X1 w).get? a) 300 _ tk (reWholeTarget P (.str x u)) = some (tgt P code x u, tk)) (hLX : (X1 w).get? L = Option.none) :
    ∀ {k p : Nat} {out : List Nat}, Subs code x.cps r.cps.toList k p out → ∀ (s : Shared) (ys : List Str) (vals : List Value) (nn : Nat) (n : Int) (R : Result → Shared → Prop), (∀ b o, (X1 w).get? b = some o → s.heap.get? b = some o) → s.heap.get? L = some (seqO "list" vals nn) → All2 (Val noK) (ys.map D.str) vals →
    ys.length ≤ 2 * p → (cat ys).length ≤ 20 * p → p ≤ 10000 →
    (∀ t' h' tk', (∀ b o, b ≠ L → s.heap.get? b = some o → h'.get? b = some o) → R (.ok (.ret (.str ⟨(cat ys ++ out).toArray⟩ t'))) { s with heap := h', toks := tk' }) →
    codeAny (model pw w) A (.builtin "re.Pattern.sub.loop" (loopArgs P x u r t n p L)) R s := by
  intro k p out hS
  induction hS with
  | @done p hs =>
    intro s ys vals nn n R hX hL hv hy hc hp hR
    refine codeAny_builtin e_loop ?_
    rw [Around.under_plainId p_loop _, loop_eq]
    refine wpAny_bind (wpAny_rd 300 (hT _ _) hX ?_)
    rw [lit_ok]
    refine wpAny_bind (wpAny_pure (wpAny_bind ?_))
    rw [Int.toNat_natCast]
    refine next_none rfl rfl hs ?_
    exact foundNo_wp rfl hx rfl hL hv (by lia) (by lia) fun t' h' tk' hk => hR t' h' tk' hk
  | @more k p a b out hs h1 h2 h3 _ ih =>
    intro s ys vals nn n R hX hL hv hy hc hp hR
    have h3 : b ≤ x.length := h3
    refine codeAny_builtin e_loop ?_
    rw [Around.under_plainId p_loop _, loop_eq]
    refine wpAny_bind (wpAny_rd 300 (hT _ _) hX ?_)
    rw [lit_ok]
    refine wpAny_bind (wpAny_pure (wpAny_bind ?_))
    rw [Int.toNat_natCast]
    refine next_some rfl rfl hs fun m hm1 hm2 => ?_
    have fin : ∀ (zs : List Str) (vals : List Value) (nn tk : Nat) (h' : Heap), h'.get? L = some (seqO "list" vals nn) → All2 (Val noK) (zs.map D.str) vals → zs.length ≤ 2 * p + 1 → cat zs = cat ys ++ (x.cps.toList.drop p).take (a - p) → (∀ b o, b ≠ L → s.heap.get? b = some o → h'.get? b = some o) →
        wpAny (model pw w) A.in1 (goOn P x u r t n L m) (fun fin s' => match fin with | .done f => R (.ok f) s' | .again c' => c'.quiet = true ∧ codeAny (model pw w) A c' R s') (fun e s' => R (.error e) s') { s with heap := h', toks := tk } := by
      intro zs vals nn tk h' hL hv hz hcz hk
      unfold goOn
      refine wpAny_bind ?_
      refine upd_push hL (by rw [← hv.len, List.length_map]; lia) fun hp2 m' g1 g2 => ?_
      refine wpAny_pure ⟨plainId_quiet p_loop _, ?_⟩
      have hb : (m.handed == m.start) = false := by rw [hm1, hm2]; simpa using Nat.ne_of_gt h2
      rw [hb, hm2]
      have hcl : (cat zs).length ≤ 20 * p + (a - p) := by
        rw [hcz, List.length_append, List.length_take]; lia
      have hkk : ∀ b o, b ≠ L → s.heap.get? b = some o → hp2.get? b = some o := fun b o hb e => g2 b o hb (hk b o hb e)
      refine ih _ (zs ++ [r]) (vals ++ [.str r t]) m' (n + 1) R (fun b o e => hkk b o (fun hb => by rw [hb, hLX] at e; cases e) (hX b o e)) g1 ?_ (by simp; lia) ?_ (by lia) fun t' h' tk' hk' => ?_
      · rw [List.map_append]; exact hv.append (.cons ⟨t, rfl⟩ .nil)
      · rw [cat_app, cat_one, List.length_append]
        have : r.cps.toList.length ≤ 10 := by simpa [Str.length] using hr
        lia
      · have := hR t' h' tk' fun b o hb e => hk' b o hb (hkk b o hb e)
        rw [cat_app, cat_one, hcz]
        rw [← List.append_assoc, ← List.append_assoc] at this
        exact this
    show wpAny _ A.in1 (foundNext (tgt P code x u) P x u r t n p L m) _ _ _
    unfold foundNext
    rw [Int.toNat_natCast, hm1]
    split
    · refine wpAny_bind (slice_str rfl hx fun tk1 => wpAny_bind ?_)
      refine upd_push hL (by rw [← hv.len, List.length_map]; lia) fun h' m' g1 g2 => ?_
      refine fin (ys ++ [⟨x.cps.extract p a⟩]) _ m' (tk1 + 1) h' g1 ?_ (by simp; lia) ?_ g2
      · rw [List.map_append]; exact hv.append (.cons ⟨tk1, rfl⟩ .nil)
      · rw [cat_app, cat_one, extract_list]
    · refine fin ys vals nn s.toks s.heap hL hv (by lia) ?_ fun b o _ e => e
      have : a - p = 0 := by lia
      rw [this, List.take_zero, List.append_nil]
end
end
section
section
open PySem.Builtin PySem.Builtin.Re
variable {w : World} {A : Around} {E : Value → Shared → Prop} {s : Shared}
noncomputable def rdR (st : Setting) (g : Addr → Option Obj) : Nat → (α : Type) → Nat → Sem α → Sem α × Nat
  | 0, _, tk, t => (t, tk)
  | n + 1, α, tk, t => match t with
    | .rule _ k => rdR st g n α tk (k ())
    | .at _ k => rdR st g n α tk (k ())
    | .load a p k => match g a with
      | some o => rdR st g n α tk (k o)
      | none => (.load a p k, tk)
    | .point _ k => rdR st g n α tk (k ())
    | .fresh k => rdR st g n α (tk + 1) (k tk)
    | .ask k => rdR st g n α tk (k st)
    | t => (t, tk)
theorem rdR_spec {M : Model} {A : Around} {E : Value → Shared → Prop} {g : Addr → Option Obj} {s₀ : Shared} (hg : ∀ b o, g b = some o → s₀.heap.get? b = some o) : ∀ (n : Nat) (α : Type) (tk : Nat) (t r : Sem α) (tk' : Nat), rdR ⟨M.prog, M.w.params⟩ g n α tk t = (r, tk') →
    ∀ (Q : α → Shared → Prop), wpAny M A r Q E { s₀ with toks := tk' } → wpAny M A t Q E { s₀ with toks := tk }
  | 0, _, _, _, _, _, h => by
    intro Q hQ
    cases h
    exact hQ
  | n + 1, α, tk, t, r, tk', h => by
    intro Q hQ
    have IH := rdR_spec (M := M) (A := A) (E := E) hg n
    cases t with
    | rule tag k => exact fun Γ p hΓ => (IH _ _ _ _ _ h Q hQ) Γ p hΓ
    | «at» q k => exact fun Γ p hΓ => (IH _ _ _ _ _ h Q hQ) Γ q (hΓ)
    | load b part k =>
      have h : (match g b with | some o => rdR ⟨M.prog, M.w.params⟩ g n α tk (k o) | none => (.load b part k, tk)) = (r, tk') := h
      cases e : g b with
      | none =>
        rw [e] at h
        cases h
        exact hQ
      | some o => rw [e] at h; exact fun Γ p hΓ => ⟨o, hg b o e, (IH _ _ _ _ _ h Q hQ) Γ p hΓ⟩
    | point l k => exact fun Γ p hΓ => (IH _ _ _ _ _ h Q hQ) Γ p hΓ
    | fresh k => exact fun Γ p hΓ => (IH _ _ _ _ _ h Q hQ) Γ p hΓ
    | ask k => exact fun Γ p hΓ => (IH _ _ _ _ _ h Q hQ) Γ p hΓ
    | _ =>
      cases h
      exact hQ
theorem wpAny_rdR {M : Model} {A : Around} {E : Value → Shared → Prop} {g : Addr → Option Obj} {s : Shared} (n : Nat) {α : Type} {t r : Sem α} {tk' : Nat} {Q : α → Shared → Prop} (h : rdR ⟨M.prog, M.w.params⟩ g n α s.toks t = (r, tk')) (hg : ∀ b o, g b = some o → s.heap.get? b = some o)
    (hQ : wpAny M A r Q E { s with toks := tk' }) : wpAny M A t Q E s := rdR_spec hg n α s.toks t r tk' h Q hQ
noncomputable def dots : Str := Str.ofString ".."
noncomputable def crlfS : Str := Str.ofString "\r\n"
theorem s1_rd (w : World) (st : Setting) (x : Str) (t u tk : Nat) : rdR st (fun a => (X1 w).get? a) 400 _ tk (Builtin.«re.Pattern.sub» ⟨[.ref 66, .str dots t, .str x u], []⟩) = (.alloc (seqO "list" [] 0) fun L => pure (.again (.builtin "re.Pattern.sub.loop" (loopArgs (.ref 66) x u dots t 0 0 L))), tk) := by kernel_rfl
theorem s2_rd (w : World) (st : Setting) (x : Str) (t u tk : Nat) : rdR st (fun a => (X1 w).get? a) 400 _ tk (Builtin.«re.Pattern.sub» ⟨[.ref 71, .str crlfS t, .str x u], []⟩) = (.alloc (seqO "list" [] 0) fun L => pure (.again (.builtin "re.Pattern.sub.loop" (loopArgs (.ref 71) x u crlfS t 0 0 L))), tk) := by kernel_rfl
end
section
open PySem.Builtin PySem.Builtin.Re
variable {w : World} {A : Around} {E : Value → Shared → Prop} {s : Shared}
theorem c2_rd (w : World) (st : Setting) (r x : Str) (t u tk : Nat) : rd st (fun a => (X1 w).get? a) 300 _ tk (checkBuiltinCall "re.Pattern.sub" ⟨[.ref 71, .str r t, .str x u], []⟩) = some ((), tk) := by kernel_rfl
theorem call_sub {P : Value} {x r : Str} {u t : Nat} {code : Array Nat} {k : Nat} {out : List Nat} {Q : Value → Shared → Prop} (hX : ∀ b o, (X1 w).get? b = some o → s.heap.get? b = some o) (hx : x.length ≤ 10000) (hr : r.length ≤ 10)
    (hc : ∀ (st : Setting) tk, rd st (fun a => (X1 w).get? a) 300 _ tk (checkBuiltinCall "re.Pattern.sub" ⟨[P, .str r t, .str x u], []⟩) = some ((), tk))
    (hs : ∀ (st : Setting) tk, rdR st (fun a => (X1 w).get? a) 400 _ tk (Builtin.«re.Pattern.sub» ⟨[P, .str r t, .str x u], []⟩) = (.alloc (seqO "list" [] 0) fun L => pure (.again (.builtin "re.Pattern.sub.loop" (loopArgs P x u r t 0 0 L))), tk))
    (hT : ∀ (st : Setting) (tk : Nat), rd st (fun a => (X1 w).get? a) 300 _ tk (reWholeTarget P (.str x u)) = some (tgt P code x u, tk)) (hS : Subs code x.cps r.cps.toList k 0 out)
    (hQ : ∀ t' h' tk', (∀ b o, s.heap.get? b = some o → h'.get? b = some o) → Q (.str ⟨out.toArray⟩ t') { s with heap := h', toks := tk' }) : wpAny (model pw w) A (call (.builtin "re.Pattern.sub") [P, .str r t, .str x u]) Q E s := by
  refine wpAny_call (codeAny_call_builtin p_sub e_sub ?_)
  refine wpAny_rd 300 (hc _ _) hX ?_
  refine wpAny_rdR 400 (hs _ _) hX ?_
  have hn : s.heap.get? s.heap.objs.size = Option.none := noneAt
  have hkp : ∀ b o, s.heap.get? b = some o → b ≠ s.heap.objs.size := fun b o e => Nat.ne_of_lt (Heap.lt_size e)
  have e0 : ∀ b o, s.heap.get? b = some o → (s.heap.push (seqO "list" [] 0)).get? b = some o := fun b o e => Heap.get?_push_of_some _ e
  have hLX : (X1 w).get? s.heap.objs.size = Option.none := by
    cases e : (X1 w).get? s.heap.objs.size with
    | none => rfl
    | some o => rw [hX _ _ e] at hn; cases hn
  show wpAny _ A.in1 (alloc (seqO "list" [] 0) >>= fun L => (pure (PySem.Fin.again (.builtin "re.Pattern.sub.loop" (loopArgs P x u r t 0 0 L))) : Sem PySem.Fin)) _ _ _
  refine wpAny_bind (wpAny_alloc (wpAny_pure ⟨plainId_quiet p_loop _, ?_⟩))
  refine re_loop hx hr hT hLX hS _ [] [] 0 0 _ (fun b o e => e0 b o (hX b o e)) (Heap.get?_push_size _ rfl) .nil (by simp) (by simp [cat]) (by lia) fun t' h' tk' hk => ?_
  exact hQ t' h' tk' fun b o e => hk b o (hkp b o e) (e0 b o e)
theorem call_sub2 {x : Str} {u t : Nat} {Q : Value → Shared → Prop} (hX : ∀ b o, (X1 w).get? b = some o → s.heap.get? b = some o) (hx : x.length ≤ 10000)
    (hQ : ∀ t' h' tk', (∀ b o, s.heap.get? b = some o → h'.get? b = some o) → Q (.str ⟨(crlf x.cps.toList).toArray⟩ t') { s with heap := h', toks := tk' }) : wpAny (model pw w) A (call (.builtin "re.Pattern.sub") [.ref 71, .str crlfS t, .str x u]) Q E s := by
  obtain ⟨k, hS⟩ := subs2 (text := x.cps) x.cps.size 0 (by lia) (by lia)
  rw [List.drop_zero] at hS
  exact call_sub hX hx (by decide +kernel) (fun st tk => c2_rd w st _ _ _ _ tk) (fun st tk => s2_rd w st _ _ _ tk) (fun st tk => t2_rd w st _ _ tk) hS hQ
theorem call_sub1 {x : Str} {u t : Nat} {Q : Value → Shared → Prop} (hX : ∀ b o, (X1 w).get? b = some o → s.heap.get? b = some o) (hx : x.length ≤ 10000)
    (hQ : ∀ t' h' tk', (∀ b o, s.heap.get? b = some o → h'.get? b = some o) → Q (.str ⟨(stuff true x.cps.toList).toArray⟩ t') { s with heap := h', toks := tk' }) : wpAny (model pw w) A (call (.builtin "re.Pattern.sub") [.ref 66, .str dots t, .str x u]) Q E s := by
  obtain ⟨k, hS⟩ := subs1 (text := x.cps) hx x.cps.size 0 (by lia) (by lia)
  rw [List.drop_zero] at hS
  exact call_sub hX hx (by decide +kernel) (fun st tk => c1_rd w st _ _ _ _ tk) (fun st tk => s1_rd w st _ _ _ tk) (fun st tk => t1_rd w st _ _ tk) hS hQ
end
end
section
section
variable {w : World} {F : Fm} {n : Nat} {σ : St}
noncomputable abbrev fd6 : FuncData := fnO 6 3 (.ref 60) (.ref 53) (.ref 54) (.str (S "cpy313.bisect") 316)
theorem bis_get (w : World) : (X1 w).get? 61 = some ⟨.type "function", Option.none, .func fd6, #[]⟩ := by kernel_rfl
theorem bis_code (w : World) : (X1 w).CodeRec fd6.code fd6.qualname := codeRecB_ok (c := 60) (by kernel_rfl)
noncomputable abbrev bisN : List Str := [Str.ofString "a", Str.ofString "x", Str.ofString "lo", Str.ofString "hi", Str.ofString "key"]
theorem bis_rd (w : World) (st : Setting) (u v : Value) (tk : Nat) : rd st (fun a => (X1 w).get? a) 200 _ tk (bindArgs fd6 ⟨[u, v], []⟩) = some (bisN.zip [u, v, .int 0 318, .none, .none], tk) := by kernel_rfl
noncomputable def bis (a : List Int) (x : Int) : Nat → Nat → Nat → Nat
  | 0, lo, _ => lo
  | f + 1, lo, hi => if lo < hi then (if a.getD ((lo + hi) / 2) 0 < x then bis a x f ((lo + hi) / 2 + 1) hi else bis a x f lo ((lo + hi) / 2)) else lo
theorem mid_lo {lo hi : Nat} (h : lo ≤ hi) : lo ≤ (lo + hi) / 2 := (Nat.le_div_iff_mul_le (by decide)).mpr (by rw [Nat.mul_comm, Nat.two_mul]; exact Nat.add_le_add_left h lo)
theorem mid_hi {lo hi : Nat} (h : lo < hi) : (lo + hi) / 2 < hi := (Nat.div_lt_iff_lt_mul (by decide)).mpr (by rw [Nat.mul_comm, Nat.two_mul]; exact Nat.add_lt_add_right h hi)
theorem bis_le (a : List Int) (x : Int) : ∀ f lo hi, lo ≤ hi → bis a x f lo hi ≤ hi
  | 0, lo, hi, h => h
  | f + 1, lo, hi, h => by
    unfold bis
    split
    · rename_i hl
      split
      · exact bis_le a x f _ _ (mid_hi hl)
      · exact Nat.le_trans (bis_le a x f _ _ (mid_lo h)) (Nat.le_of_lt (mid_hi hl))
    · exact h
noncomputable def bisWhile : List Stmt := match ((bodyOf 6)[2]? : Option Stmt) with | some (Stmt.If _ b _ _) => b | _ => []
noncomputable abbrev stB (x lo : Int) (hi : D) (sp : Sp) : St := ⟨[(Str.ofString "a", .ref 0), (Str.ofString "x", .int x), (Str.ofString "lo", .int lo), (Str.ofString "hi", hi), (Str.ofString "key", .none)], [], [(0, sp)], 1⟩
noncomputable abbrev stB' (x lo hi mid : Int) (sp : Sp) : St := ⟨[(Str.ofString "a", .ref 0), (Str.ofString "x", .int x), (Str.ofString "lo", .int lo), (Str.ofString "hi", .int hi), (Str.ofString "key", .none), (Str.ofString "mid", .int mid)], [], [(0, sp)], 1⟩
noncomputable abbrev fm6 : Fm := ⟨fd6.scope.names, true⟩
noncomputable def bisTest : Expr := match (bisWhile[0]? : Option Stmt) with | some (Stmt.While t _ _ _) => t | _ => .Constant .none 0 default
noncomputable def bisBody : List Stmt := match (bisWhile[0]? : Option Stmt) with | some (Stmt.While _ b _ _) => b | _ => []
theorem fdiv_mid (lo hi : Nat) : ((lo : Int) + (hi : Int)).fdiv 2 = (((lo + hi) / 2 : Nat) : Int) := by
  rw [Int.fdiv_eq_ediv_of_nonneg _ (by decide)]; rfl
theorem longN {i : Nat} (h : i ≤ 100000) : longI (i : Int) := ⟨Int.le_trans (by decide) (Int.natCast_nonneg i), Int.lt_of_le_of_lt (Int.ofNat_le.mpr h) (by decide)⟩
theorem bis_turn (x : Int) (sp : Sp) (as : List Int) (hsp : sp.ds = as.map D.int) (ht : sp.ty = "list") (hl : as.length ≤ 1000) (lo hi : Nat) (h1 : lo < hi) (h2 : hi ≤ as.length) {Q : Fl → St → Prop}
    (hQ : Q .next (if as.getD ((lo + hi) / 2) 0 < x then stB x ((lo + hi) / 2 + 1 : Nat) (.int hi) sp else stB x lo (.int ((lo + hi) / 2 : Nat)) sp)) :
    WB w fm6 n 1 (stB x lo (.int hi) sp) bisBody Q := by
  have hm : (lo + hi) / 2 < as.length := Nat.lt_of_lt_of_le (mid_hi h1) h2
  refine WS.weak ?_
  show WB w fm6 n 1 _ (_ :: _) _
  refine wB_cons ?_
  repeat (walk_at "m")
  rw [fdiv_mid]
  refine w2_item (sp := sp) (j := (lo + hi) / 2) (by walk_at "m_fd") ht (seqI (Int.natCast_nonneg _) (by rw [hsp, List.length_map]; exact Int.ofNat_lt.mpr hm)) (by rw [hsp]; exact map_at (l := as) hm) (longN (Nat.le_trans (Nat.le_of_lt hm) (Nat.le_trans hl (by decide)))) ?_
  repeat (walk_at "m")
  refine ⟨fun hc => ?_, fun hc => ?_⟩
  · rw [if_pos (of_decide_eq_true hc)] at hQ
    repeat (walk_at "m")
    exact ⟨_, sub_loc (m := [(Str.ofString "mid", .int ((lo + hi) / 2 : Nat))]) (fun k sp e => ⟨sp, e, .rfl'⟩), hQ⟩
  · rw [if_neg (of_decide_eq_false hc)] at hQ
    repeat (walk_at "m")
    exact ⟨_, sub_loc (m := [(Str.ofString "mid", .int ((lo + hi) / 2 : Nat))]) (fun k sp e => ⟨sp, e, .rfl'⟩), hQ⟩
theorem bis_succ (a : List Int) (x : Int) (f lo hi : Nat) : bis a x (f + 1) lo hi = if lo < hi then (if a.getD ((lo + hi) / 2) 0 < x then bis a x f ((lo + hi) / 2 + 1) hi else bis a x f lo ((lo + hi) / 2)) else lo := rfl
inductive BisI (x : Int) (sp : Sp) (as : List Int) (m : Nat) (σ' : St) : Prop
  | mk (lo hi f : Nat) (h1 : lo ≤ hi) (h2 : hi ≤ as.length) (h3 : m = hi - lo) (h4 : hi - lo ≤ f) (h5 : bis as x f lo hi = bis as x as.length 0 as.length) (h6 : σ' = stB x lo (.int hi) sp)
theorem bis_ar (lo hi mid f : Nat) (h1 : lo ≤ mid) (h2 : mid < hi) (hf : hi - lo ≤ f + 1) : hi - (mid + 1) < hi - lo ∧ hi - (mid + 1) ≤ f ∧ mid - lo < hi - lo ∧ mid - lo ≤ f := by
  have a1 : hi - (mid + 1) < hi - lo := Nat.sub_lt_sub_left (Nat.lt_of_le_of_lt h1 h2) (Nat.lt_succ_of_le h1)
  have a2 : mid - lo < hi - lo := Nat.sub_lt_sub_right h1 h2
  exact ⟨a1, Nat.le_of_lt_succ (Nat.lt_of_lt_of_le a1 hf), a2, Nat.le_of_lt_succ (Nat.lt_of_lt_of_le a2 hf)⟩
theorem bis_while (x : Int) (sp : Sp) (as : List Int) (hsp : sp.ds = as.map D.int) (ht : sp.ty = "list") (hl : as.length ≤ 1000) {Q : Fl → St → Prop} (hQ : ∀ (r : Nat), r = bis as x as.length 0 as.length → Q .next (stB x r (.int r) sp)) :
    ∀ m σ', BisI x sp as m σ' → WT w fm6 n σ' bisTest (fun c σ₁ => (c = true → WB w fm6 n 1 σ₁ bisBody (fun fl σ₂ => match fl with
      | .next => ∃ m', m' < m ∧ BisI x sp as m' σ₂
      | .cont => ∃ m', m' < m ∧ BisI x sp as m' σ₂
      | .brk => Q .next σ₂
      | .ret d => Q (.ret d) σ₂)) ∧ (c = false → Q .next σ₁)) := by
  rintro m σ' ⟨lo, hi, f, h1, h2, hm, h3, h4, h5⟩
  rw [h5]
  show WT w fm6 n _ (.Compare _ _ _ _) _
  repeat (walk_at "m")
  refine ⟨fun hlt => ?_, fun hge => ?_⟩
  · have hlt : lo < hi := Int.ofNat_lt.mp (of_decide_eq_true hlt)
    cases f with
    | zero => exact absurd (Nat.sub_pos_of_lt hlt) (Nat.not_lt.mpr h3)
    | succ f =>
      rw [bis_succ, if_pos hlt] at h4
      obtain ⟨a1, a2, a3, a4⟩ := bis_ar lo hi _ f (mid_lo h1) (mid_hi hlt) h3
      refine bis_turn x sp as hsp ht hl lo hi hlt h2 ?_
      by_cases hb : as.getD ((lo + hi) / 2) 0 < x
      · rw [if_pos hb] at h4 ⊢
        exact ⟨_, hm ▸ a1, (lo + hi) / 2 + 1, hi, f, mid_hi hlt, h2, rfl, a2, h4, rfl⟩
      · rw [if_neg hb] at h4 ⊢
        exact ⟨_, hm ▸ a3, lo, (lo + hi) / 2, f, mid_lo h1, Nat.le_trans (Nat.le_of_lt (mid_hi hlt)) h2, rfl, a4, h4, rfl⟩
  · have hge : ¬ lo < hi := fun h => of_decide_eq_false hge (Int.ofNat_lt.mpr h)
    have e : lo = hi := Nat.le_antisymm h1 (Nat.le_of_not_lt hge)
    rw [← e]
    refine hQ lo ?_
    rw [← h4]
    cases f with
    | zero => rfl
    | succ f => rw [bis_succ, if_neg hge]
theorem bis_wb (x : Int) (sp : Sp) (as : List Int) (hsp : sp.ds = as.map D.int) (ht : sp.ty = "list") (hl : as.length ≤ 1000) :
    WB w fm6 n 1 (stB x 0 .none sp) (bodyOf 6) (fun fl σ' => fl = .ret (.int (bis as x as.length 0 as.length : Nat))) := by
  refine wB_cons ?_
  repeat (walk_at "m")
  refine ife_f (by decide) ?_
  repeat (walk_at "m")
  refine w2_isNone isn_none ?_
  repeat (walk_at "m")
  refine ife_t rfl ?_
  repeat (walk_at "m")
  refine w1_lenL (by walk_at "m_fd") ht (by rw [hsp, List.length_map]; lia) ?_
  rw [hsp, List.length_map]
  repeat (walk_at "m")
  refine w2_isNone isn_none ?_
  repeat (walk_at "m")
  refine ife_t rfl ?_
  repeat (walk_at "m")
  refine wX_While (BisI x sp as) (bis_while x sp as hsp ht hl ?_) as.length ⟨0, as.length, as.length, Nat.zero_le _, Nat.le_refl _, (Nat.sub_zero _).symm, Nat.sub_le _ _, rfl, rfl⟩
  intro r hr
  repeat (walk_at "m")
  rw [hr]
theorem bis_body : fd6.body = .stmts (bodyOf 6) := by kernel_rfl
theorem wL_bis {x : Int} {k : Nat} {sp : Sp} {as : List Int} (hk : fd σ.objs k = some sp) (hsp : sp.ds = as.map D.int) (ht : sp.ty = "list") (hl : as.length ≤ 1000) {Q : D → St → Prop} (h : Q (.int (bis as x as.length 0 as.length : Nat)) σ) :
    WL w F (n + 1) Val σ [.ref k, .int x] (fun _ vs => call (.ref 61) vs) Q := by
  obtain ⟨a1, a2⟩ := arg_one hk (by rw [hsp]; simp [List.all_map, Function.comp_def, noRef])
  refine wL_callD (bis_get w) rfl (bis_code w) bis_body rfl rfl rfl (names := bisN) (ks := [k]) (ds := [.ref k, .int x]) (dsC := [.ref 0, .int x]) (dsX := [.int 0, .none, .none]) (vsX := [.int 0 318, .none, .none]) (objsC := [(0, { sp with fz := true })]) (a2 _ (by simp [noRef])) (by simp [ren, idx]) a1
    (fun ρ => .cons vI (.cons vN (.cons vN .nil))) ?_ ?_ ?_ (locs := (stB x 0 .none sp).loc) (by kernel_rfl) (by kernel_rfl) (by kernel_rfl) (by kernel_rfl) ?_
  · intro s hs vs hv
    obtain ⟨u, v, rfl⟩ := len2 hv
    exact fun M A E Q hQ => wpAny_rd 200 (bis_rd w _ u v s.toks) hs hQ
  · have : bisN.all (fun x => decide (fd6.scope.names.lookup x = some .local)) = true := by kernel_rfl
    intro x hx; exact of_decide_eq_true (List.all_eq_true.mp this x hx)
  · have : fd6.scope.names.all (fun x => x.2 != .cell) = true := by kernel_rfl
    intro x hx; simpa using List.all_eq_true.mp this x hx
  · refine (bis_wb x { sp with fz := true } as hsp ht hl).mono fun fl σ' e => ?_
    obtain ⟨q1, q2, q3⟩ := adopt_none (objs := σ'.objs) (σ := σ) (d := .int (bis as x as.length 0 as.length : Nat)) rfl h
    exact ⟨_, [], .inl e, q1, q2, q3⟩
end
end
section
section
variable {w : World} {F : Fm} {n : Nat} {σ : St}
theorem gm66_rd (w : World) (st : Setting) (pl : Sem Bool) (tk : Nat) : rd st (fun a => (X1 w).get? a) 300 _ tk (getMethod (.ref 66) (Str.ofString "sub") pl) = some ((.builtin "re.Pattern.sub", [.ref 66]), tk) := by kernel_rfl
theorem gm71_rd (w : World) (st : Setting) (pl : Sem Bool) (tk : Nat) : rd st (fun a => (X1 w).get? a) 300 _ tk (getMethod (.ref 71) (Str.ofString "sub") pl) = some ((.builtin "re.Pattern.sub", [.ref 71]), tk) := by kernel_rfl
theorem gm66 : GM w σ (.glob (.ref 66)) (Str.ofString "sub") "re.Pattern.sub" := by
  intro os env cw κ ρ s A E v pl Q z hv hQ
  cases hv
  exact wpAny_rd 300 (gm66_rd w _ pl s.toks) z.x1 hQ
theorem gm71 : GM w σ (.glob (.ref 71)) (Str.ofString "sub") "re.Pattern.sub" := by
  intro os env cw κ ρ s A E v pl Q z hv hQ
  cases hv
  exact wpAny_rd 300 (gm71_rd w _ pl s.toks) z.x1 hQ
theorem wL_sub1 {x : Str} {Q : D → St → Prop} (hx : x.length ≤ 10000) (h : Q (.str ⟨(stuff true x.cps.toList).toArray⟩) σ) : WL w F n Val σ [.glob (.ref 66), .str dots, .str x] (fun _ vs => call (.builtin "re.Pattern.sub") vs) Q := by
  intro os env κ ρ s A E vs ok z r hv
  obtain ⟨_, _, rfl, h1, hv1⟩ := hv.c
  obtain ⟨_, _, rfl, ⟨t, h2⟩, hv2⟩ := hv1.c
  obtain ⟨_, _, rfl, ⟨u, h3⟩, hv3⟩ := hv2.c
  cases hv3.n; cases h1; subst h2; subst h3
  exact call_sub1 z.x1 hx fun t' h' tk' hk => po (z.grown (s' := { s with heap := h', toks := tk' }) hk rfl z.gens) vS h
theorem wL_sub2 {x : Str} {Q : D → St → Prop} (hx : x.length ≤ 10000) (h : Q (.str ⟨(crlf x.cps.toList).toArray⟩) σ) : WL w F n Val σ [.glob (.ref 71), .str crlfS, .str x] (fun _ vs => call (.builtin "re.Pattern.sub") vs) Q := by
  intro os env κ ρ s A E vs ok z r hv
  obtain ⟨_, _, rfl, h1, hv1⟩ := hv.c
  obtain ⟨_, _, rfl, ⟨t, h2⟩, hv2⟩ := hv1.c
  obtain ⟨_, _, rfl, ⟨u, h3⟩, hv3⟩ := hv2.c
  cases hv3.n; cases h1; subst h2; subst h3
  exact call_sub2 z.x1 hx fun t' h' tk' hk => po (z.grown (s' := { s with heap := h', toks := tk' }) hk rfl z.gens) vS h
theorem g_crlf (w : World) : (X1 w).nsMap mainGlobals (Str.ofString "CRLF") = some (.str crlfS 392) := by kernel_rfl
theorem wE_globS {x y : Str} {pos : Pos} {t : Nat} {Q : D → St → Prop} (hl : F.names.lookup x = some .globalImplicit) (hd : (X1 w).nsMap mainGlobals x = some (.str y t)) (h : Q (.str y) σ) (hx : (x == ("__debug__" : Str)) = false := by decide) : WE w F n σ (.Name x pos) Q := by
  intro os env κ ρ s A E ok z r
  refine Calls.Name_function_global ok.kind (by show env.scope.names.lookup x = _; rw [ok.names]; exact hl) ?_ hx
  exact Calls.loadGlobal_global (by rw [ok.globals]; exact (X1_ns w).keeps z.x1) hd (po z vS h)
theorem crlf_len : ∀ (n : Nat) (l : List Nat), l.length ≤ n → (crlf l).length ≤ 2 * l.length
  | _, [], _ => by simp [crlf]
  | _, [c], _ => by unfold crlf; split <;> simp
  | 0, c :: d :: r, h => by simp at h
  | n + 1, c :: d :: r, h => by
    unfold crlf
    have h1 := crlf_len n r (by simp at h; lia)
    have h2 := crlf_len n (d :: r) (by simp at h ⊢; lia)
    simp only [List.length_cons] at h2 ⊢
    split
    · simp only [List.length_cons]; lia
    · split <;> (simp only [List.length_cons]; lia)
noncomputable def quoteS (x : Str) : Str := ⟨(stuff true (crlf x.cps.toList)).toArray⟩
theorem quote_wb (x : Str) (hx : x.length ≤ 4000) : WB w (fmOf 11) n 0 ⟨[(Str.ofString "data", .str x)], [], [], 0⟩ (bodyOf 11) (fun fl σ' => fl = .ret (.str (quoteS x))) := by
  refine wB_cons ?_
  repeat (walk_at "m")
  refine wE_Meth (id := "re.Pattern.sub") (by with_unfolding_all rfl) _ (by intro _; with_unfolding_all rfl) ?_
  refine wE_glob (by decide +kernel) (gf_re1 w) ?_
  refine ⟨gm66, ?_⟩
  repeat (walk_at "m")
  refine wE_Meth (id := "re.Pattern.sub") (by with_unfolding_all rfl) _ (by intro _; with_unfolding_all rfl) ?_
  refine wE_glob (by decide +kernel) (gf_re2 w) ?_
  refine ⟨gm71, ?_⟩
  refine wEs_cons (by intro _; with_unfolding_all rfl) ?_
  refine wE_globS (by decide +kernel) (g_crlf w) ?_
  repeat (walk_at "m")
  refine wL_sub2 (by lia) ?_
  repeat (walk_at "m")
  refine wL_sub1 ?_ ?_
  · have := crlf_len x.cps.toList.length x.cps.toList (Nat.le_refl _)
    show ((crlf x.cps.toList).toArray).size ≤ 10000
    rw [List.size_toArray]
    have e : x.cps.toList.length = x.length := by simp [Str.length]
    lia
  · repeat (walk_at "m")
    rfl
theorem quote_body : (defAt 11).2.2.1 = bodyOf 11 := by kernel_rfl
theorem quote_bind {md : Value} (vs : List Value) (h : vs.length = 1) : bindArgs (Calls.docDef (defAt 11).1 (defAt 11).2.1 (defAt 11).2.2.1 (defAt 11).2.2.2 md (.ref 77) .none) ⟨vs, []⟩ = pure ([Str.ofString "data"].zip vs) := by
  obtain ⟨a, rfl⟩ := len1 h
  kernel_rfl
theorem quote_kind : ([Str.ofString "data"].all fun x => decide ((defAt 11).2.2.2.names.lookup x = some .local) || decide ((defAt 11).2.2.2.names.lookup x = some .cell)) = true := by kernel_rfl
theorem quote_locs (d : D) : locsOf (defAt 11).2.2.2.names ([Str.ofString "data"].zip [d]) [] = [(Str.ofString "data", d)] := by kernel_rfl
theorem quote_cels (d : D) : celsOf (defAt 11).2.2.2.names ([Str.ofString "data"].zip [d]) [] = [] := by kernel_rfl
theorem wL_quote {x : Str} (hx : x.length ≤ 4000) {Q : D → St → Prop} (h : Q (.str (quoteS x)) σ) : WL w F (n + 1) Val σ [.str x] (fun _ vs => call (.ref 78) vs) Q := by
  refine wL_call (fa_quote w) (names := [Str.ofString "data"]) (ks := []) (ds := [.str x]) (dsC := [.str x]) (objsC := []) rfl rfl rfl (fun vs hv => quote_bind vs (by simpa using hv)) quote_kind (quote_locs _) (quote_cels _) ?_
  rw [quote_body]
  refine (quote_wb x hx).mono fun fl σ' e => ?_
  obtain ⟨q1, q2, q3⟩ := adopt_none (objs := σ'.objs) (σ := σ) (d := .str (quoteS x)) rfl h
  exact ⟨_, [], .inl e, q1, q2, q3⟩
end
end
section
section
open PySem.Builtin PySem.Builtin.Str PySem.StrLaws
variable {w : World} {F : Fm} {n : Nat} {σ : St}
theorem all2_strs {ρ : Km} : ∀ (l : List (Str × Tok)), All2 (Val ρ) ((l.map (·.1)).map D.str) (strValues l)
  | [] => .nil
  | p :: l => .cons ⟨p.2, rfl⟩ (all2_strs l)
theorem w2_split {x y : Str} {Q : D → St → Prop} (hy : (y.length == 0) = false) (hx : x.length ≤ 10000) (hn : (partsBetween x (occurrences x y 0 x.length (x.length + 1)) y.length).length ≤ 100000) (h : Mk σ ⟨"list", (Txt.split x y).map D.str, false, true⟩ Q) :
    W2 w F n Val σ (.str x) (.str y) (fun _ u v => call (.builtin "str.split") [u, v]) Q := by
  rintro os env κ ρ s A E _ _ ok z r ⟨t, rfl⟩ ⟨u, rfl⟩
  have one : Txt.split x y = [x] → Po w F os env κ ρ σ.nx Val Q (.ref s.heap.objs.size) { s with heap := s.heap.push (seqO "list" [.str x t] 0) } := fun e => by
    rw [e] at h
    exact po_new z (ds := [D.str x]) (vs := [.str x t]) (.cons ⟨t, rfl⟩ .nil) h
  cases h1 : (decide (x.length < y.length) || decide (strKind x < strKind y))
  · cases hf : (occurrences x y 0 x.length (x.length + 1)).isEmpty
    · refine call_meets PySem.F.slot_str_split (typeIs_str _ _ _) PySem.F.entry_str_split (PySem.F.args_str_split_2 _ _) (meets_str_split_sep x y t u h1 hy hf (by unfold sizeLine; lia) (by unfold sizeLine; lia)) ?_
      have e : Txt.split x y = partsBetween x (occurrences x y 0 x.length (x.length + 1)) y.length := (if_neg (by rw [h1]; exact Bool.false_ne_true)).trans (if_neg (by rw [hf]; exact Bool.false_ne_true))
      rw [e] at h
      rw [strsFrom_eq]
      have hv := all2_strs (ρ := ρ) (numbered s.toks (partsBetween x (occurrences x y 0 x.length (x.length + 1)) y.length))
      rw [numbered_texts] at hv
      have q := po_new (z.tok (s.toks + (partsBetween x (occurrences x y 0 x.length (x.length + 1)) y.length).length)) hv h
      exact q
    · exact call_meets PySem.F.slot_str_split (typeIs_str _ _ _) PySem.F.entry_str_split (PySem.F.args_str_split_2 _ _) (meets_str_split_not_found x y t u h1 hy hf) (one ((if_neg (by rw [h1]; exact Bool.false_ne_true)).trans (if_pos hf)))
  · exact call_meets PySem.F.slot_str_split (typeIs_str _ _ _) PySem.F.entry_str_split (PySem.F.args_str_split_2 _ _) (meets_str_split_cannot_occur x y t u h1) (one (if_pos h1))
noncomputable def joinL (sep : List Nat) : List (List Nat) → List Nat
  | [] => []
  | [r] => r
  | r :: s :: t => r ++ sep ++ joinL sep (s :: t)
noncomputable def mkS (l : List Nat) : Str := ⟨l.toArray⟩
theorem at_iff {x : Str} {k : Nat} : At x crlfS x.length k ↔ ∃ rest, x.cps.toList.drop k = 13 :: 10 :: rest := by
  have hy : crlfS.cps.toList = [13, 10] := by decide +kernel
  have hl : crlfS.length = 2 := by decide +kernel
  have hx : x.length = x.cps.toList.length := by simp [Str.length]
  unfold At
  rw [subAt_eq, hl, hy, hx]
  constructor
  · rintro ⟨h1, h2⟩
    have h2 : (x.cps.toList.drop k).take 2 = [13, 10] := by simpa using h2
    refine ⟨(x.cps.toList.drop k).drop 2, ?_⟩
    have := List.take_append_drop 2 (x.cps.toList.drop k)
    rw [h2] at this
    exact this.symm
  · rintro ⟨rest, h⟩
    rw [h]
    refine ⟨?_, rfl⟩
    have := congrArg List.length h
    simp only [List.length_drop, List.length_cons] at this
    lia
theorem sub_of {x : Str} {a c : Nat} {r : List Nat} (h : (x.cps.toList.drop a).take (c - a) = r) : strSub x a c = mkS r := by
  apply Str.ext'
  apply Array.toList_inj.mp
  rw [strSub_toList, h]
  simp [mkS]
theorem drop_two {l r rest : List Nat} {a k : Nat} (h : l.drop a = r ++ rest) (h1 : a ≤ k) (h2 : k < a + r.length) {rest' : List Nat} (h3 : l.drop k = 13 :: rest') : 13 ∈ r := by
  have e : l.drop k = (r ++ rest).drop (k - a) := by
    rw [← h, List.drop_drop]; congr 1; lia
  rw [h3, List.drop_append_of_le_length (by lia)] at e
  have hne : r.drop (k - a) ≠ [] := by
    intro q
    have := congrArg List.length q
    simp at this
    lia
  cases hq : r.drop (k - a) with
  | nil => exact absurd hq hne
  | cons c q =>
    rw [hq] at e
    injection e with e1 _
    exact List.mem_of_mem_drop (i := k - a) (by rw [hq, ← e1]; exact List.mem_cons_self)
theorem parts_rows {x : Str} : ∀ (rows : List (List Nat)), rows ≠ [] → (∀ r ∈ rows, 13 ∉ r) → ∀ (a : Nat) (cuts : List Nat) (f : Nat), x.cps.toList.drop a = joinL [13, 10] rows → ChainG x crlfS x.length a cuts f → (∀ k, f ≤ k → ¬ At x crlfS x.length k) → partsFrom x 2 a cuts = rows.map mkS
  | [], h, _, _, _, _, _, _, _ => absurd rfl h
  | [r], _, hf, a, cuts, f, hd, hG, hn => by
    have hr := hf r (by simp)
    have hd : x.cps.toList.drop a = r ++ [] := by rw [hd]; simp [joinL]
    cases cuts with
    | nil =>
      show [strSub x a x.length] = [mkS r]
      rw [sub_of (r := r) (by rw [hd, List.append_nil]; refine List.take_of_length_le ?_; have := congrArg List.length hd; simp [Str.length] at this ⊢; lia)]
    | cons c cs =>
      obtain ⟨h1, h2, _, _⟩ := hG
      obtain ⟨rest, h3⟩ := at_iff.mp h2
      have hlt : c < a + r.length := by
        have e := congrArg List.length h3
        have e2 := congrArg List.length hd
        simp at e e2
        lia
      exact absurd (drop_two hd h1 hlt h3) hr
  | r :: s :: t, _, hf, a, cuts, f, hd, hG, hn => by
    have hr := hf r (by simp)
    have hd' : x.cps.toList.drop a = r ++ (13 :: 10 :: joinL [13, 10] (s :: t)) := by rw [hd]; simp [joinL]
    have hat : x.cps.toList.drop (a + r.length) = 13 :: 10 :: joinL [13, 10] (s :: t) := by
      rw [← List.drop_drop, hd', List.drop_left]
    have hA : At x crlfS x.length (a + r.length) := at_iff.mpr ⟨_, hat⟩
    cases cuts with
    | nil =>
      have e : f = a := hG
      exact absurd hA (hn _ (by lia))
    | cons c cs =>
      obtain ⟨h1, h2, h4, h5⟩ := hG
      obtain ⟨rest, h3⟩ := at_iff.mp h2
      have hc : c = a + r.length := by
        rcases Nat.lt_trichotomy c (a + r.length) with h | h | h
        · exact absurd (drop_two hd' h1 h h3) hr
        · exact h
        · exact absurd hA (h4 _ (by lia) h)
      subst hc
      rw [show crlfS.length = 2 by decide +kernel] at h5
      show strSub x a (a + r.length) :: partsFrom x 2 (a + r.length + 2) cs = mkS r :: (s :: t).map mkS
      rw [sub_of (r := r) (by rw [hd', Nat.add_sub_cancel_left]; exact List.take_left)]
      rw [parts_rows (s :: t) (by simp) (fun q hq => hf q (List.mem_cons_of_mem _ hq)) (a + r.length + 2) cs f (by rw [← List.drop_drop, hat]; rfl) h5 hn]
theorem split_rows (rows : List (List Nat)) (hne : rows ≠ []) (hf : ∀ r ∈ rows, 13 ∉ r) : Txt.split (mkS (joinL [13, 10] rows)) crlfS = rows.map mkS ∧ (partsBetween (mkS (joinL [13, 10] rows)) (occurrences (mkS (joinL [13, 10] rows)) crlfS 0 (mkS (joinL [13, 10] rows)).length ((mkS (joinL [13, 10] rows)).length + 1)) crlfS.length) = rows.map mkS := by
  have hl : crlfS.length = 2 := by decide +kernel
  obtain ⟨f, hG, hn⟩ := occ_tight (mkS (joinL [13, 10] rows)) crlfS (by rw [hl]; decide)
  have hp : partsFrom (mkS (joinL [13, 10] rows)) 2 0 (occurrences (mkS (joinL [13, 10] rows)) crlfS 0 (mkS (joinL [13, 10] rows)).length ((mkS (joinL [13, 10] rows)).length + 1)) = rows.map mkS := parts_rows rows hne hf 0 _ f (by simp [mkS]) hG hn
  have hq : partsBetween (mkS (joinL [13, 10] rows)) (occurrences (mkS (joinL [13, 10] rows)) crlfS 0 (mkS (joinL [13, 10] rows)).length ((mkS (joinL [13, 10] rows)).length + 1)) crlfS.length = rows.map mkS := by rw [partsBetween_eq, hl]; exact hp
  refine ⟨?_, hq⟩
  have none : occurrences (mkS (joinL [13, 10] rows)) crlfS 0 (mkS (joinL [13, 10] rows)).length ((mkS (joinL [13, 10] rows)).length + 1) = [] → [mkS (joinL [13, 10] rows)] = rows.map mkS := fun e => by
    rw [e] at hp
    rw [← hp]
    show _ = [strSub _ 0 _]
    rw [sub_whole]
  unfold Txt.split
  split
  · rename_i hc
    apply none
    cases ho : occurrences (mkS (joinL [13, 10] rows)) crlfS 0 (mkS (joinL [13, 10] rows)).length ((mkS (joinL [13, 10] rows)).length + 1) with
    | nil => rfl
    | cons c cs =>
      rw [ho] at hG
      have h2 := hG.2.1.1
      rw [Bool.or_eq_true, decide_eq_true_eq, decide_eq_true_eq] at hc
      rcases hc with h | h
      · lia
      · have e1 : Builtin.Str.strKind crlfS = 1 := by decide +kernel
        rw [e1] at h
        unfold Builtin.Str.strKind at h
        split at h
        · lia
        · split at h <;> lia
  · split
    · rename_i he
      exact none (List.isEmpty_iff.mp he)
    · exact hq
end
end
section
section
open PySem.Builtin PySem.Builtin.Str
noncomputable def NoEnd (r : List Nat) : Prop := 10 ∉ r ∧ 13 ∉ r
theorem glue_joinL (sep : Array Nat) : ∀ (ys : List Str) (acc : Array Nat), (ys.foldl (fun acc p => acc ++ sep ++ p.cps) acc).toList = joinL sep.toList (acc.toList :: ys.map (·.cps.toList))
  | [], acc => rfl
  | y :: ys, acc => by
    rw [List.foldl_cons, glue_joinL sep ys]
    cases ys with
    | nil => simp [joinL]
    | cons z zs => simp [joinL]
theorem join_joinL (sep : Str) (ys : List Str) : (Txt.join sep ys).cps.toList = joinL sep.cps.toList (ys.map (·.cps.toList)) := by
  unfold Txt.join glued
  cases ys with
  | nil => rfl
  | cons y ys => exact glue_joinL sep.cps ys y.cps
theorem crlf_row {r : List Nat} (h : NoEnd r) (rest : List Nat) : crlf (r ++ rest) = r ++ crlf rest := by
  induction r with
  | nil => rfl
  | cons c r ih =>
    obtain ⟨h1, h2⟩ := h
    simp only [List.mem_cons, not_or] at h1 h2
    have : (c == 10 || c == 13) = false := by
      rw [Bool.or_eq_false_iff]
      exact ⟨by simpa using fun e => h1.1 e.symm, by simpa using fun e => h2.1 e.symm⟩
    rw [List.cons_append, crlf_plain this, ih ⟨h1.2, h2.2⟩]; rfl
noncomputable def isEnd (e : List Nat) : Prop := e = [10] ∨ e = [13] ∨ e = [13, 10]
theorem join_head {e : List Nat} (he : isEnd e) : ∀ {rows : List (List Nat)}, (∀ r ∈ rows, NoEnd r) → (∀ s, joinL e rows = 10 :: s → e = [10])
  | [], _, s, h => by cases h
  | [r], hr, s, h => by
    have : joinL e [r] = r := rfl
    rw [this] at h
    exact absurd (by rw [h]; exact List.mem_cons_self) (hr r (by simp)).1
  | r :: q :: t, hr, s, h => by
    have h : r ++ e ++ joinL e (q :: t) = 10 :: s := h
    cases r with
    | nil =>
      rcases he with rfl | rfl | rfl
      · rfl
      · cases h
      · cases h
    | cons c r =>
      injection h with h1 _
      exact absurd (by rw [h1]; exact List.mem_cons_self) (hr (c :: r) (by simp)).1
theorem crlf_join {e : List Nat} (he : isEnd e) : ∀ (rows : List (List Nat)), (∀ r ∈ rows, NoEnd r) → crlf (joinL e rows) = joinL [13, 10] rows
  | [], _ => rfl
  | [r], hr => by
    show crlf r = r
    have := crlf_row (hr r (by simp)) []
    rw [List.append_nil] at this
    rw [this]; simp [crlf]
  | r :: q :: t, hr => by
    have ih := crlf_join he (q :: t) fun x hx => hr x (List.mem_cons_of_mem _ hx)
    show crlf (r ++ e ++ joinL e (q :: t)) = r ++ [13, 10] ++ joinL [13, 10] (q :: t)
    rw [List.append_assoc, crlf_row (hr r (by simp)), ← ih, List.append_assoc]
    congr 1
    rcases he with rfl | rfl | rfl
    · exact crlf_one rfl (by rintro s ⟨h, _⟩; cases h)
    · refine crlf_one rfl ?_
      rintro s ⟨_, h⟩
      cases join_head (.inr (.inl rfl)) (fun x hx => hr x (List.mem_cons_of_mem _ hx)) s h
    · exact crlf_two _
noncomputable def stuff1 : List Nat → List Nat
  | [] => []
  | c :: r => if c = 46 then 46 :: c :: r else c :: r
theorem stuff1_cons (c : Nat) (r : List Nat) : stuff1 (c :: r) = if c = 46 then 46 :: c :: r else c :: r := rfl
theorem stuff_row {r : List Nat} (h : NoEnd r) (rest : List Nat) : stuff false (r ++ 13 :: 10 :: rest) = r ++ 13 :: 10 :: stuff true rest := by
  induction r with
  | nil => rfl
  | cons c r ih =>
    obtain ⟨h1, h2⟩ := h
    simp only [List.mem_cons, not_or] at h1 h2
    have : (c == 10) = false := by simpa using fun e => h1.1 e.symm
    rw [List.cons_append]
    conv => lhs; unfold stuff
    rw [Bool.false_and, if_neg Bool.false_ne_true, this, ih ⟨h1.2, h2.2⟩]; rfl
theorem stuff_row0 {r : List Nat} (h : NoEnd r) : stuff false r = r := by
  induction r with
  | nil => rfl
  | cons c r ih =>
    obtain ⟨h1, h2⟩ := h
    simp only [List.mem_cons, not_or] at h1 h2
    have : (c == 10) = false := by simpa using fun e => h1.1 e.symm
    conv => lhs; unfold stuff
    rw [Bool.false_and, if_neg Bool.false_ne_true, this, ih ⟨h1.2, h2.2⟩]
theorem stuff_first {r : List Nat} (h : NoEnd r) (rest : List Nat) : stuff true (r ++ 13 :: 10 :: rest) = stuff1 r ++ 13 :: 10 :: stuff true rest := by
  cases r with
  | nil => rfl
  | cons c r =>
    have hr : NoEnd r := ⟨fun q => h.1 (List.mem_cons_of_mem _ q), fun q => h.2 (List.mem_cons_of_mem _ q)⟩
    have hc : (c == 10) = false := by simpa using fun e : c = 10 => h.1 (by rw [e]; exact List.mem_cons_self)
    rw [List.cons_append]
    conv => lhs; unfold stuff
    rw [stuff1_cons, Bool.true_and]
    by_cases h46 : c = 46
    · rw [if_pos (by simpa using h46), if_pos h46, stuff_row hr, h46]; rfl
    · rw [if_neg (by simpa using h46), if_neg h46, hc, stuff_row hr]; rfl
theorem stuff_last {r : List Nat} (h : NoEnd r) : stuff true r = stuff1 r := by
  cases r with
  | nil => rfl
  | cons c r =>
    have hr : NoEnd r := ⟨fun q => h.1 (List.mem_cons_of_mem _ q), fun q => h.2 (List.mem_cons_of_mem _ q)⟩
    have hc : (c == 10) = false := by simpa using fun e : c = 10 => h.1 (by rw [e]; exact List.mem_cons_self)
    conv => lhs; unfold stuff
    rw [stuff1_cons, Bool.true_and]
    by_cases h46 : c = 46
    · rw [if_pos (by simpa using h46), if_pos h46, stuff_row0 hr, h46]
    · rw [if_neg (by simpa using h46), if_neg h46, hc, stuff_row0 hr]
theorem stuff_join : ∀ (rows : List (List Nat)), (∀ r ∈ rows, NoEnd r) → stuff true (joinL [13, 10] rows) = joinL [13, 10] (rows.map stuff1)
  | [], _ => rfl
  | [r], hr => stuff_last (hr r (by simp))
  | r :: q :: t, hr => by
    have ih := stuff_join (q :: t) fun x hx => hr x (List.mem_cons_of_mem _ hx)
    show stuff true (r ++ [13, 10] ++ joinL [13, 10] (q :: t)) = stuff1 r ++ [13, 10] ++ joinL [13, 10] ((q :: t).map stuff1)
    rw [← ih]
    have := stuff_first (hr r (by simp)) (joinL [13, 10] (q :: t))
    simpa using this
theorem stuff1_no {r : List Nat} (h : 13 ∉ r) : 13 ∉ stuff1 r := by
  cases r with
  | nil => exact h
  | cons c r =>
    rw [stuff1_cons]
    split
    · rename_i e
      intro hm
      rcases List.mem_cons.mp hm with q | q
      · cases q
      · exact h q
    · exact h
noncomputable def stuffS (r : Str) : Str := mkS (stuff1 r.cps.toList)
theorem sent_rows {e : Str} (he : isEnd e.cps.toList) (rows : List Str) (hne : rows ≠ []) (hr : ∀ r ∈ rows, NoEnd r.cps.toList) :
    Txt.split (quoteS (Txt.join e rows)) crlfS = rows.map stuffS ∧ (partsBetween (quoteS (Txt.join e rows)) (occurrences (quoteS (Txt.join e rows)) crlfS 0 (quoteS (Txt.join e rows)).length ((quoteS (Txt.join e rows)).length + 1)) crlfS.length) = rows.map stuffS := by
  have hr' : ∀ r ∈ rows.map (·.cps.toList), NoEnd r := fun r h => by obtain ⟨q, h1, rfl⟩ := List.mem_map.mp h; exact hr q h1
  have e1 : quoteS (Txt.join e rows) = mkS (joinL [13, 10] ((rows.map (·.cps.toList)).map stuff1)) := by
    unfold quoteS
    rw [join_joinL, crlf_join he _ hr', stuff_join _ hr']
    rfl
  have e2 : ((rows.map (·.cps.toList)).map stuff1).map mkS = rows.map stuffS := by simp [stuffS, Function.comp_def]
  rw [e1, ← e2]
  refine split_rows _ (by simpa using hne) fun r h => ?_
  obtain ⟨q, h1, rfl⟩ := List.mem_map.mp h
  exact stuff1_no (hr' q h1).2
end
end
section
section
variable {w : World} {F : Fm} {n b : Nat} {σ : St}
theorem zip_get {α β : Type} : ∀ {l : List α} {m : List β} {i : Nat} {a : α} {c : β}, l[i]? = some a → m[i]? = some c → (l.zip m)[i]? = some (a, c)
  | [], _, _, _, _, h, _ => by cases h
  | _ :: _, [], _, _, _, _, h => by cases h
  | x :: l, y :: m, 0, a, c, h, h' => by simp at h h'; subst h; subst h'; rfl
  | x :: l, y :: m, i + 1, a, c, h, h' => by simpa using zip_get (l := l) (m := m) (i := i) (by simpa using h) (by simpa using h')
theorem Z.frozenFoot {os : Og} {env : Env} {cw : Bool} {κ : Kp} {ρ : Km} {s : Shared} (z : Z w os env cw κ ρ σ s) {k : Nat} {sp : Sp} {a : Addr} (e1 : fd σ.objs k = some sp) (e3 : sp.fz = true) (hr : ρ k = some a) : Foot env cw ρ σ a := by
  obtain ⟨q1, q2, q3⟩ := z.lt k a hr
  refine ⟨q2, fun _ x c e h => (z.cc x c e).2.2.1 k (h ▸ hr), fun j sp' f1 f2 f3 => ?_⟩
  have := z.inj _ _ _ f3 hr
  subst this
  rw [e1] at f1; cases f1
  rw [e3] at f2; cases f2
theorem wIV_zip {f : Str} {p pos : Pos} {e : Expr} {rest : List Expr} {Q : List (D × D) → St → Prop} (hf : WE w F n σ (.Name f p) (fun d σ₁ => d = .glob (.type "zip") ∧ σ₁ = σ)) (hpl : (e :: rest).all plainE = true)
    (h : WEs w F n σ pos (e :: rest) (fun ds σ₁ => ∃ j k sp tp, ds = [.ref j, .ref k] ∧ fd σ₁.objs j = some sp ∧ fd σ₁.objs k = some tp ∧ sp.ty = "list" ∧ tp.ty = "list" ∧ sp.fz = true ∧ tp.fz = true ∧ Q (sp.ds.zip tp.ds) σ₁)) : WIV w F n σ (.Call (.Name f p) (e :: rest) [] pos) Q := by
  intro os env κ ρ s A E ok z r
  refine sem_CallT ok z r hf hpl h fun ρ₁ ds σ₁ vs s₁ g1 g2 g3 g4 ⟨j, k, sp, tp, e0, e1, e2, t1, t2, f1, f2, hQ⟩ => ?_
  subst e0
  cases g3 with
  | cons a1 a2 => cases a2 with
    | cons a3 a4 =>
      cases a4
      obtain ⟨l1, vs1, rfl, hr1, hl1, hA1⟩ := g4.list e1 t1 a1
      obtain ⟨l2, vs2, rfl, hr2, hl2, hA2⟩ := g4.list e2 t2 a3
      have lt1 : l1 < s₁.heap.objs.size := let ⟨_, ho, _⟩ := hl1; Heap.lt_size ho
      have lt2 : l2 < s₁.heap.objs.size := let ⟨_, ho, _⟩ := hl2; Heap.lt_size ho
      refine call_zip_2 hl1 hl2 fun h' hz hTI hTO hi1 hi2 hsz hk => ?_
      have z₂ : Z w os env F.cw κ ρ₁ σ₁ { s₁ with heap := h' } := g4.grown (s' := { s₁ with heap := h' }) hk rfl g4.gens
      refine wpAny_pyIter_zip hz ?_
      have none : ∀ i, s₁.heap.get? (s₁.heap.objs.size + i) = Option.none := fun i => by
        cases e : s₁.heap.get? (s₁.heap.objs.size + i) with
        | none => rfl
        | some o => exact absurd (Heap.lt_size e) (Nat.not_lt.mpr (Nat.le_add_right _ _))
      have ap : ∀ i, Apart env κ ρ₁ (s₁.heap.objs.size + i) := fun i => g4.apart (none i)
      have D : ZipApart (s₁.heap.objs.size + 4) (s₁.heap.objs.size + 2) (s₁.heap.objs.size + 3) s₁.heap.objs.size (s₁.heap.objs.size + 1) l1 l2 := by
        have key : ∀ (N l1 l2 : Nat), l1 < N → l2 < N → ZipApart (N + 4) (N + 2) (N + 3) N (N + 1) l1 l2 := by
          intro N l1 l2 h1 h2
          constructor <;> (intro h; have h : @Eq Nat _ _ := h; lia)
        exact key _ _ _ lt1 lt2
      have W := WalksT.zip2 (prog := pw) (w := w) r.h _ _ _ _ _ _ _ D vs1.toArray vs2.toArray
      have el : min vs1.toArray.size vs2.toArray.size = (sp.ds.zip tp.ds).length := by rw [List.length_zip, List.size_toArray, List.size_toArray, ← hA1.len, ← hA2.len]
      rw [el] at W
      refine ⟨ρ₁, sp.ds.zip tp.ds, σ₁, _, _, _, os.g.length, _, _, _, rfl, g1, g2, z₂, WalksV.of os.g.length W.toU, ?_, ?_, ?_, ?_, ?_, Nat.le_refl _, hQ⟩
      · exact ⟨hz, hTI, ⟨_, _, hTO⟩, hi1, hi2, (let ⟨o, ho, q⟩ := hl1; ⟨o, hk _ _ ho, q⟩), (let ⟨o, ho, q⟩ := hl2; ⟨o, hk _ _ ho, q⟩)⟩
      · rintro i vals hi ⟨x, y, hx, hy, rfl⟩
        obtain ⟨d, hd, hD⟩ := hA1.get' (k := i) (b := x) (by simpa using hx)
        obtain ⟨d', hd', hD'⟩ := hA2.get' (k := i) (b := y) (by simpa using hy)
        exact ⟨x, y, d, d', rfl, zip_get hd hd', hD, hD'⟩
      · rintro i s ⟨hz, hTI, ⟨a, b, hTO⟩, ⟨_, h1, _⟩, ⟨_, h2, _⟩, ⟨_, h3, _⟩, ⟨_, h4, _⟩⟩ c hm
        simp at hm
        rcases hm with rfl | rfl | rfl | rfl | rfl | rfl | rfl
        · exact ⟨_, hz⟩
        · exact ⟨_, hTI⟩
        · exact ⟨_, hTO⟩
        · exact ⟨_, h1⟩
        · exact ⟨_, h2⟩
        · exact ⟨_, h3⟩
        · exact ⟨_, h4⟩
      · intro c hm
        simp at hm
        rcases hm with rfl | rfl | rfl | rfl | rfl | rfl | rfl
        · exact (ap 4).foot
        · exact (ap 2).foot
        · exact (ap 3).foot
        · exact (ap 0).foot
        · exact (ap 1).foot
        · exact g4.frozenFoot e1 f1 hr1
        · exact g4.frozenFoot e2 f2 hr2
      · intro c hm
        simp at hm
        rcases hm with rfl | rfl | rfl | rfl
        · exact ap 4
        · exact ap 3
        · exact ap 0
        · exact ap 1
end
end
section
section
theorem fd_all {P : Nat → Sp → Prop} {k : Nat} {sp : Sp} {r : List (Nat × Sp)} (h : P k sp) (h' : ∀ j q, fd r j = some q → P j q) : ∀ j q, fd ((k, sp) :: r) j = some q → P j q := by
  intro j q e
  simp only [fd] at e
  cases hb : Nat.beq j k with
  | true => rw [hb] at e; cases e; rw [(beq_iff _ _).mp hb]; exact h
  | false => rw [hb] at e; exact h' j q e
theorem fd_no {P : Nat → Sp → Prop} : ∀ j q, fd [] j = some q → P j q := fun _ _ e => nomatch e
theorem fd_upd_eq {l : List (Nat × Sp)} {j : Nat} {e sp : Sp} (h : fd l j = some sp) : fd (upd l j e) j = some e := by
  rw [fd_upd, if_pos rfl, h]; rfl
theorem fd_upd_ne {l : List (Nat × Sp)} {i j : Nat} {e : Sp} {o : Option Sp} (h : Nat.beq i j = false) (h' : fd l i = o) : fd (upd l j e) i = o := by
  rw [fd_upd, if_neg (beq_ff.mp h)]; exact h'
theorem upd_upd (l : List (Nat × Sp)) (j : Nat) (a b : Sp) : upd (upd l j a) j b = upd l j b := by
  induction l with
  | nil => rfl
  | cons p r ih =>
    obtain ⟨k, sp⟩ := p
    simp only [upd]
    cases h : Nat.beq j k <;> simp [upd, h, ih]
/-! the park, in numbers -/
noncomputable def ifree (fr : List Int) (wish : Int) : Nat := if bis fr wish fr.length 0 fr.length < fr.length then bis fr wish fr.length 0 fr.length else 0
noncomputable def wayN (k : Nat) (wish place : Int) : List Int := (List.range ((place - wish).fmod k + 1).toNat).map fun (s : Nat) => (wish + (s : Nat)).fmod k
noncomputable def up (d : Nat) : Nat := if d = 0 then 0 else d + 1
noncomputable def sentN (ds : List Nat) (way : List Int) : List (Int × Nat) := way.map fun o => (o, up (ds.getD o.toNat 0))
noncomputable def setsN (ds : List Nat) (ps : List (Int × Nat)) : List Nat := ps.foldl (fun r p => r.set p.1.toNat p.2) ds
noncomputable def parkN (k : Nat) (fr : List Int) (ds : List Nat) (wish : Int) : List Int × List Nat :=
  let place := fr.getD (ifree fr wish) 0
  let ds1 := setsN ds (sentN ds (wayN k wish place))
  (fr.eraseIdx (ifree fr wish), ds1.set place.toNat (ds1.getD place.toNat 0 + 1))
noncomputable def rowsS (ds : List Nat) : List Str := (ds.map fun d => repS 46 d) ++ [Str.ofString "o"]
noncomputable abbrev rowsD (ds : List Nat) : List D := (rowsS ds).map D.str
theorem rows_len (ds : List Nat) : (rowsD ds).length = ds.length + 1 := by simp [rowsS]
theorem rows_at {ds : List Nat} {i : Nat} (h : i < ds.length) : (rowsD ds)[i]? = some (.str (repS 46 (ds.getD i 0))) := by
  simp [rowsS, h, List.getElem?_append_left]
theorem rows_o (ds : List Nat) : (rowsD ds)[ds.length]? = some (.str (Str.ofString "o")) := by
  simp [rowsS]
theorem rows_set {ds : List Nat} {i d : Nat} (h : i < ds.length) : (rowsD ds).set i (.str (repS 46 d)) = rowsD (ds.set i d) := by
  show ((rowsS ds).map D.str).set i (D.str (repS 46 d)) = (rowsS (ds.set i d)).map D.str
  rw [← List.map_set]
  congr 1
  unfold rowsS
  rw [List.set_append_left _ _ (by simpa using h), List.map_set]
theorem rows_set_o (ds : List Nat) : (rowsD ds).set ds.length (.str (Str.ofString "o")) = rowsD ds := by
  show ((rowsS ds).map D.str).set ds.length (D.str (Str.ofString "o")) = (rowsS ds).map D.str
  rw [← List.map_set]
  congr 1
  unfold rowsS
  rw [List.set_append_right _ _ (by simp)]
  simp
theorem stuff_rep (d : Nat) : stuffS (repS 46 d) = repS 46 (up d) := by
  cases d with
  | zero => rfl
  | succ d =>
    unfold stuffS repS up mkS
    simp [List.replicate_succ, stuff1_cons]
theorem stuff_o : stuffS (Str.ofString "o") = Str.ofString "o" := by decide +kernel
theorem noEnd_rep (d : Nat) : NoEnd (repS 46 d).cps.toList := by
  unfold NoEnd repS
  simp [List.mem_replicate]
theorem noEnd_o : NoEnd (Str.ofString "o").cps.toList := by unfold NoEnd; decide +kernel
theorem sets_len : ∀ (ps : List (Int × Nat)) (ds : List Nat), (setsN ds ps).length = ds.length
  | [], ds => rfl
  | p :: ps, ds => by
    have := sets_len ps (ds.set p.1.toNat p.2)
    rw [List.length_set] at this
    exact this
end
section
variable {w : World} {n : Nat}
noncomputable def parkFor : List Stmt := match ((bodyOf 20)[3]? : Option Stmt) with | some (Stmt.For _ _ b _ _) => b | _ => []
noncomputable def zipBody : List Stmt := match (parkFor[5]? : Option Stmt) with | some (Stmt.For _ _ b _ _) => b | _ => []
set_option maxHeartbeats 400000 in
theorem zip_turn {b : Nat} {loc cel : List (Str × D)} {objs : List (Nat × Sp)} {nx k : Nat} {ds : List Nat} {one : Int} {row : Str} {ds' : List Nat} (hl : ds.length = k) (hk : k ≤ 10) (h0 : 0 ≤ one) (h1 : one ≤ k) (h5 : fd objs 5 = some ⟨"list", rowsD ds, false, false⟩) (hr : (rowsD ds).set one.toNat (.str row) = rowsD ds')
    (hrow : ∃ l c, loc = l ∧ lk (loc ++ [(Str.ofString "one", .int one), (Str.ofString "row", .str row)]) (Str.ofString "one") = some (.int one) ∧ lk (loc ++ [(Str.ofString "one", .int one), (Str.ofString "row", .str row)]) (Str.ofString "row") = some (.str row) ∧ lk cel (Str.ofString "rows") = some (.ref 5) ∧ c = cel) {Q : Fl → St → Prop}
    (hQ : Q .next ⟨loc, cel, upd objs 5 ⟨"list", rowsD ds', false, false⟩, nx⟩) :
    WB w (fmOf 20) n b ⟨loc ++ [(Str.ofString "one", .int one), (Str.ofString "row", .str row)], cel, objs, nx⟩ zipBody Q := by
  obtain ⟨_, _, _, q1, q2, q3, _⟩ := hrow
  refine WS.weak ?_
  show WB w (fmOf 20) n b _ (_ :: _) _
  refine wB_cons ?_
  refine wX_AssignSub (by intro _; with_unfolding_all rfl) ?_
  refine wE_loc (by decide +kernel) q2 ?_ (by decide)
  refine wE_cel (by decide +kernel) q3 ?_ (by decide)
  refine wE_loc (by decide +kernel) q1 ?_ (by decide)
  refine wL_setItem h5 rfl rfl h0 (by rw [rows_len, hl]; lia) (by lia) ?_
  refine thenB_next (wB_nil ?_)
  rw [hr]
  exact ⟨_, sub_loc (m := [(Str.ofString "one", .int one), (Str.ofString "row", .str row)]) (fun k sp e => ⟨sp, e, .rfl'⟩), hQ⟩
end
end
section
section
variable {w : World} {n : Nat}
structure SS where
  start : Nat
  op : Option Nat
  res : List Str
noncomputable def opD : Option Nat → D
  | none => .none
  | some k => .int k
noncomputable def slS (x : Str) (a b : Nat) : Str := sliceS x (some (a : Int)) (some (b : Int))
noncomputable def slE (x : Str) (a : Nat) : Str := sliceS x (some (a : Int)) none
noncomputable def quo : Str := Str.ofString "\""
noncomputable def stripStep (x : Str) (st : SS) (p : Nat × Str) : SS :=
  if (p.2.cps.toList == [34]) = true then (match st.op with
    | none => { st with op := some p.1 }
    | some o => ⟨p.1 + 1, none, if st.start = o then st.res else st.res ++ [slS x st.start o]⟩)
  else st
noncomputable abbrev lS (x : Str) (st : SS) : List (Str × D) := [(Str.ofString "addr", .str x), (Str.ofString "start", .int st.start), (Str.ofString "open_pos", opD st.op), (Str.ofString "result", .ref 0)]
noncomputable abbrev sS (x : Str) (st : SS) : St := ⟨lS x st, [], [(0, ⟨"list", st.res.map D.str, false, true⟩)], 1⟩
noncomputable def stripFor : List Stmt := match ((bodyOf 3)[4]? : Option Stmt) with | some (Stmt.For _ _ b _ _) => b | _ => []
theorem quo_is : (Str.ofString "\"").cps.toList = [34] := by decide +kernel
theorem strip_turn {b : Nat} (x : Str) (st : SS) (pos : Nat) (ch : Str) (hx : x.length ≤ 1000) (hr : st.res.length ≤ 900) {Q : Fl → St → Prop} (hQ : Q .next (sS x (stripStep x st (pos, ch)))) :
    WB w (fmOf 3) n b ⟨[(Str.ofString "addr", .str x), (Str.ofString "start", .int st.start), (Str.ofString "open_pos", opD st.op), (Str.ofString "result", .ref 0), (Str.ofString "pos", .int pos), (Str.ofString "ch", .str ch)], [], [(0, ⟨"list", st.res.map D.str, false, true⟩)], 1⟩ stripFor Q := by
  refine WS.weak ?_
  have fin : ∀ (st' : SS) (objs' : List (Nat × Sp)), stripStep x st (pos, ch) = st' → objs' = [(0, ⟨"list", st'.res.map D.str, false, true⟩)] → ∃ σ₀, St.Sub σ₀ ⟨[(Str.ofString "addr", .str x), (Str.ofString "start", .int st'.start), (Str.ofString "open_pos", opD st'.op), (Str.ofString "result", .ref 0), (Str.ofString "pos", .int pos), (Str.ofString "ch", .str ch)], [], objs', 1⟩ ∧ Q .next σ₀ := by
    rintro st' objs' rfl rfl
    exact ⟨_, sub_loc (l := lS x (stripStep x st (pos, ch))) (m := [(Str.ofString "pos", .int pos), (Str.ofString "ch", .str ch)]) (fun k sp e => ⟨sp, e, .rfl'⟩), hQ⟩
  show WB w (fmOf 3) n b _ (_ :: _) _
  refine wB_cons ?_
  repeat (walk_at "m")
  refine w2_seq ?_
  rw [quo_is]
  repeat (walk_at "m")
  refine ⟨fun hq => ?_, fun hq => ?_⟩
  · repeat (walk_at "m")
    cases ho : st.op with
    | none =>
      dsimp only [opD]
      refine w2_isNone isn_none ?_
      repeat (walk_at "m")
      refine ife_t rfl ?_
      repeat (walk_at "m")
      exact fin ⟨st.start, some pos, st.res⟩ _ (by unfold stripStep; rw [if_pos hq, ho]) rfl
    | some o =>
      dsimp only [opD]
      refine w2_isNone isn_int ?_
      repeat (walk_at "m")
      refine ife_f rfl ?_
      repeat (walk_at "m")
      refine ⟨fun hs => ?_, fun hs => ?_⟩
      · have hs : ¬ st.start = o := (by have h : ¬ ((st.start : Int) = (o : Int)) := (by simpa using hs); lia)
        repeat (walk_at "m")
        refine wE_Meth (id := "list.append") (by with_unfolding_all rfl) _ (by intro _; with_unfolding_all rfl) ?_
        repeat (walk_at "m")
        refine ⟨gm_append (by walk_at "m_fd") rfl rfl, ?_⟩
        refine wEs_cons (by intro _; with_unfolding_all rfl) ?_
        refine wE_SliceS ?_
        repeat (walk_at "m")
        refine wPa_some ?_
        repeat (walk_at "m")
        refine wPa_some ?_
        repeat (walk_at "m")
        refine ⟨x, _, _, rfl, by unfold sizeLine; lia, rfl, rfl, ?_⟩
        repeat (walk_at "m")
        refine w2_append (by walk_at "m_fd") rfl rfl rfl (by show (st.res.map D.str).length ≤ 1000; rw [List.length_map]; lia) ?_
        refine ⟨rfl, ?_⟩
        refine thenB_next (wB_nil ?_)
        refine thenB_next ?_
        show WB w (fmOf 3) n b ⟨[(Str.ofString "addr", .str x), (Str.ofString "start", .int st.start), (Str.ofString "open_pos", .int o), (Str.ofString "result", .ref 0), (Str.ofString "pos", .int pos), (Str.ofString "ch", .str ch)], [], [(0, ⟨"list", st.res.map D.str ++ [.str (slS x st.start o)], false, true⟩)], 1⟩ _ _
        repeat (walk_at "m")
        refine fin ⟨pos + 1, none, st.res ++ [slS x st.start o]⟩ _ (by unfold stripStep; rw [if_pos hq, ho]; simp only [if_neg hs]) ?_
        simp
      · have hs : st.start = o := (by have h : ((st.start : Int) = (o : Int)) := (by simpa using hs); lia)
        repeat (walk_at "m")
        exact fin ⟨pos + 1, none, st.res⟩ _ (by unfold stripStep; rw [if_pos hq, ho]; simp only [if_pos hs]) rfl
  · repeat (walk_at "m")
    exact fin st _ (by unfold stripStep; rw [if_neg (by rw [hq]; exact Bool.false_ne_true)]) rfl
end
end
section
section
variable {w : World} {n : Nat}
theorem setl_new : ∀ {l : List (Str × D)} {y : Str} {e : D}, lk l y = Option.none → setl l y e = l ++ [(y, e)]
  | [], _, _, _ => rfl
  | (x, d) :: l, y, e, h => by
    simp only [lk] at h
    by_cases hx : y = x
    · rw [if_pos hx] at h; cases h
    · rw [if_neg hx] at h
      simp only [setl, if_neg hx, List.cons_append, setl_new h]
theorem lk_app_none : ∀ {l m : List (Str × D)} {x : Str}, lk l x = Option.none → lk (l ++ m) x = lk m x
  | [], _, _, _ => rfl
  | (y, d) :: l, m, x, h => by
    simp only [lk] at h
    by_cases hx : x = y
    · rw [if_pos hx] at h; cases h
    · rw [if_neg hx] at h
      simp only [List.cons_append, lk, if_neg hx]
      exact lk_app_none h
theorem zip_one {b : Nat} {loc cel : List (Str × D)} {objs : List (Nat × Sp)} {nx k : Nat} {ds ds' : List Nat} {one : Int} {row : Str} (hl : ds.length = k) (hk : k ≤ 10) (h0 : 0 ≤ one) (h1 : one ≤ k) (h5 : fd objs 5 = some ⟨"list", rowsD ds, false, false⟩) (hr : (rowsD ds).set one.toNat (.str row) = rowsD ds')
    (l1 : lk loc (Str.ofString "one") = Option.none) (l2 : lk loc (Str.ofString "row") = Option.none) (c1 : lk cel (Str.ofString "rows") = some (.ref 5)) {Q : Fl → St → Prop}
    (hQ : Q .next ⟨loc, cel, upd objs 5 ⟨"list", rowsD ds', false, false⟩, nx⟩) :
    Sto (fmOf 20) ⟨loc, cel, objs, nx⟩ (Str.ofString "one") (.int one) (fun σ₁ => Sto (fmOf 20) σ₁ (Str.ofString "row") (.str row) (fun σ₂ => WB w (fmOf 20) n b σ₂ zipBody Q)) := by
  have ne : decide (Str.ofString "row" = Str.ofString "one") = false := by decide +kernel
  have e1 := setl_new (e := .int one) l1
  have l2' : lk (loc ++ [(Str.ofString "one", .int one)]) (Str.ofString "row") = Option.none := by
    rw [lk_app_none l2]; simp only [lk, if_neg (of_decide_eq_false ne)]
  have e2 := setl_new (e := .str row) l2'
  refine sto_loc (by decide +kernel) e1 ?_
  refine sto_loc (by decide +kernel) e2 ?_
  rw [List.append_assoc]
  refine zip_turn hl hk h0 h1 h5 hr ⟨_, _, rfl, ?_, ?_, c1, rfl⟩ hQ
  · rw [lk_app_none l1]; exact lk_here
  · rw [lk_app_none l2]; exact lk_next ne lk_here
theorem zip_loop {b : Nat} {loc cel : List (Str × D)} {nx k : Nat} (hk : k ≤ 10)
    (l1 : lk loc (Str.ofString "one") = Option.none) (l2 : lk loc (Str.ofString "row") = Option.none) (c1 : lk cel (Str.ofString "rows") = some (.ref 5)) {Q : Fl → St → Prop} :
    ∀ (ps : List (Int × Nat)) (ds : List Nat) (objs : List (Nat × Sp)), ds.length = k → (∀ p ∈ ps, 0 ≤ p.1 ∧ p.1 < k) → fd objs 5 = some ⟨"list", rowsD ds, false, false⟩ →
    (∀ objs', fd objs' 5 = some ⟨"list", rowsD (setsN ds ps), false, false⟩ → (∀ j, j ≠ 5 → fd objs' j = fd objs j) → Q .next ⟨loc, cel, objs', nx⟩) →
    Loop2 w (fmOf 20) n b (Str.ofString "one") (Str.ofString "row") zipBody Q (ps.map fun p => (.int p.1, .str (repS 46 p.2))) ⟨loc, cel, objs, nx⟩
  | [], ds, objs, hl, hp, h5, hQ => hQ objs h5 fun _ _ => rfl
  | p :: ps, ds, objs, hl, hp, h5, hQ => by
    have hp1 := hp p List.mem_cons_self
    refine zip_one hl hk hp1.1 (by lia) h5 (rows_set (by lia)) l1 l2 c1 ?_
    refine zip_loop hk l1 l2 c1 ps (ds.set p.1.toNat p.2) _ (by rw [List.length_set]; exact hl) (fun q hq => hp q (List.mem_cons_of_mem _ hq)) (fd_upd_eq h5) fun objs' g1 g2 => ?_
    exact hQ objs' g1 fun j hj => (g2 j hj).trans (fd_upd_ne (beq_ff.mpr hj) rfl)
theorem zip_all {b : Nat} {loc cel : List (Str × D)} {nx k : Nat} (hk : k ≤ 10)
    (l1 : lk loc (Str.ofString "one") = Option.none) (l2 : lk loc (Str.ofString "row") = Option.none) (c1 : lk cel (Str.ofString "rows") = some (.ref 5)) {Q : Fl → St → Prop}
    (ps : List (Int × Nat)) (ds : List Nat) (objs : List (Nat × Sp)) (hl : ds.length = k) (hp : ∀ p ∈ ps, 0 ≤ p.1 ∧ p.1 < k) (h5 : fd objs 5 = some ⟨"list", rowsD ds, false, false⟩)
    (hQ : ∀ objs', fd objs' 5 = some ⟨"list", rowsD (setsN ds ps), false, false⟩ → (∀ j, j ≠ 5 → fd objs' j = fd objs j) → Q .next ⟨loc, cel, objs', nx⟩) :
    Loop2 w (fmOf 20) n b (Str.ofString "one") (Str.ofString "row") zipBody Q ((.int k, .str (Str.ofString "o")) :: ps.map fun p => (.int p.1, .str (repS 46 p.2))) ⟨loc, cel, objs, nx⟩ := by
  subst hl
  refine zip_one rfl hk (by lia) (Int.le_refl _) h5 (by rw [Int.toNat_natCast]; exact rows_set_o ds) l1 l2 c1 ?_
  refine zip_loop hk l1 l2 c1 ps ds _ rfl hp (fd_upd_eq h5) fun objs' g1 g2 => ?_
  exact hQ objs' g1 fun j hj => (g2 j hj).trans (fd_upd_ne (beq_ff.mpr hj) rfl)
end
end
section
section
variable {w : World} {F : Fm} {n : Nat} {σ : St}
theorem swaps_t {env : Env} (ok : F.Ok env) {elt : Expr} {gens : List Comprehension} {scope : Scope} {pos p : Pos} {t : Str} {line : Nat} (hl : F.names.lookup t = some .local) (hp : (p.line == pos.line) = true) (hn : (scope.names.any fun (x : Str × NameKind) => x.1 == t && (x.2 == .local || x.2 == .cell)) = false) :
    swapsWith (.ListComp elt gens scope pos) (some (.Name t p)) line env = pure true := by
  have h1 : env.blockKind = .function := by unfold Env.blockKind; rw [ok.kind]; rfl
  have h2 : env.kindOf t = some .local := by show env.scope.names.lookup t = _; rw [ok.names]; exact hl
  show (pure (env.blockKind == .function && env.kindOf t == some .local && p.line == (Expr.ListComp elt gens scope pos).pos.line && !(scope.names.any fun (x : Str × NameKind) => x.1 == t && (x.2 == .local || x.2 == .cell))) : Sem Bool) = _
  rw [h1, h2, hn]
  show (pure (true && true && p.line == pos.line && !false) : Sem Bool) = _
  rw [hp]; rfl
theorem swaps_f {env : Env} (ok : F.Ok env) {elt : Expr} {gens : List Comprehension} {scope : Scope} {pos p : Pos} {t : Str} {line : Nat} (hl : F.names.lookup t = some .cell) :
    swapsWith (.ListComp elt gens scope pos) (some (.Name t p)) line env = pure false := by
  have h2 : env.kindOf t = some .cell := by show env.scope.names.lookup t = _; rw [ok.names]; exact hl
  show (pure (env.blockKind == .function && env.kindOf t == some .local && p.line == (Expr.ListComp elt gens scope pos).pos.line && !(scope.names.any fun (x : Str × NameKind) => x.1 == t && (x.2 == .local || x.2 == .cell))) : Sem Bool) = _
  rw [h2]
  have : (some NameKind.cell == some NameKind.local) = false := rfl
  rw [this, Bool.and_false]; rfl
end
end
section
section
variable {w : World} {F : Fm} {n b : Nat} {σ : St}
theorem cloop_map {x : Str} {elt : Expr} {K : List D → St → Prop} {cel : List (Str × D)} {objs : List (Nat × Sp)} {nx : Nat} (f : D → D) (hb : b ≤ nx) : ∀ (ds acc : List D) (l : List (Str × D)), (l = [] ∨ ∃ e, l = [(x, e)]) →
    (∀ d ∈ ds, ∀ Q : D → St → Prop, Q (f d) ⟨[(x, d)], cel, objs, nx⟩ → WE w F n ⟨[(x, d)], cel, objs, nx⟩ elt Q) → (∀ l, K (acc ++ ds.map f) ⟨l, cel, objs, nx⟩) → CLoop w F n b x elt K ds acc ⟨l, cel, objs, nx⟩
  | [], acc, l, _, _, hK => by
    have := hK l
    rw [List.map_nil, List.append_nil] at this
    exact this
  | d :: ds, acc, l, hl, hf, hK => by
    have e : setl l x d = [(x, d)] := by
      rcases hl with rfl | ⟨e, rfl⟩
      · rfl
      · simp [setl]
    refine ⟨hb, ?_⟩
    show WE w F n ⟨setl l x d, cel, objs, nx⟩ elt _
    rw [e]
    refine hf d List.mem_cons_self _ ?_
    refine cloop_map f hb ds (acc ++ [f d]) _ (.inr ⟨d, rfl⟩) (fun d' hd => hf d' (List.mem_cons_of_mem _ hd)) fun l' => ?_
    have := hK l'
    simpa using this
theorem cend_map {acc : List D} {σ₁ : St} {l c : List (Str × D)} {Q : D → St → Prop} (hc : acc.all (cld σ₁.nx []) = true) (hl : acc.length ≤ sizeLine) (h : Mk σ₁ ⟨"list", acc, false, true⟩ Q) : CEnd σ₁ Q acc ⟨l, c, freezeAll σ₁.objs, σ₁.nx⟩ :=
  ⟨[], ⟨_, rfl⟩, rfl, hc, hl, Nat.le_refl _, h⟩
theorem cld_no {b : Nat} : ∀ {ds : List D}, ds.all noRef = true → ds.all (cld b []) = true
  | [], _ => rfl
  | d :: ds, h => by
    simp only [List.all_cons, Bool.and_eq_true] at h ⊢
    exact ⟨by cases d <;> first | rfl | exact absurd h.1 Bool.false_ne_true, cld_no h.2⟩
theorem wX_AssignOk {x : Str} {p pos : Pos} {value : Expr} {Q : Fl → St → Prop} (hs : ∀ env : Env, F.Ok env → swapsWith value (some (.Name x p)) pos.line env = pure false)
    (h : WE w F n σ value (fun d σ₁ => Sto F σ₁ x d (Q .next))) : WX w F n b σ (.Assign [.Name x p] value pos) Q := by
  intro hb os env κ ρ s A E ok z r
  refine wpAny_Assign_Name (wpAny_mono (h os env κ ρ s A E ok z r) (fun v s₁ h₁ => ?_) fun _ _ x => x) (hs env ok)
  obtain ⟨ρ₁, d, σ₁, g1, g2, g3, g4, σ₂, g5, g6⟩ := h₁
  exact store_ ok g4 g3 g5 fun s' z' => ⟨ρ₁, .next, σ₂, by rw [g5.nx]; exact Nat.le_trans hb g1, g2.less hb, rfl, z', g6⟩
end
end
section
section
variable {w : World} {F : Fm} {n : Nat} {σ : St}
noncomputable def toldFor : List Stmt := match ((bodyOf 21)[2]? : Option Stmt) with | some (Stmt.For _ _ b _ _) => b | _ => []
noncomputable def toldInner : List Stmt := match (toldFor[2]? : Option Stmt) with | some (Stmt.For _ _ b _ _) => b | _ => []
noncomputable def toldStep (cs : List Int) (sz place : Int) (p : Int × Int) (l : Int) : Int × Int :=
  let many := p.2 + cs.getD ((place - l + 1).fmod sz).toNat 0
  (if many - l + 1 > p.1 then many - l + 1 else p.1, many)
theorem told_turn {b : Nat} (sz place most many l : Int) (cs : List Int) (objs : List (Nat × Sp)) (nx kr : Nat) (hnx : 1 ≤ nx) (hk : fd objs 1 = some ⟨"list", cs.map D.int, false, true⟩) (hl : (cs.length : Int) = sz) (h1 : 1 ≤ sz) (h2 : sz ≤ 100) {Q : Fl → St → Prop}
    (hQ : Q .next ⟨[(Str.ofString "size", .int sz), (Str.ofString "counts", .ref 1), (Str.ofString "rows", .ref kr), (Str.ofString "place", .int place), (Str.ofString "most", .int (toldStep cs sz place (most, many) l).1), (Str.ofString "many", .int (toldStep cs sz place (most, many) l).2), (Str.ofString "length", .int l)], [(Str.ofString "wishes", .ref 0)], objs, nx⟩) :
    WB w (fmOf 21) n b ⟨[(Str.ofString "size", .int sz), (Str.ofString "counts", .ref 1), (Str.ofString "rows", .ref kr), (Str.ofString "place", .int place), (Str.ofString "most", .int most), (Str.ofString "many", .int many), (Str.ofString "length", .int l)], [(Str.ofString "wishes", .ref 0)], objs, nx⟩ toldInner Q := by
  show WB w (fmOf 21) n b _ (_ :: _) _
  have bs := fmod_b (place - l + 1) sz (by lia)
  refine wB_cons ?_
  repeat (walk_at "m")
  refine w2_mod (by lia) ?_
  refine w2_item hk rfl (seqI bs.1 (by show _ < (((cs.map D.int).length : Nat) : Int); rw [List.length_map]; lia)) (map_at (l := cs) (i := ((place - l + 1).fmod sz).toNat) (by lia)) ⟨by lia, by lia⟩ ?_
  repeat (walk_at "m")
  refine w2_max ?_
  repeat (walk_at "m")
  exact hQ
end
end
section
section
variable {w : World} {F : Fm} {n : Nat} {σ : St}
noncomputable abbrev stT (sz place most many l : Int) (kr : Nat) (objs : List (Nat × Sp)) (nx : Nat) : St := ⟨[(Str.ofString "size", .int sz), (Str.ofString "counts", .ref 1), (Str.ofString "rows", .ref kr), (Str.ofString "place", .int place), (Str.ofString "most", .int most), (Str.ofString "many", .int many), (Str.ofString "length", .int l)], [(Str.ofString "wishes", .ref 0)], objs, nx⟩
theorem told_loop {b : Nat} (sz place : Int) (cs : List Int) (objs : List (Nat × Sp)) (nx kr : Nat) (hnx : 1 ≤ nx) (hk : fd objs 1 = some ⟨"list", cs.map D.int, false, true⟩) (hl : (cs.length : Int) = sz) (h1 : 1 ≤ sz) (h2 : sz ≤ 100) {Q : Fl → St → Prop}
    : ∀ (ls : List Int) (p : Int × Int) (l : Int), (∀ l, Q .next (stT sz place (ls.foldl (toldStep cs sz place) p).1 (ls.foldl (toldStep cs sz place) p).2 l kr objs nx)) →
    Loop w (fmOf 21) n b (Str.ofString "length") toldInner Q (ls.map D.int) (stT sz place p.1 p.2 l kr objs nx)
  | [], p, l, hQ => hQ l
  | x :: ls, p, l, hQ => by
    show Sto (fmOf 21) _ _ _ _
    walk_at "m"
    refine told_turn sz place p.1 p.2 x cs objs nx kr hnx hk hl h1 h2 ?_
    exact told_loop sz place cs objs nx kr hnx hk hl h1 h2 ls (toldStep cs sz place p x) x hQ
end
end
section
section
variable {w : World} {F : Fm} {n : Nat} {σ : St}
noncomputable def spanI (a : Int) (k : Nat) : List Int := (List.range k).map fun i => a + (i : Nat)
theorem rangeD_span (a : Int) (k : Nat) : rangeD a k = (spanI a k).map D.int := by simp [rangeD, spanI]
noncomputable def mostAt (cs : List Int) (sz place : Int) : Int := ((spanI 1 sz.toNat).foldl (toldStep cs sz place) (0, 0)).1
theorem told_outer {b : Nat} (sz place : Int) (cs : List Int) (rs : List D) (objs : List (Nat × Sp)) (nx kr : Nat) (hnx : 1 ≤ nx) (hk : fd objs 1 = some ⟨"list", cs.map D.int, false, true⟩) (hr : fd objs kr = some ⟨"list", rs, false, true⟩) (hrl : rs.length ≤ 1000) (hl : (cs.length : Int) = sz) (h1 : 1 ≤ sz) (h2 : sz ≤ 100)
    (hm : -1000 ≤ mostAt cs sz place ∧ mostAt cs sz place ≤ 1000) {m0 k0 l0 : Int} {Q : Fl → St → Prop} (hQ : ∀ m k l, Q .next (stT sz place m k l kr (upd objs kr ⟨"list", rs ++ [.str ⟨(List.replicate (mostAt cs sz place).toNat 46).toArray⟩], false, true⟩) nx)) :
    WB w (fmOf 21) n b (stT sz place m0 k0 l0 kr objs nx) toldFor Q := by
  show WB w (fmOf 21) n b _ (_ :: _) _
  refine wB_cons ?_
  repeat (walk_at "m")
  refine' wX_For ?z1 ?z2
  case z1 => intro _ _; with_unfolding_all rfl
  refine wI_range (bltn_is (by decide +kernel) (g_range _).1 (g_range _).2) (by with_unfolding_all rfl) ?_
  repeat (walk_at "m")
  refine ⟨_, _, rfl, by unfold okR; lia, ?_⟩
  rw [rangeD_span]
  refine told_loop sz place cs objs nx kr hnx hk hl h1 h2 _ (0, 0) l0 ?_
  intro l
  have e1 : (sz + 1 - 1).toNat = sz.toNat := by rw [Int.add_sub_cancel]
  rw [e1]
  repeat (walk_at "m")
  refine wE_Meth (id := "list.append") (by with_unfolding_all rfl) _ (by intro _; with_unfolding_all rfl) ?_
  repeat (walk_at "m")
  refine ⟨gm_append hr rfl rfl, ?_⟩
  repeat (walk_at "m")
  refine w2_smul (by decide +kernel) hm.2 hm.1 ?_
  repeat (walk_at "m")
  refine w2_append hr rfl rfl rfl hrl ?_
  refine ⟨rfl, ?_⟩
  repeat (walk_at "m")
  have e46 : (Str.ofString ".").cps.getD 0 0 = 46 := by decide +kernel
  rw [e46]
  exact hQ _ _ _
end
end
section
section
variable {w : World} {F : Fm} {n : Nat} {σ : St}
noncomputable abbrev stT0 (sz place most many : Int) (kr : Nat) (objs : List (Nat × Sp)) (nx : Nat) : St := ⟨[(Str.ofString "size", .int sz), (Str.ofString "counts", .ref 1), (Str.ofString "rows", .ref kr), (Str.ofString "place", .int place), (Str.ofString "most", .int most), (Str.ofString "many", .int many)], [(Str.ofString "wishes", .ref 0)], objs, nx⟩
theorem told_loop0 {b : Nat} (sz place : Int) (cs : List Int) (objs : List (Nat × Sp)) (nx kr : Nat) (hnx : 1 ≤ nx) (hk : fd objs 1 = some ⟨"list", cs.map D.int, false, true⟩) (hl : (cs.length : Int) = sz) (h1 : 1 ≤ sz) (h2 : sz ≤ 100) {Q : Fl → St → Prop}
    (ls : List Int) (hne : ls ≠ []) (p : Int × Int) (hQ : ∀ l, Q .next (stT sz place (ls.foldl (toldStep cs sz place) p).1 (ls.foldl (toldStep cs sz place) p).2 l kr objs nx)) :
    Loop w (fmOf 21) n b (Str.ofString "length") toldInner Q (ls.map D.int) (stT0 sz place p.1 p.2 kr objs nx) := by
  cases ls with
  | nil => exact absurd rfl hne
  | cons x ls =>
    show Sto (fmOf 21) _ _ _ _
    walk_at "m"
    refine told_turn sz place p.1 p.2 x cs objs nx kr hnx hk hl h1 h2 ?_
    exact told_loop sz place cs objs nx kr hnx hk hl h1 h2 ls (toldStep cs sz place p x) x hQ
theorem told_outer0 {b : Nat} (sz place : Int) (cs : List Int) (rs : List D) (objs : List (Nat × Sp)) (nx kr : Nat) (hnx : 1 ≤ nx) (hk : fd objs 1 = some ⟨"list", cs.map D.int, false, true⟩) (hr : fd objs kr = some ⟨"list", rs, false, true⟩) (hrl : rs.length ≤ 1000) (hl : (cs.length : Int) = sz) (h1 : 1 ≤ sz) (h2 : sz ≤ 100)
    (hm : -1000 ≤ mostAt cs sz place ∧ mostAt cs sz place ≤ 1000) {Q : Fl → St → Prop} (hQ : ∀ m k l, Q .next (stT sz place m k l kr (upd objs kr ⟨"list", rs ++ [.str ⟨(List.replicate (mostAt cs sz place).toNat 46).toArray⟩], false, true⟩) nx)) :
    WB w (fmOf 21) n b ⟨[(Str.ofString "size", .int sz), (Str.ofString "counts", .ref 1), (Str.ofString "rows", .ref kr), (Str.ofString "place", .int place)], [(Str.ofString "wishes", .ref 0)], objs, nx⟩ toldFor Q := by
  show WB w (fmOf 21) n b _ (_ :: _) _
  refine wB_cons ?_
  repeat (walk_at "m")
  refine' wX_For ?z1 ?z2
  case z1 => intro _ _; with_unfolding_all rfl
  refine wI_range (bltn_is (by decide +kernel) (g_range _).1 (g_range _).2) (by with_unfolding_all rfl) ?_
  repeat (walk_at "m")
  refine ⟨_, _, rfl, by unfold okR; lia, ?_⟩
  rw [rangeD_span]
  have e1 : (sz + 1 - 1).toNat = sz.toNat := by lia
  rw [e1]
  refine told_loop0 sz place cs objs nx kr hnx hk hl h1 h2 _ ?_ (0, 0) ?_
  · intro h
    have := congrArg List.length h
    simp [spanI] at this
    lia
  intro l
  repeat (walk_at "m")
  refine wE_Meth (id := "list.append") (by with_unfolding_all rfl) _ (by intro _; with_unfolding_all rfl) ?_
  repeat (walk_at "m")
  refine ⟨gm_append hr rfl rfl, ?_⟩
  repeat (walk_at "m")
  refine w2_smul (by decide +kernel) hm.2 hm.1 ?_
  repeat (walk_at "m")
  refine w2_append hr rfl rfl rfl hrl ?_
  refine ⟨rfl, ?_⟩
  repeat (walk_at "m")
  have e46 : (Str.ofString ".").cps.getD 0 0 = 46 := by decide +kernel
  rw [e46]
  exact hQ _ _ _
end
end
section
section
variable {w : World} {F : Fm} {n : Nat} {σ : St}
noncomputable def cntsI (ns : List Int) (k : Nat) : List Int := (List.range k).map fun i => ((ns.count ((i : Nat) : Int) : Nat) : Int)
noncomputable def cntD (ns : List Int) : D → D
  | .int i => .int (ns.count i : Nat)
  | d => d
theorem cnt_rng (ns : List Int) (k : Nat) : (rangeD 0 k).map (cntD ns) = (cntsI ns k).map D.int := by
  simp [rangeD, cntsI, cntD, List.map_map, Function.comp_def]
theorem noRef_int (l : List Int) : (l.map D.int).all noRef = true := by
  simp [List.all_map, Function.comp_def, noRef]
theorem noRef_str (l : List Str) : (l.map D.str).all noRef = true := by
  simp [List.all_map, Function.comp_def, noRef]
theorem told_bnd (cs : List Int) (sz place : Int) (B : Int) (hB : 0 ≤ B) (h : ∀ c ∈ cs, 0 ≤ c ∧ c ≤ B) : ∀ (ls : List Int) (p : Int × Int) (C : Int), (∀ l ∈ ls, 0 ≤ l) → 0 ≤ p.1 → p.1 ≤ C + 1 → 0 ≤ p.2 → p.2 ≤ C →
    0 ≤ (ls.foldl (toldStep cs sz place) p).1 ∧ (ls.foldl (toldStep cs sz place) p).1 ≤ C + B * ls.length + 1
  | [], p, C, _, h1, h2, _, _ => by simp; lia
  | l :: ls, p, C, hl, h1, h2, h3, h4 => by
    have h0 := hl l List.mem_cons_self
    have hc : 0 ≤ cs.getD ((place - l + 1).fmod sz).toNat 0 ∧ cs.getD ((place - l + 1).fmod sz).toNat 0 ≤ B := by
      rw [List.getD_eq_getElem?_getD]
      cases e : cs[((place - l + 1).fmod sz).toNat]? with
      | none => exact ⟨Int.le_refl _, hB⟩
      | some c => exact h c (List.mem_of_getElem? e)
    have := told_bnd cs sz place B hB h ls (toldStep cs sz place p l) (C + B) (fun l hl' => hl l (List.mem_cons_of_mem _ hl')) (by unfold toldStep; dsimp only; split <;> lia) (by unfold toldStep; dsimp only; split <;> lia) (by unfold toldStep; dsimp only; lia) (by unfold toldStep; dsimp only; lia)
    rw [List.foldl_cons]
    refine ⟨this.1, ?_⟩
    have e : B * ((l :: ls).length : Nat) = B + B * (ls.length : Nat) := by
      rw [List.length_cons]; push_cast; rw [Int.mul_add]; lia
    rw [e]; lia
theorem most_bnd (cs : List Int) (sz place : Int) (h : ∀ c ∈ cs, 0 ≤ c ∧ c ≤ 10) (h1 : 1 ≤ sz) (h2 : sz ≤ 10) : -1000 ≤ mostAt cs sz place ∧ mostAt cs sz place ≤ 1000 := by
  have := told_bnd cs sz place 10 (by decide) h (spanI 1 sz.toNat) (0, 0) 0 (by intro l hl; obtain ⟨i, _, rfl⟩ := List.mem_map.mp hl; lia) (by decide) (by decide) (by decide) (by decide)
  have e : ((spanI 1 sz.toNat).length : Int) = sz := by simp [spanI]; lia
  rw [e] at this
  unfold mostAt
  lia
noncomputable def rowT (cs : List Int) (sz place : Int) : Str := ⟨(List.replicate (mostAt cs sz place).toNat 46).toArray⟩
noncomputable abbrev toO (cs : List Int) (sp : Sp) (rs : List D) : List (Nat × Sp) := [(2, ⟨"list", rs, false, true⟩), (1, ⟨"list", cs.map D.int, false, true⟩), (0, sp)]
theorem told_outers {b : Nat} (sz : Int) (cs : List Int) (sp : Sp) (hl : (cs.length : Int) = sz) (h1 : 1 ≤ sz) (h2 : sz ≤ 10) (hc : ∀ c ∈ cs, 0 ≤ c ∧ c ≤ 10) {Q : Fl → St → Prop} :
    ∀ (ps : List Int) (rs : List D) (p0 m0 k0 l0 : Int), rs.length + ps.length ≤ 1000 → (∀ p m k l, Q .next (stT sz p m k l 2 (toO cs sp (rs ++ (ps.map fun p => D.str (rowT cs sz p)))) 3)) →
    Loop w (fmOf 21) n b (Str.ofString "place") toldFor Q (ps.map D.int) (stT sz p0 m0 k0 l0 2 (toO cs sp rs) 3)
  | [], rs, p0, m0, k0, l0, _, hQ => by
    have := hQ p0 m0 k0 l0
    rw [List.map_nil, List.append_nil] at this
    exact this
  | p :: ps, rs, p0, m0, k0, l0, hb, hQ => by
    show Sto (fmOf 21) _ _ _ _
    walk_at "m"
    simp only [List.length_cons] at hb
    refine told_outer sz p cs rs (toO cs sp rs) 3 2 (by decide) rfl rfl (by lia) hl h1 (by lia) (most_bnd cs sz p hc h1 h2) ?_
    intro m k l
    show Loop w (fmOf 21) n b (Str.ofString "place") toldFor Q (ps.map D.int) (stT sz p m k l 2 (toO cs sp (rs ++ [.str (rowT cs sz p)])) 3)
    refine told_outers sz cs sp hl h1 h2 hc ps (rs ++ [.str (rowT cs sz p)]) p m k l (by simp only [List.length_append, List.length_cons, List.length_nil]; lia) ?_
    intro p m k l
    have := hQ p m k l
    simpa using this
end
end
section
section
variable {w : World} {F : Fm} {n : Nat} {σ : St}
noncomputable def toldS (ns : List Int) (k : Nat) : List Str := ((List.range k).map fun (i : Nat) => rowT (cntsI ns k) (k : Int) ((i : Nat) : Int)) ++ [Str.ofString "o"]
theorem cnts_b (ns : List Int) (k : Nat) (hn : ns.length ≤ 10) : ∀ c ∈ cntsI ns k, 0 ≤ c ∧ c ≤ 10 := fun c hc => by
  obtain ⟨i, _, rfl⟩ := List.mem_map.mp hc
  have := List.count_le_length (a := ((i : Nat) : Int)) (l := ns)
  lia
theorem told_wb (k : Nat) (sp : Sp) (ns : List Int) (ht : sp.ty = "list") (hp : sp.px = true) (hn : intsD sp.ds = some ns) (hnl : ns.length ≤ 10) (h0 : 1 ≤ k) (h1 : k ≤ 10) :
    WB w (fmOf 21) n 1 ⟨[(Str.ofString "size", .int k)], [(Str.ofString "wishes", .ref 0)], [(0, sp)], 1⟩ (bodyOf 21) (fun fl σ' => ∃ j, fl = .ret (.ref j) ∧ fd σ'.objs j = some ⟨"list", (toldS ns k).map D.str, false, true⟩) := by
  have c1 := cnts_b ns k hnl
  have c2 : ((cntsI ns k).length : Int) = k := by simp [cntsI]
  have e3 : rangeD 0 ((k : Int) - 0).toNat = (spanI 0 k).map D.int := by rw [rangeD_span]; congr 1
  refine wB_cons ?_
  refine wX_AssignComp (fun env ok => swaps_t ok (by decide +kernel) (by decide) (by decide +kernel)) rfl rfl (by decide +kernel) (by intro _ _; with_unfolding_all rfl) ?_
  refine wI_range (bltn_is (by decide +kernel) (g_range _).1 (g_range _).2) (by with_unfolding_all rfl) ?_
  repeat (walk_at "m")
  refine ⟨_, _, rfl, by unfold okR; lia, ?_⟩
  refine ⟨by simp only [rangeD, List.length_map, List.length_range]; unfold sizeLine; lia, ?_⟩
  have ec : celOf [(Str.ofString ".0", NameKind.local), (Str.ofString "place", NameKind.local), (Str.ofString "wishes", NameKind.free)] [(Str.ofString "wishes", D.ref 0)] = [(Str.ofString "wishes", D.ref 0)] := by kernel_rfl
  dsimp only
  rw [ec]
  show CLoop w _ n 1 _ _ _ _ [] ⟨[], [(Str.ofString "wishes", .ref 0)], [(0, { sp with fz := true })], 1⟩
  refine cloop_map (cntD ns) (Nat.le_refl _) _ _ _ (.inl rfl) ?_ ?_
  · intro d hd Q hQ
    obtain ⟨i, _, rfl⟩ := List.mem_map.mp hd
    refine wE_Meth (id := "list.count") (by with_unfolding_all rfl) _ (by intro _; with_unfolding_all rfl) ?_
    repeat (walk_at "m")
    refine ⟨gm_count (sp := { sp with fz := true }) (by walk_at "m_fd") ht hp, ?_⟩
    repeat (walk_at "m")
    refine w2_count (sp := { sp with fz := true }) (by walk_at "m_fd") ht hn ?_
    exact hQ
  · intro l
    have ek : ((k : Int) - 0).toNat = k := by lia
    rw [List.nil_append, ek, cnt_rng]
    refine cend_map (cld_no (noRef_int _)) (by simp [cntsI]; unfold sizeLine; lia) ?_
    repeat (walk_at "m")
    refine' wX_For ?z1 ?z2
    case z1 => intro _ _; with_unfolding_all rfl
    refine wI_range (bltn_is (by decide +kernel) (g_range _).1 (g_range _).2) (by with_unfolding_all rfl) ?_
    repeat (walk_at "m")
    refine ⟨_, _, rfl, by unfold okR; lia, ?_⟩
    rw [e3]
    have hne : spanI 0 k = 0 :: spanI 1 (k - 1) := by
      have : k = (k - 1) + 1 := by lia
      rw [this]
      unfold spanI
      rw [List.range_succ_eq_map, List.map_cons, List.map_map]
      congr 1
      apply List.map_congr_left
      intro i _
      simp; lia
    have hk0 : (spanI 0 k).map D.int = .int 0 :: (spanI 1 (k - 1)).map D.int := by rw [hne]; rfl
    rw [hk0]
    show Sto (fmOf 21) _ _ _ _
    walk_at "m"
    refine told_outer0 k 0 (cntsI ns k) [] (toO (cntsI ns k) sp []) 3 2 (by decide) rfl rfl (by decide) c2 (by lia) (by lia) (most_bnd _ _ _ c1 (by lia) (by lia)) ?_
    intro m q l
    show Loop w (fmOf 21) n 3 (Str.ofString "place") toldFor _ ((spanI 1 (k - 1)).map D.int) (stT k 0 m q l 2 (toO (cntsI ns k) sp ([] ++ [.str (rowT (cntsI ns k) k 0)])) 3)
    refine told_outers k (cntsI ns k) sp c2 (by lia) (by lia) c1 (spanI 1 (k - 1)) _ 0 m q l (by simp [spanI]; lia) ?_
    intro p m q l
    have er : [D.str (rowT (cntsI ns k) k 0)] ++ (spanI 1 (k - 1)).map (fun p => D.str (rowT (cntsI ns k) k p)) = ((List.range k).map fun (i : Nat) => rowT (cntsI ns k) (k : Int) ((i : Nat) : Int)).map D.str := by
      have : [D.str (rowT (cntsI ns k) k 0)] ++ (spanI 1 (k - 1)).map (fun p => D.str (rowT (cntsI ns k) k p)) = (spanI 0 k).map (fun p => D.str (rowT (cntsI ns k) k p)) := by rw [hne]; rfl
      rw [this]
      simp [spanI, List.map_map, Function.comp_def]
    rw [List.nil_append, er]
    repeat (walk_at "m")
    refine w2_ladd (by walk_at "m_fd") (by walk_at "m_fd") rfl rfl rfl rfl (by simp [sizeLine]; lia) ?_
    repeat (walk_at "m")
    refine ⟨_, rfl, ?_⟩
    rw [fd_here, toldS, List.map_append]
    rfl
end
end
section
section
variable {w : World} {F : Fm} {n : Nat} {σ : St}
theorem told_body : (defAt 21).2.2.1 = bodyOf 21 := by kernel_rfl
theorem told_bind {md : Value} (vs : List Value) (h : vs.length = 2) : bindArgs (Calls.docDef (defAt 21).1 (defAt 21).2.1 (defAt 21).2.2.1 (defAt 21).2.2.2 md (.ref 165) .none) ⟨vs, []⟩ = pure ([Str.ofString "wishes", Str.ofString "size"].zip vs) := by
  obtain ⟨a, b, rfl⟩ := len2 h
  kernel_rfl
theorem told_kind : ([Str.ofString "wishes", Str.ofString "size"].all fun x => decide ((defAt 21).2.2.2.names.lookup x = some .local) || decide ((defAt 21).2.2.2.names.lookup x = some .cell)) = true := by kernel_rfl
theorem told_locs (a b : D) : locsOf (defAt 21).2.2.2.names ([Str.ofString "wishes", Str.ofString "size"].zip [a, b]) [] = [(Str.ofString "size", b)] := by kernel_rfl
theorem told_cels (a b : D) : celsOf (defAt 21).2.2.2.names ([Str.ofString "wishes", Str.ofString "size"].zip [a, b]) [] = [(Str.ofString "wishes", a)] := by kernel_rfl
theorem wL_told {k j : Nat} {sp : Sp} {ns : List Int} (hj : fd σ.objs j = some sp) (ht : sp.ty = "list") (hp : sp.px = true) (hn : intsD sp.ds = some ns) (hnl : ns.length ≤ 10) (h0 : 1 ≤ k) (h1 : k ≤ 10) {Q : D → St → Prop} (h : Mk σ ⟨"list", (toldS ns k).map D.str, false, true⟩ Q) :
    WL w F (n + 1) Val σ [.ref j, .int k] (fun _ vs => call (.ref 166) vs) Q := by
  obtain ⟨a1, a2⟩ := arg_one hj (intsD_noRef hn)
  refine wL_call (fa_told w) (names := [Str.ofString "wishes", Str.ofString "size"]) (ks := [j]) (ds := [.ref j, .int k]) (dsC := [.ref 0, .int k]) (objsC := [(0, { sp with fz := true })]) (a2 _ (by simp [noRef])) (by simp [ren, idx]) a1 (fun vs hv => told_bind vs (by simpa using hv)) told_kind (told_locs _ _) (told_cels _ _) ?_
  rw [told_body]
  refine (told_wb k { sp with fz := true } ns ht hp hn hnl h0 h1).mono fun fl σ' ⟨i, e1, e2⟩ => ?_
  obtain ⟨q1, q2, q3⟩ := adopt_one e2 rfl (noRef_str _) h
  exact ⟨.ref i, [i], .inl e1, q1, q2, q3⟩
end
end
local macro_rules | `(tactic| walk_at "m_fd") => `(tactic| first | with_reducible exact fd_here | (with_reducible refine' fd_next ?k1 ?k2; (case k1 => first | decide +kernel | exact beq_ff.mpr (by omega)); (case k2 => walk_at "m_fd")))
section
section
variable {w : World} {n : Nat}
noncomputable abbrev lP : List (Str × D) := [(Str.ofString "wishes", .ref 0), (Str.ofString "free", .ref 1), (Str.ofString "books", .ref 6)]
noncomputable abbrev lP5 (j place : Int) (e : Str) (nx : Nat) : List (Str × D) := [(Str.ofString "wishes", .ref 0), (Str.ofString "free", .ref 1), (Str.ofString "books", .ref 6), (Str.ofString "k", .int j), (Str.ofString "place", .int place), (Str.ofString "way", .ref (nx + 1 + 1)), (Str.ofString "end", .str e)]
noncomputable abbrev cP (k : Nat) (wish : Int) : List (Str × D) := [(Str.ofString "size", .int k), (Str.ofString "rows", .ref 5), (Str.ofString "wish", .int wish)]
noncomputable abbrev oP (fr : List Int) (ds : List Nat) (bk : List D) (sp : Sp) (tl : List (Nat × Sp)) : List (Nat × Sp) := (1, ⟨"list", fr.map D.int, false, true⟩) :: (5, ⟨"list", rowsD ds, false, false⟩) :: (6, ⟨"list", bk, false, true⟩) :: (0, sp) :: tl
noncomputable def ends : List Str := [Str.ofString "\n", Str.ofString "\r", Str.ofString "\r\n"]
noncomputable def wayF (k : Nat) (wish : Int) : D → D
  | .int s => .int ((wish + s).fmod k)
  | d => d
theorem way_map (k : Nat) (wish place : Int) (m : Nat) (hm : m = ((place - wish).fmod k + 1).toNat) : (rangeD 0 m).map (wayF k wish) = (wayN k wish place).map D.int := by
  subst hm
  simp [rangeD, wayN, wayF, Function.comp_def]
theorem map_erase : ∀ (l : List Int) (i : Nat), (l.map D.int).eraseIdx i = (l.eraseIdx i).map D.int
  | [], _ => rfl
  | _ :: _, 0 => rfl
  | x :: l, i + 1 => by simp only [List.map_cons, List.eraseIdx_cons_succ, map_erase l i]
theorem park_a {b : Nat} (k : Nat) (fr : List Int) (ds : List Nat) (bk : List D) (sp : Sp) (tl : List (Nat × Sp)) (nx : Nat) (wish : Int) (hnx : 7 ≤ nx) (hk1 : 1 ≤ k) (hk : k ≤ 10) (hf : fr ≠ []) (hfl : fr.length ≤ 100) (hb : bk.length ≤ 100) (hw : -1000 ≤ wish ∧ wish ≤ 1000)
    (hp : 0 ≤ fr.getD (ifree fr wish) 0 ∧ fr.getD (ifree fr wish) 0 < k) {Q : Fl → St → Prop}
    (hQ : ∀ (j : Int) (e : Str) (g1 g2 g3 : Sp), e ∈ ends → WB w (fmOf 20) (n + 1) b ⟨lP5 j (fr.getD (ifree fr wish) 0) e nx, cP k wish, (nx + 1 + 1 + 1, g3) :: (nx + 1 + 1, ⟨"list", .int k :: (wayN k wish (fr.getD (ifree fr wish) 0)).map D.int, false, true⟩) :: (nx + 1, g2) :: (nx, g1) :: oP (fr.eraseIdx (ifree fr wish)) ds bk sp tl, nx + 1 + 1 + 1 + 1⟩ (parkFor.drop 4) Q) :
    WB w (fmOf 20) (n + 1) b ⟨lP, cP k wish, oP fr ds bk sp tl, nx⟩ parkFor Q := by
  show WB w (fmOf 20) (n + 1) b _ (_ :: _ :: _ :: _ :: _) _
  refine wB_cons ?_
  refine wX_Assign (by intro _; with_unfolding_all rfl) ?_
  refine wE_CallFn (name_is (by decide +kernel) (gf_bisect w)) (bis_get w) rfl (by with_unfolding_all rfl) ?_
  repeat (walk_at "m")
  refine w2_of (wL_bis (as := fr) (by walk_at "m_fd") rfl rfl (by lia) ?_)
  have hpos : 0 < fr.length := List.length_pos_iff.mpr hf
  have hi : ifree fr wish < fr.length := by unfold ifree; split <;> lia
  repeat (walk_at "m")
  refine wE_Meth (id := "list.pop") (by with_unfolding_all rfl) _ (by intro _; with_unfolding_all rfl) ?_
  repeat (walk_at "m")
  refine ⟨gm_pop (by walk_at "m_fd") rfl rfl, ?_⟩
  refine wEs_cons (by intro _; with_unfolding_all rfl) ?_
  refine W0.mono (Q := fun d σ₁ => d = .int (ifree fr wish : Nat) ∧ σ₁ = ⟨[(Str.ofString "wishes", .ref 0), (Str.ofString "free", .ref 1), (Str.ofString "books", .ref 6), (Str.ofString "k", .int (bis fr wish fr.length 0 fr.length : Nat))], cP k wish, oP fr ds bk sp tl, nx⟩) ?_ ?_
  · repeat (walk_at "m")
    refine w1_lenL (by walk_at "m_fd") rfl (by rw [List.length_map]; lia) ?_
    repeat (walk_at "m")
    rw [List.length_map]
    unfold ifree
    refine ⟨fun hc => ?_, fun hc => ?_⟩
    · repeat (walk_at "m")
      rw [if_pos (by simpa using hc)]
      exact ⟨rfl, rfl⟩
    · repeat (walk_at "m")
      rw [if_neg (by simpa using hc)]
      exact ⟨rfl, rfl⟩
  · rintro _ _ ⟨rfl, rfl⟩
    repeat (walk_at "m")
    refine w2_pop (by walk_at "m_fd") rfl rfl rfl (by rw [List.length_map]; lia) ⟨by lia, by lia⟩ (seqI (by lia) (by rw [List.length_map]; lia)) (map_at (by omega)) ?_
    rw [Int.toNat_natCast]
    have er : (fr.map D.int).eraseIdx (ifree fr wish) = (fr.eraseIdx (ifree fr wish)).map D.int := by rw [map_erase]
    show Sto (fmOf 20) ⟨[(Str.ofString "wishes", .ref 0), (Str.ofString "free", .ref 1), (Str.ofString "books", .ref 6), (Str.ofString "k", .int (bis fr wish fr.length 0 fr.length : Nat))], cP k wish, (1, ⟨"list", (fr.map D.int).eraseIdx (ifree fr wish), false, true⟩) :: (5, ⟨"list", rowsD ds, false, false⟩) :: (6, ⟨"list", bk, false, true⟩) :: (0, sp) :: tl, nx⟩ _ _ _
    rw [er]
    generalize hpl : fr.getD (ifree fr wish) 0 = place at hp hQ ⊢
    generalize fr.eraseIdx (ifree fr wish) = fr' at hQ ⊢
    have bm := fmod_b (place - wish) k (by lia)
    repeat (walk_at "m")
    refine wE_Comp rfl rfl (by decide +kernel) (by intro _ _; with_unfolding_all rfl) ?_
    refine wI_range (bltn_is (by decide +kernel) (g_range _).1 (g_range _).2) (by with_unfolding_all rfl) ?_
    repeat (walk_at "m")
    refine w2_mod (by lia) ?_
    repeat (walk_at "m")
    refine ⟨_, _, rfl, by unfold okR; lia, ?_⟩
    refine ⟨by simp only [rangeD, List.length_map, List.length_range]; unfold sizeLine; lia, ?_⟩
    have ec : celOf [(Str.ofString ".0", NameKind.local), (Str.ofString "step", NameKind.local), (Str.ofString "size", NameKind.free), (Str.ofString "wish", NameKind.free)] (cP k wish) = [(Str.ofString "size", .int k), (Str.ofString "wish", .int wish)] := by kernel_rfl
    dsimp only
    rw [ec]
    refine cloop_map (wayF k wish) (Nat.le_refl _) _ _ _ (.inl rfl) ?_ ?_
    · intro d hd Q hQ
      obtain ⟨i, _, rfl⟩ := List.mem_map.mp hd
      repeat (walk_at "m")
      refine w2_mod (by lia) ?_
      exact hQ
    · intro l
      rw [List.nil_append, way_map k wish place _ (by congr 1; lia)]
      refine cend_map (cld_no (noRef_int _)) (by simp [wayN, sizeLine]; lia) ?_
      repeat (walk_at "m")
      refine w2_ladd (by walk_at "m_fd") (by walk_at "m_fd") rfl rfl rfl rfl (by simp [wayN, sizeLine]; lia) ?_
      repeat (walk_at "m")
      refine w1_lenL (by walk_at "m_fd") rfl (by show ((bk.length : Nat) : Int) < _; lia) ?_
      dsimp only
      repeat (walk_at "m")
      have b3 := fmod_b (bk.length : Int) 3 (by decide)
      have hen : (ends.map D.str)[((bk.length : Int).fmod 3).toNat]? = some (.str (ends.getD ((bk.length : Int).fmod 3).toNat (Str.ofString ""))) := by
        have hlt : ((bk.length : Int).fmod 3).toNat < ends.length := by show _ < 3; lia
        rw [List.getElem?_map, List.getElem?_eq_getElem hlt, List.getD_eq_getElem?_getD, List.getElem?_eq_getElem hlt]; rfl
      have hem : ends.getD ((bk.length : Int).fmod 3).toNat (Str.ofString "") ∈ ends := by
        have hlt : ((bk.length : Int).fmod 3).toNat < ends.length := by show _ < 3; lia
        rw [List.getD_eq_getElem?_getD, List.getElem?_eq_getElem hlt]
        exact List.getElem_mem hlt
      refine w2_item (by walk_at "m_fd") rfl (seqI b3.1 (by show _ < ((3 : Nat) : Int); lia)) hen ⟨by lia, by lia⟩ ?_
      refine sto_loc (by decide +kernel) (by walk_at "m_setl") ?_
      refine thenB_next ?_
      exact hQ _ _ _ _ _ hem
end
end
section
section
variable {w : World} {n : Nat}
theorem fz_at : ∀ (pre : List (Nat × Sp)) (k : Nat) (sp : Sp) (r : List (Nat × Sp)) (j : Nat) (q : Sp), fd (pre ++ (k, { sp with fz := true }) :: r) j = some q → ∃ q', fd (pre ++ (k, sp) :: r) j = some q' ∧ Sp.Le q q'
  | [], k, sp, r, j, q, h => by
    simp only [List.nil_append, fd] at h ⊢
    cases hb : Nat.beq j k with
    | true => rw [hb] at h; cases h; exact ⟨sp, rfl, rfl, rfl, (fun h => nomatch h), fun h => h⟩
    | false => rw [hb] at h; exact ⟨q, h, .rfl'⟩
  | (i, s) :: pre, k, sp, r, j, q, h => by
    simp only [List.cons_append, fd] at h ⊢
    cases hb : Nat.beq j i with
    | true => rw [hb] at h; exact ⟨q, h, .rfl'⟩
    | false => rw [hb] at h; exact fz_at pre k sp r j q h
theorem sub_fz {l c : List (Str × D)} {nx : Nat} (pre : List (Nat × Sp)) (k : Nat) (sp : Sp) (r : List (Nat × Sp)) : St.Sub ⟨l, c, pre ++ (k, { sp with fz := true }) :: r, nx⟩ ⟨l, c, pre ++ (k, sp) :: r, nx⟩ :=
  ⟨rfl, fun _ _ e => e, fun _ _ e => e, fz_at pre k sp r⟩
noncomputable def askS (ds : List Nat) (o : Int) : Str := (rowsS ds).getD o.toNat (Str.ofString "")
noncomputable def askF (ds : List Nat) : D → D
  | .int o => .str (askS ds o)
  | d => d
theorem ask_map (ds : List Nat) (l : List Int) : (l.map D.int).map (askF ds) = (l.map (askS ds)).map D.str := by simp [askF, Function.comp_def]
theorem ask_at {ds : List Nat} {o : Int} (h0 : 0 ≤ o) (h1 : o ≤ ds.length) : (rowsD ds)[o.toNat]? = some (.str (askS ds o)) := by
  have : o.toNat < (rowsS ds).length := by simp [rowsS]; lia
  unfold askS
  rw [List.getElem?_map, List.getElem?_eq_getElem this, List.getD_eq_getElem?_getD, List.getElem?_eq_getElem this]; rfl
theorem ask_k (ds : List Nat) : askS ds (ds.length : Int) = Str.ofString "o" := by
  have := ask_at (ds := ds) (o := (ds.length : Int)) (by lia) (Int.le_refl _)
  rw [Int.toNat_natCast, rows_o] at this
  injection this with this
  injection this with this
  exact this.symm
theorem ask_row {ds : List Nat} {o : Int} (h0 : 0 ≤ o) (h1 : o < ds.length) : askS ds o = repS 46 (ds.getD o.toNat 0) := by
  have := ask_at (ds := ds) (o := o) (by lia) (by lia)
  rw [rows_at (by lia)] at this
  injection this with this
  injection this with this
  exact this.symm
theorem joinL_len (sep : List Nat) : ∀ (rows : List (List Nat)), (joinL sep rows).length ≤ (rows.map List.length).sum + rows.length * sep.length
  | [] => by simp [joinL]
  | [r] => by simp [joinL]
  | r :: s :: t => by
    have := joinL_len sep (s :: t)
    show (r ++ sep ++ joinL sep (s :: t)).length ≤ _
    simp only [List.length_append, List.map_cons, List.sum_cons, List.length_cons] at this ⊢
    have e : (t.length + 1 + 1) * sep.length = (t.length + 1) * sep.length + sep.length := by rw [Nat.succ_mul]
    rw [e]; lia
theorem stuff_len : ∀ (l : List Nat) (b : Bool), (stuff b l).length ≤ 2 * l.length
  | [], _ => by simp [stuff]
  | c :: r, b => by
    unfold stuff
    have h1 := stuff_len r false
    have h2 := stuff_len r (c == 10)
    split <;> (simp only [List.length_cons]; lia)
theorem sum_le {l : List Nat} {B : Nat} (h : ∀ x ∈ l, x ≤ B) : l.sum ≤ l.length * B := by
  induction l with
  | nil => simp
  | cons x l ih =>
    have h1 := h x List.mem_cons_self
    have h2 := ih fun y hy => h y (List.mem_cons_of_mem _ hy)
    simp only [List.sum_cons, List.length_cons, Nat.succ_mul]; lia
theorem ask_len {ds : List Nat} {o : Int} (hd : ∀ d ∈ ds, d ≤ 50) (h0 : 0 ≤ o) (h1 : o ≤ ds.length) : (askS ds o).length ≤ 50 := by
  rcases Int.lt_or_eq_of_le h1 with h | h
  · rw [ask_row h0 h]
    have : (repS 46 (ds.getD o.toNat 0)).length = ds.getD o.toNat 0 := by simp [repS, Str.length]
    rw [this, List.getD_eq_getElem?_getD]
    cases e : ds[o.toNat]? with
    | none => simp
    | some d => exact hd d (List.mem_of_getElem? e)
  · subst h; rw [ask_k]; decide +kernel
theorem ask_noEnd {ds : List Nat} {o : Int} (h0 : 0 ≤ o) (h1 : o ≤ ds.length) : NoEnd (askS ds o).cps.toList := by
  rcases Int.lt_or_eq_of_le h1 with h | h
  · rw [ask_row h0 h]; exact noEnd_rep _
  · subst h; rw [ask_k]; exact noEnd_o
theorem way_b {k : Nat} {wish place : Int} (hk : 1 ≤ k) : ∀ o ∈ wayN k wish place, 0 ≤ o ∧ o < k := fun o ho => by
  obtain ⟨s, _, rfl⟩ := List.mem_map.mp ho
  have := fmod_b (wish + (s : Nat)) k (by lia)
  lia
theorem way_len {k : Nat} {wish place : Int} (hk : 1 ≤ k) : (wayN k wish place).length ≤ k := by
  have := fmod_b (place - wish) k (by lia)
  simp [wayN]; lia
theorem ends_is {e : Str} (h : e ∈ ends) : isEnd e.cps.toList ∧ e.length ≤ 2 := by
  have : ∀ e ∈ ends, (e.cps.toList = [10] ∨ e.cps.toList = [13] ∨ e.cps.toList = [13, 10]) ∧ e.length ≤ 2 := by decide +kernel
  exact this e h
theorem queue_len {k : Nat} {ds : List Nat} {e : Str} {wish place : Int} (he : e ∈ ends) (hk1 : 1 ≤ k) (hk : k ≤ 10) (hl : ds.length = k) (hd : ∀ d ∈ ds, d ≤ 50) : (Txt.join e (((k : Int) :: wayN k wish place).map (askS ds))).length ≤ 1000 ∧ ((((k : Int) :: wayN k wish place).map (askS ds)).map (·.length)).sum + (((k : Int) :: wayN k wish place).map (askS ds)).length * e.length ≤ 1000 := by
  have hlen : (((k : Int) :: wayN k wish place).map (askS ds)).length ≤ 11 := by
    have := way_len (wish := wish) (place := place) hk1
    simp; lia
  have hs := sum_le (l := (((k : Int) :: wayN k wish place).map (askS ds)).map (·.length)) (B := 50) (by
    intro x hx
    obtain ⟨y, hy, rfl⟩ := List.mem_map.mp hx
    obtain ⟨o, ho, rfl⟩ := List.mem_map.mp hy
    rcases List.mem_cons.mp ho with rfl | ho
    · exact ask_len hd (by lia) (by lia)
    · have := way_b hk1 o ho; exact ask_len hd this.1 (by lia))
  rw [List.length_map] at hs
  have he2 := (ends_is he).2
  have hm : (((k : Int) :: wayN k wish place).map (askS ds)).length * e.length ≤ 11 * 2 := Nat.mul_le_mul hlen he2
  refine ⟨?_, by lia⟩
  have e1 : (Txt.join e (((k : Int) :: wayN k wish place).map (askS ds))).length = ((Txt.join e (((k : Int) :: wayN k wish place).map (askS ds))).cps.toList).length := by simp [Str.length]
  rw [e1, join_joinL]
  have := joinL_len e.cps.toList ((((k : Int) :: wayN k wish place).map (askS ds)).map (·.cps.toList))
  have e2 : ((((k : Int) :: wayN k wish place).map (askS ds)).map (·.cps.toList)).map List.length = (((k : Int) :: wayN k wish place).map (askS ds)).map (·.length) := by
    rw [List.map_map]; apply List.map_congr_left; intro x _; simp [Str.length]
  rw [e2, List.length_map] at this
  have e3 : e.cps.toList.length = e.length := by simp [Str.length]
  rw [e3] at this
  lia
theorem sent_all {k : Nat} {ds : List Nat} {e : Str} {wish place : Int} (he : e ∈ ends) (hk1 : 1 ≤ k) (hl : ds.length = k) : ((((k : Int) :: wayN k wish place).map (askS ds)).map stuffS) = Str.ofString "o" :: (sentN ds (wayN k wish place)).map fun p => repS 46 p.2 := by
  subst hl
  simp only [List.map_cons, ask_k, stuff_o]
  congr 1
  unfold sentN
  rw [List.map_map, List.map_map]
  apply List.map_congr_left
  intro o ho
  have := way_b hk1 o ho
  simp only [Function.comp]
  rw [ask_row this.1 this.2, stuff_rep]
end
end
section
section
variable {w : World} {F : Fm} {n : Nat} {σ : St}
noncomputable def escN : Bool → Nat → List Nat → List (Nat × Str)
  | _, _, [] => []
  | true, p, c :: r => (p, ⟨#[92, c]⟩) :: escN false (p + 1) r
  | false, p, c :: r => if c = 92 then escN true (p + 1) r else (p, ⟨#[c]⟩) :: escN false (p + 1) r
theorem escL_N : ∀ (l : List Nat) (e : Bool) (p : Nat), escL e p l = (escN e p l).map fun q => ((q.1 : Int), q.2)
  | [], e, p => by cases e <;> rfl
  | c :: l, true, p => by simp only [escL, escN, List.map_cons, escL_N l]
  | c :: l, false, p => by
    simp only [escL, escN]
    split
    · exact escL_N l true (p + 1)
    · simp only [List.map_cons, escL_N l]
theorem escN_len : ∀ (l : List Nat) (e : Bool) (p : Nat), (escN e p l).length ≤ l.length
  | [], e, p => by cases e <;> simp [escN]
  | c :: l, true, p => by have := escN_len l false (p + 1); simp only [escN, List.length_cons]; lia
  | c :: l, false, p => by
    simp only [escN]
    split
    · have := escN_len l true (p + 1); simp only [List.length_cons]; lia
    · have := escN_len l false (p + 1); simp only [List.length_cons]; lia
theorem escD_N (x : Str) : escD x = (escN false 0 x.cps.toList).map fun p => (.int p.1, .str p.2) := by
  unfold escD
  rw [escL_N, List.map_map]
  rfl
theorem slice_le (x : Str) (lo hi : Option Int) : (sliceS x lo hi).length ≤ x.length := by
  unfold sliceS
  split
  · exact Nat.le_refl _
  · show ((List.filterMap (fun i => x.cps[i]?) (Builtin.Str.strSliceIndices lo hi 1 x.length)).toArray).size ≤ x.length
    rw [List.size_toArray]
    exact Nat.le_trans (List.length_filterMap_le _ _) (sliceIndices_le lo hi x.length)
theorem step_ok (x : Str) (st : SS) (p : Nat × Str) (h : ∀ r ∈ st.res, r.length ≤ x.length) : (∀ r ∈ (stripStep x st p).res, r.length ≤ x.length) ∧ (stripStep x st p).res.length ≤ st.res.length + 1 := by
  unfold stripStep
  split
  · split
    · exact ⟨h, Nat.le_succ _⟩
    · refine ⟨fun r hr => ?_, ?_⟩
      · dsimp only at hr
        split at hr
        · exact h r hr
        · rcases List.mem_append.mp hr with h1 | h1
          · exact h r h1
          · rw [List.mem_singleton.mp h1]; exact slice_le _ _ _
      · dsimp only
        split <;> simp
  · exact ⟨h, Nat.le_succ _⟩
theorem fold_ok (x : Str) : ∀ (ps : List (Nat × Str)) (st : SS), (∀ r ∈ st.res, r.length ≤ x.length) → (∀ r ∈ (ps.foldl (stripStep x) st).res, r.length ≤ x.length) ∧ (ps.foldl (stripStep x) st).res.length ≤ st.res.length + ps.length
  | [], st, h => ⟨h, Nat.le_refl _⟩
  | p :: ps, st, h => by
    obtain ⟨h1, h2⟩ := step_ok x st p h
    obtain ⟨h3, h4⟩ := fold_ok x ps _ h1
    refine ⟨h3, ?_⟩
    simp only [List.foldl_cons, List.length_cons]
    lia
theorem strip_loop {b : Nat} (x : Str) (hx : x.length ≤ 500) {Q : Fl → St → Prop} : ∀ (ps : List (Nat × Str)) (st : SS), st.res.length + ps.length ≤ 800 → Q .next (sS x (ps.foldl (stripStep x) st)) →
    Loop2 w (fmOf 3) n b (Str.ofString "pos") (Str.ofString "ch") stripFor Q (ps.map fun p => (.int p.1, .str p.2)) (sS x st)
  | [], st, _, hQ => hQ
  | (p, c) :: ps, st, hl, hQ => by
    simp only [List.length_cons] at hl
    show Sto (fmOf 3) _ _ _ _
    walk_at "m"
    walk_at "m"
    refine strip_turn x st p c (by lia) (by lia) ?_
    have h2 : (stripStep x st (p, c)).res.length ≤ st.res.length + 1 := by
      unfold stripStep
      split
      · split
        · exact Nat.le_succ _
        · dsimp only; split <;> simp
      · exact Nat.le_succ _
    exact strip_loop x hx ps _ (by lia) hQ
noncomputable def stripS (x : Str) : Str :=
  if 34 ∈ x.cps.toList then
    let st := (escN false 0 x.cps.toList).foldl (stripStep x) ⟨0, none, []⟩
    Txt.join (Str.ofString "") (if st.start < x.length then st.res ++ [slE x st.start] else st.res)
  else x
theorem w2_notin {x : Str} {c : Nat} {y : Str} {Q : D → St → Prop} (hy : y = ⟨#[c]⟩) (h : Q (.bool (!(decide (c ∈ x.cps.toList)))) σ) : W2 w F n Val σ (.str y) (.str x) (fun _ u v => compareOp .NotIn u v) Q := by
  rintro os env κ ρ s A E _ _ ok z r ⟨t, rfl⟩ ⟨u, rfl⟩
  subst hy
  refine PyProof.Rows.notIn_str ?_
  rw [PySem.StrLaws.found_one]
  exact po z vB h
theorem strip_jn {x : Str} (hx : x.length ≤ 500) (ys : List Str) (h1 : ∀ r ∈ ys, r.length ≤ x.length) (h2 : ys.length ≤ 501) : (ys.map (·.length)).sum + ys.length * (Str.ofString "").length ≤ 16777216 := by
  have := sum_le (l := ys.map (·.length)) (B := 500) (by intro k hk; obtain ⟨r, hr, rfl⟩ := List.mem_map.mp hk; have := h1 r hr; lia)
  rw [List.length_map] at this
  rw [show (Str.ofString "").length = 0 by decide +kernel]
  have : ys.length * 500 ≤ 501 * 500 := Nat.mul_le_mul_right _ h2
  lia
theorem strip_ret {b : Nat} (x : Str) (st : SS) (hx : x.length ≤ 500) (h1 : ∀ r ∈ st.res, r.length ≤ x.length) (h2 : st.res.length ≤ 501) {Q : Fl → St → Prop} (hQ : Q (.ret (.str (Txt.join (Str.ofString "") st.res))) (sS x st)) : WB w (fmOf 3) n b (sS x st) ((bodyOf 3).drop 6) Q := by
  show WB w (fmOf 3) n b _ (_ :: _) _
  refine wB_cons ?_
  refine wX_Return ?_
  refine wE_Meth (id := "str.join") (by with_unfolding_all rfl) _ (by intro _; with_unfolding_all rfl) ?_
  repeat (walk_at "m")
  refine ⟨gm_join, ?_⟩
  repeat (walk_at "m")
  refine w2_join (by walk_at "m_fd") rfl (strsD_map _) (strip_jn hx _ h1 h2) ?_
  repeat (walk_at "m")
  exact hQ
theorem strip_end {b : Nat} (x : Str) (st : SS) (hx : x.length ≤ 500) (h1 : ∀ r ∈ st.res, r.length ≤ x.length) (h2 : st.res.length ≤ 500) {Q : Fl → St → Prop} (hQ : ∀ σ, Q (.ret (.str (Txt.join (Str.ofString "") (if st.start < x.length then st.res ++ [slE x st.start] else st.res)))) σ) : WB w (fmOf 3) n b (sS x st) ((bodyOf 3).drop 5) Q := by
  show WB w (fmOf 3) n b _ (_ :: _) _
  refine wB_cons ?_
  repeat (walk_at "m")
  refine w1_lenS (by lia) ?_
  repeat (walk_at "m")
  refine ⟨fun hc => ?_, fun hc => ?_⟩
  · have hc' : st.start < x.length := (by have h : ((st.start : Int) < (x.length : Int)) := (by simpa using hc); lia)
    rw [if_pos hc'] at hQ
    repeat (walk_at "m")
    refine wE_Meth (id := "list.append") (by with_unfolding_all rfl) _ (by intro _; with_unfolding_all rfl) ?_
    repeat (walk_at "m")
    refine ⟨gm_append (by walk_at "m_fd") rfl rfl, ?_⟩
    refine wEs_cons (by intro _; with_unfolding_all rfl) ?_
    refine wE_SliceS ?_
    repeat (walk_at "m")
    refine wPa_some ?_
    repeat (walk_at "m")
    refine wPa_none ?_
    refine ⟨x, _, _, rfl, by unfold sizeLine; lia, rfl, rfl, ?_⟩
    repeat (walk_at "m")
    refine w2_append (by walk_at "m_fd") rfl rfl rfl (by show (st.res.map D.str).length ≤ 1000; rw [List.length_map]; lia) ?_
    refine ⟨rfl, ?_⟩
    refine thenB_next (wB_nil ?_)
    refine thenB_next ?_
    have em : st.res.map D.str ++ [D.str (slE x st.start)] = (st.res ++ [slE x st.start]).map D.str := by simp
    show WB w (fmOf 3) n b ⟨lS x st, [], [(0, ⟨"list", st.res.map D.str ++ [D.str (slE x st.start)], false, true⟩)], 1⟩ _ _
    rw [em]
    refine strip_ret x ⟨st.start, st.op, st.res ++ [slE x st.start]⟩ hx ?_ (by simp; lia) (hQ _)
    intro r hr
    rcases List.mem_append.mp hr with h | h
    · exact h1 r h
    · rw [List.mem_singleton.mp h]; exact slice_le _ _ _
  · have hc' : ¬ st.start < x.length := (by have h : ¬ ((st.start : Int) < (x.length : Int)) := (by simpa using hc); lia)
    rw [if_neg hc'] at hQ
    refine wB_nil (thenB_next ?_)
    exact strip_ret x st hx h1 (by lia) (hQ _)
theorem strip_wb (x : Str) (hx : x.length ≤ 500) (he : escF false x.cps.toList = false) : WB w (fmOf 3) (n + 2) 0 ⟨[(Str.ofString "addr", .str x)], [], [], 0⟩ (bodyOf 3) (fun fl σ' => fl = .ret (.str (stripS x))) := by
  refine wB_cons ?_
  repeat (walk_at "m")
  refine w2_notin (c := 34) (by decide +kernel) ?_
  repeat (walk_at "m")
  by_cases hq : 34 ∈ x.cps.toList
  · refine ife_f (by rw [decide_eq_true hq]; rfl) ?_
    repeat (walk_at "m")
    refine wX_For2 (by intro _ _; with_unfolding_all rfl) ?_
    refine wIV_gen (name_is (by decide +kernel) (gf_esc w)) (by with_unfolding_all rfl) ?_
    repeat (walk_at "m")
    refine ⟨x, rfl, by lia, he, ?_⟩
    rw [escD_N]
    have hlen := escN_len x.cps.toList false 0
    have hxl : x.cps.toList.length = x.length := by simp [Str.length]
    refine strip_loop x hx _ ⟨0, none, []⟩ (by simp; lia) ?_
    obtain ⟨f1, f2⟩ := fold_ok x (escN false 0 x.cps.toList) ⟨0, none, []⟩ (fun _ h => nomatch h)
    refine thenB_next (strip_end x _ hx f1 (by simp at f2; lia) fun σ => ?_)
    unfold stripS
    rw [if_pos hq]
  · refine ife_t (by rw [decide_eq_false hq]; rfl) ?_
    repeat (walk_at "m")
    unfold stripS
    rw [if_neg hq]
theorem strip_body : (defAt 3).2.2.1 = bodyOf 3 := by kernel_rfl
theorem strip_bind {md : Value} (vs : List Value) (h : vs.length = 1) : bindArgs (Calls.docDef (defAt 3).1 (defAt 3).2.1 (defAt 3).2.2.1 (defAt 3).2.2.2 md (.ref 44) .none) ⟨vs, []⟩ = pure ([Str.ofString "addr"].zip vs) := by
  obtain ⟨a, rfl⟩ := len1 h
  kernel_rfl
theorem strip_kind : ([Str.ofString "addr"].all fun x => decide ((defAt 3).2.2.2.names.lookup x = some .local) || decide ((defAt 3).2.2.2.names.lookup x = some .cell)) = true := by kernel_rfl
theorem strip_locs (d : D) : locsOf (defAt 3).2.2.2.names ([Str.ofString "addr"].zip [d]) [] = [(Str.ofString "addr", d)] := by kernel_rfl
theorem strip_cels (d : D) : celsOf (defAt 3).2.2.2.names ([Str.ofString "addr"].zip [d]) [] = [] := by kernel_rfl
theorem wL_strip {x : Str} (hx : x.length ≤ 500) (he : escF false x.cps.toList = false) {Q : D → St → Prop} (h : Q (.str (stripS x)) σ) : WL w F (n + 3) Val σ [.str x] (fun _ vs => call (.ref 45) vs) Q := by
  refine wL_call (fa_strip w) (names := [Str.ofString "addr"]) (ks := []) (ds := [.str x]) (dsC := [.str x]) (objsC := []) rfl rfl rfl (fun vs hv => strip_bind vs (by simpa using hv)) strip_kind (strip_locs _) (strip_cels _) ?_
  rw [strip_body]
  refine (strip_wb x hx he).mono fun fl σ' e => ?_
  obtain ⟨q1, q2, q3⟩ := adopt_none (objs := σ'.objs) (σ := σ) (d := .str (stripS x)) rfl h
  exact ⟨_, [], .inl e, q1, q2, q3⟩
end
end
section
section
variable {w : World} {F : Fm} {n : Nat} {σ : St}
noncomputable def chkRun : List (Nat × Str) → Int → Option Int
  | [], o => some o
  | (_, c) :: r, o => if (c.cps.toList == [40]) = true then chkRun r (o + 1) else if (c.cps.toList == [41]) = true then (if o - 1 < 0 then none else chkRun r (o - 1)) else chkRun r o
noncomputable def checkS (x : Str) : Bool := match chkRun (escN false 0 (stripS x).cps.toList) 0 with
  | none => false
  | some o => o == 0
noncomputable def chkFor : List Stmt := match ((bodyOf 4)[2]? : Option Stmt) with | some (Stmt.For _ _ b _ _) => b | _ => []
noncomputable abbrev lC (x : Str) (o : Int) : List (Str × D) := [(Str.ofString "addr", .str x), (Str.ofString "opens", .int o)]
noncomputable abbrev sC (x : Str) (o : Int) : St := ⟨lC x o, [], [], 0⟩
theorem par_o : (Str.ofString "(").cps.toList = [40] := by decide +kernel
theorem par_c : (Str.ofString ")").cps.toList = [41] := by decide +kernel
theorem chk_turn {b : Nat} (x : Str) (o : Int) (pos : Nat) (ch : Str) {Q : Fl → St → Prop}
    (hQ : if (ch.cps.toList == [40]) = true then Q .next (sC x (o + 1)) else if (ch.cps.toList == [41]) = true then (if o - 1 < 0 then ∀ σ, Q (.ret (.bool false)) σ else Q .next (sC x (o - 1))) else Q .next (sC x o)) :
    WB w (fmOf 4) n b ⟨[(Str.ofString "addr", .str x), (Str.ofString "opens", .int o), (Str.ofString "pos", .int pos), (Str.ofString "ch", .str ch)], [], [], 0⟩ chkFor Q := by
  refine WS.weak ?_
  have fin : ∀ (o' : Int), Q .next (sC x o') → ∃ σ₀, St.Sub σ₀ ⟨[(Str.ofString "addr", .str x), (Str.ofString "opens", .int o'), (Str.ofString "pos", .int pos), (Str.ofString "ch", .str ch)], [], [], 0⟩ ∧ Q .next σ₀ := fun o' h =>
    ⟨_, sub_loc (l := lC x o') (m := [(Str.ofString "pos", .int pos), (Str.ofString "ch", .str ch)]) (fun k sp e => ⟨sp, e, .rfl'⟩), h⟩
  show WB w (fmOf 4) n b _ (_ :: _) _
  refine wB_cons ?_
  repeat (walk_at "m")
  refine w2_seq ?_
  rw [par_o]
  repeat (walk_at "m")
  refine ⟨fun hq => ?_, fun hq => ?_⟩
  · rw [if_pos hq] at hQ
    refine wB_cons ?_
    refine wX_Aug (by decide +kernel) (by walk_at "m_lk") ?_
    repeat (walk_at "m")
    refine w2_iadd ?_
    repeat (walk_at "m")
    exact fin _ hQ
  · rw [if_neg (by rw [hq]; exact Bool.false_ne_true)] at hQ
    repeat (walk_at "m")
    refine w2_seq ?_
    rw [par_c]
    repeat (walk_at "m")
    refine ⟨fun hp => ?_, fun hp => ?_⟩
    · rw [if_pos hp] at hQ
      refine wB_cons ?_
      refine wX_Aug (by decide +kernel) (by walk_at "m_lk") ?_
      repeat (walk_at "m")
      refine w2_isub ?_
      repeat (walk_at "m")
      refine ⟨fun hn => ?_, fun hn => ?_⟩
      · rw [if_pos (by simpa using hn)] at hQ
        repeat (walk_at "m")
        exact ⟨_, .refl _, hQ _⟩
      · rw [if_neg (by simpa using hn)] at hQ
        repeat (walk_at "m")
        exact fin _ hQ
    · rw [if_neg (by rw [hp]; exact Bool.false_ne_true)] at hQ
      repeat (walk_at "m")
      exact fin _ hQ
theorem chk_loop {b : Nat} (x : Str) {Q : Fl → St → Prop} : ∀ (ps : List (Nat × Str)) (o : Int), (match chkRun ps o with | none => ∀ σ, Q (.ret (.bool false)) σ | some o' => Q .next (sC x o')) →
    Loop2 w (fmOf 4) n b (Str.ofString "pos") (Str.ofString "ch") chkFor Q (ps.map fun p => (.int p.1, .str p.2)) (sC x o)
  | [], o, hQ => hQ
  | (p, c) :: ps, o, hQ => by
    show Sto (fmOf 4) _ _ _ _
    walk_at "m"
    walk_at "m"
    refine chk_turn x o p c ?_
    unfold chkRun at hQ
    split
    · rename_i h; rw [if_pos h] at hQ; exact chk_loop x ps _ hQ
    · rename_i h
      rw [if_neg h] at hQ
      split
      · rename_i h2
        rw [if_pos h2] at hQ
        split
        · rename_i h3; rw [if_pos h3] at hQ; exact hQ
        · rename_i h3; rw [if_neg h3] at hQ; exact chk_loop x ps _ hQ
      · rename_i h2; rw [if_neg h2] at hQ; exact chk_loop x ps _ hQ
theorem check_wb (x : Str) (hx : x.length ≤ 500) (he : escF false x.cps.toList = false) (hx' : (stripS x).length ≤ 500) (he' : escF false (stripS x).cps.toList = false) : WB w (fmOf 4) (n + 3) 0 ⟨[(Str.ofString "addr", .str x)], [], [], 0⟩ (bodyOf 4) (fun fl σ' => fl = .ret (.bool (checkS x))) := by
  refine wB_cons ?_
  refine wX_Assign (by intro _; with_unfolding_all rfl) ?_
  refine wE_CallF (fa_strip w) (name_is (by decide +kernel) (gf_strip w)) (by with_unfolding_all rfl) ?_
  repeat (walk_at "m")
  refine w1_of (wL_strip hx he ?_)
  repeat (walk_at "m")
  refine wX_For2 (by intro _ _; with_unfolding_all rfl) ?_
  refine wIV_gen (name_is (by decide +kernel) (gf_esc w)) (by with_unfolding_all rfl) ?_
  repeat (walk_at "m")
  refine ⟨stripS x, rfl, by lia, he', ?_⟩
  rw [escD_N]
  refine chk_loop (stripS x) _ 0 ?_
  unfold checkS
  cases hc : chkRun (escN false 0 (stripS x).cps.toList) 0 with
  | none => intro σ; exact thenB_ret rfl
  | some o =>
    show thenB w (fmOf 4) (n + 3) 0 (_ :: _) _ .next _
    repeat (walk_at "m")
    rfl
theorem check_body : (defAt 4).2.2.1 = bodyOf 4 := by kernel_rfl
theorem check_bind {md : Value} (vs : List Value) (h : vs.length = 1) : bindArgs (Calls.docDef (defAt 4).1 (defAt 4).2.1 (defAt 4).2.2.1 (defAt 4).2.2.2 md (.ref 51) .none) ⟨vs, []⟩ = pure ([Str.ofString "addr"].zip vs) := by
  obtain ⟨a, rfl⟩ := len1 h
  kernel_rfl
theorem check_kind : ([Str.ofString "addr"].all fun x => decide ((defAt 4).2.2.2.names.lookup x = some .local) || decide ((defAt 4).2.2.2.names.lookup x = some .cell)) = true := by kernel_rfl
theorem check_locs (d : D) : locsOf (defAt 4).2.2.2.names ([Str.ofString "addr"].zip [d]) [] = [(Str.ofString "addr", d)] := by kernel_rfl
theorem check_cels (d : D) : celsOf (defAt 4).2.2.2.names ([Str.ofString "addr"].zip [d]) [] = [] := by kernel_rfl
theorem wL_check {x : Str} (hx : x.length ≤ 500) (he : escF false x.cps.toList = false) (hx' : (stripS x).length ≤ 500) (he' : escF false (stripS x).cps.toList = false) {Q : D → St → Prop} (h : Q (.bool (checkS x)) σ) : WL w F (n + 4) Val σ [.str x] (fun _ vs => call (.ref 52) vs) Q := by
  refine wL_call (fa_check w) (names := [Str.ofString "addr"]) (ks := []) (ds := [.str x]) (dsC := [.str x]) (objsC := []) rfl rfl rfl (fun vs hv => check_bind vs (by simpa using hv)) check_kind (check_locs _) (check_cels _) ?_
  rw [check_body]
  refine (check_wb x hx he hx' he').mono fun fl σ' e => ?_
  obtain ⟨q1, q2, q3⟩ := adopt_none (objs := σ'.objs) (σ := σ) (d := .bool (checkS x)) rfl h
  exact ⟨_, [], .inl e, q1, q2, q3⟩
end
end
section
section
variable {w : World} {n : Nat}
noncomputable abbrev lP8 (j place : Int) (e : Str) (nx : Nat) : List (Str × D) := [(Str.ofString "wishes", .ref 0), (Str.ofString "free", .ref 1), (Str.ofString "books", .ref 6), (Str.ofString "k", .int j), (Str.ofString "place", .int place), (Str.ofString "way", .ref (nx + 1 + 1)), (Str.ofString "end", .str e), (Str.ofString "sent", .ref (nx + 1 + 1 + 1 + 1 + 1))]
theorem park_b {b : Nat} (k : Nat) (fr : List Int) (ds : List Nat) (bk : List D) (sp : Sp) (tl : List (Nat × Sp)) (nx : Nat) (wish j place : Int) (e : Str) (g1 g2 g3 : Sp) (hnx : 7 ≤ nx) (hk1 : 1 ≤ k) (hk : k ≤ 10) (hl : ds.length = k) (hd : ∀ d ∈ ds, d ≤ 50) (he : e ∈ ends) {Q : Fl → St → Prop}
    (hQ : ∀ (g4 : Sp) (objs' : List (Nat × Sp)), fd objs' 5 = some ⟨"list", rowsD (setsN ds (sentN ds (wayN k wish place))), false, false⟩ →
      (∀ i, i ≠ 5 → fd objs' i = fd ((nx + 1 + 1 + 1 + 1 + 1, ⟨"list", (Str.ofString "o" :: (sentN ds (wayN k wish place)).map fun p => repS 46 p.2).map D.str, true, true⟩) :: (nx + 1 + 1 + 1 + 1, g4) :: (nx + 1 + 1 + 1, g3) :: (nx + 1 + 1, ⟨"list", .int k :: (wayN k wish place).map D.int, true, true⟩) :: (nx + 1, g2) :: (nx, g1) :: oP fr ds bk sp tl) i) →
      WB w (fmOf 20) (n + 1) b ⟨lP8 j place e nx, cP k wish, objs', nx + 1 + 1 + 1 + 1 + 1 + 1⟩ (parkFor.drop 6) Q) :
    WB w (fmOf 20) (n + 1) b ⟨lP5 j place e nx, cP k wish, (nx + 1 + 1 + 1, g3) :: (nx + 1 + 1, ⟨"list", .int k :: (wayN k wish place).map D.int, false, true⟩) :: (nx + 1, g2) :: (nx, g1) :: oP fr ds bk sp tl, nx + 1 + 1 + 1 + 1⟩ (parkFor.drop 4) Q := by
  have hq := queue_len (wish := wish) (place := place) he hk1 hk hl hd
  have hsr := sent_rows (ends_is he).1 (((k : Int) :: wayN k wish place).map (askS ds)) (by simp) (by
    intro r hr
    obtain ⟨o, ho, rfl⟩ := List.mem_map.mp hr
    rcases List.mem_cons.mp ho with rfl | ho
    · exact ask_noEnd (by lia) (by lia)
    · have := way_b hk1 o ho; exact ask_noEnd this.1 (by lia))
  have hsa := sent_all (wish := wish) (place := place) he hk1 hl
  have hwl := way_len (wish := wish) (place := place) hk1
  refine WS.sub (sub_fz [(nx + 1 + 1 + 1, g3)] (nx + 1 + 1) ⟨"list", .int k :: (wayN k wish place).map D.int, false, true⟩ ((nx + 1, g2) :: (nx, g1) :: oP fr ds bk sp tl)) ?_
  show WB w (fmOf 20) (n + 1) b ⟨lP5 j place e nx, cP k wish, (nx + 1 + 1 + 1, g3) :: (nx + 1 + 1, ⟨"list", .int k :: (wayN k wish place).map D.int, true, true⟩) :: (nx + 1, g2) :: (nx, g1) :: oP fr ds bk sp tl, nx + 1 + 1 + 1 + 1⟩ (_ :: _ :: _ :: _) _
  refine wB_cons ?_
  refine wX_Assign (by intro _; with_unfolding_all rfl) ?_
  refine wE_Meth (id := "str.split") (by with_unfolding_all rfl) _ (by intro _; with_unfolding_all rfl) ?_
  refine wE_CallF (fa_quote w) (name_is (by decide +kernel) (gf_quote w)) (by with_unfolding_all rfl) ?_
  refine wEs_cons (by intro _; with_unfolding_all rfl) ?_
  refine wE_Meth (id := "str.join") (by with_unfolding_all rfl) _ (by intro _; with_unfolding_all rfl) ?_
  repeat (walk_at "m")
  refine ⟨gm_join, ?_⟩
  refine wEs_cons (by intro _; with_unfolding_all rfl) ?_
  refine wE_Comp rfl rfl (by decide +kernel) (by intro _ _; with_unfolding_all rfl) ?_
  refine wI_list ?_
  repeat (walk_at "m")
  refine ⟨_, _, rfl, by walk_at "m_fd", rfl, rfl, ?_⟩
  refine ⟨by simp [sizeLine]; lia, ?_⟩
  have ec : celOf [(Str.ofString ".0", NameKind.local), (Str.ofString "one", NameKind.local), (Str.ofString "rows", NameKind.free)] (cP k wish) = [(Str.ofString "rows", .ref 5)] := by kernel_rfl
  dsimp only
  rw [ec]
  have h5 : fd (freezeAll ((nx + 1 + 1 + 1, g3) :: (nx + 1 + 1, ⟨"list", .int k :: (wayN k wish place).map D.int, true, true⟩) :: (nx + 1, g2) :: (nx, g1) :: oP fr ds bk sp tl)) 5 = some ⟨"list", rowsD ds, true, false⟩ := by
    have : fd ((nx + 1 + 1 + 1, g3) :: (nx + 1 + 1, ⟨"list", .int k :: (wayN k wish place).map D.int, true, true⟩) :: (nx + 1, g2) :: (nx, g1) :: oP fr ds bk sp tl) 5 = some ⟨"list", rowsD ds, false, false⟩ := by walk_at "m_fd"
    rw [fd_freeze, this]; rfl
  refine cloop_map (askF ds) (Nat.le_refl _) _ _ _ (.inl rfl) ?_ ?_
  · intro d hd' Q hQ
    have hob : ∃ o : Int, d = .int o ∧ 0 ≤ o ∧ o ≤ ds.length := by
      rcases List.mem_cons.mp hd' with rfl | hd'
      · exact ⟨k, rfl, by lia, by lia⟩
      · obtain ⟨o, ho, rfl⟩ := List.mem_map.mp hd'
        have := way_b hk1 o ho
        exact ⟨o, rfl, this.1, by lia⟩
    obtain ⟨o, rfl, o1, o2⟩ := hob
    repeat (walk_at "m")
    refine w2_item h5 rfl (seqI o1 (by show _ < (((rowsD ds).length : Nat) : Int); rw [rows_len]; lia)) (ask_at o1 o2) ⟨by lia, by lia⟩ ?_
    exact hQ
  · intro l
    have em : (D.int k :: (wayN k wish place).map D.int).map (askF ds) = (((k : Int) :: wayN k wish place).map (askS ds)).map D.str := ask_map ds ((k : Int) :: wayN k wish place)
    rw [List.nil_append, em]
    refine cend_map (cld_no (noRef_str _)) (by simp [sizeLine]; lia) ?_
    repeat (walk_at "m")
    refine w2_join (by walk_at "m_fd") rfl (strsD_map _) (by lia) ?_
    repeat (walk_at "m")
    refine w1_of (wL_quote (by lia) ?_)
    refine ⟨gm_split, ?_⟩
    repeat (walk_at "m")
    refine w2_split (by decide +kernel) ?_ ?_ ?_
    · have h1 := stuff_len (crlf (Txt.join e (((k : Int) :: wayN k wish place).map (askS ds))).cps.toList) true
      have h2 := crlf_len _ (Txt.join e (((k : Int) :: wayN k wish place).map (askS ds))).cps.toList (Nat.le_refl _)
      show ((stuff true (crlf (Txt.join e (((k : Int) :: wayN k wish place).map (askS ds))).cps.toList)).toArray).size ≤ 10000
      rw [List.size_toArray]
      have e3 : (Txt.join e (((k : Int) :: wayN k wish place).map (askS ds))).cps.toList.length = (Txt.join e (((k : Int) :: wayN k wish place).map (askS ds))).length := by simp [Str.length]
      lia
    · exact Nat.le_trans (Nat.le_of_eq (congrArg List.length hsr.2)) (by simp; lia)
    · refine mk_ ?_
      have hst : Txt.split (quoteS (Txt.join e (((k : Int) :: wayN k wish place).map (askS ds)))) (Str.ofString "\r\n") = Str.ofString "o" :: (sentN ds (wayN k wish place)).map fun p => repS 46 p.2 := hsr.1.trans hsa
      rw [hst]
      refine sto_loc (by decide +kernel) (by walk_at "m_setl") ?_
      refine thenB_next ?_
      generalize hg4 : (⟨"list", (((k : Int) :: wayN k wish place).map (askS ds)).map D.str, false, true⟩ : Sp) = g4
      refine WS.sub (sub_fz [] (nx + 1 + 1 + 1 + 1 + 1) ⟨"list", (Str.ofString "o" :: (sentN ds (wayN k wish place)).map fun p => repS 46 p.2).map D.str, false, true⟩ _) ?_
      show WB w (fmOf 20) (n + 1) b ⟨lP8 j place e nx, cP k wish, (nx + 1 + 1 + 1 + 1 + 1, ⟨"list", (Str.ofString "o" :: (sentN ds (wayN k wish place)).map fun p => repS 46 p.2).map D.str, true, true⟩) :: (nx + 1 + 1 + 1 + 1, g4) :: (nx + 1 + 1 + 1, g3) :: (nx + 1 + 1, ⟨"list", .int k :: (wayN k wish place).map D.int, true, true⟩) :: (nx + 1, g2) :: (nx, g1) :: oP fr ds bk sp tl, nx + 1 + 1 + 1 + 1 + 1 + 1⟩ (_ :: _) _
      refine wB_cons ?_
      refine wX_For2 (by intro _ _; with_unfolding_all rfl) ?_
      refine wIV_zip (bltn_is (by decide +kernel) (g_zip _).1 (g_zip _).2) (by with_unfolding_all rfl) ?_
      repeat (walk_at "m")
      refine ⟨_, _, _, _, rfl, by walk_at "m_fd", by walk_at "m_fd", rfl, rfl, rfl, rfl, ?_⟩
      have ez : (D.int k :: (wayN k wish place).map D.int).zip ((Str.ofString "o" :: (sentN ds (wayN k wish place)).map fun p => repS 46 p.2).map D.str) = (.int k, .str (Str.ofString "o")) :: (sentN ds (wayN k wish place)).map fun p => (.int p.1, .str (repS 46 p.2)) := by
        rw [List.map_cons, List.zip_cons_cons]
        congr 1
        unfold sentN
        rw [List.map_map, List.map_map, List.zip_map', List.map_map]
        rfl
      dsimp only
      rw [ez]
      refine zip_all hk rfl rfl (by walk_at "m_lk") _ ds _ hl ?_ (by walk_at "m_fd") ?_
      · intro p hp
        obtain ⟨o, ho, rfl⟩ := List.mem_map.mp hp
        exact way_b hk1 o ho
      · intro objs' q1 q2
        exact thenB_next (hQ g4 objs' q1 q2)
end
end
section
section
variable {w : World} {n : Nat}
theorem rep_dot (d : Nat) : repS 46 d ++ Str.ofString "." = repS 46 (d + 1) := by
  apply Str.ext'
  apply Array.toList_inj.mp
  rw [Str.cps_append, Array.toList_append]
  have : (Str.ofString ".").cps.toList = [46] := by decide +kernel
  rw [this]
  simp only [repS]
  rw [← List.replicate_succ']
theorem end_sub {l l' c c' : List (Str × D)} {fr : List Int} {ds : List Nat} {bk : List D} {sp : Sp} {tl : List (Nat × Sp)} {kx nx : Nat} {ob : List (Nat × Sp)} {sx : Sp} (hl : ∃ m, l' = l ++ m) (hc : ∃ m, c' = c ++ m)
    (h1 : fd ob 1 = some ⟨"list", fr.map D.int, false, true⟩) (h5 : fd ob 5 = some ⟨"list", rowsD ds, false, false⟩) (h6 : fd ob 6 = some ⟨"list", bk, false, true⟩) (h0 : fd ob 0 = some sp) (ht : ∀ k q, fd tl k = some q → fd ob k = some q) : St.Sub ⟨l, c, oP fr ds bk sp tl, nx⟩ ⟨l', c', ob, nx⟩ := by
  obtain ⟨m, rfl⟩ := hl
  obtain ⟨m', rfl⟩ := hc
  exact sub_pre (fd_all ⟨_, h1, .rfl'⟩ (fd_all ⟨_, h5, .rfl'⟩ (fd_all ⟨_, h6, .rfl'⟩ (fd_all ⟨_, h0, .rfl'⟩ fun k q e => ⟨q, ht k q e, .rfl'⟩))))
theorem park_c {b : Nat} (k : Nat) (fr : List Int) (ds : List Nat) (bk : List D) (sp : Sp) (tl : List (Nat × Sp)) (nx : Nat) (wish j place : Int) (e : Str) (hnx : 7 ≤ nx) (hk1 : 1 ≤ k) (hk : k ≤ 10) (hl : ds.length = k) (hd : ∀ d ∈ ds, d ≤ 51) (hb : bk.length ≤ 100) (hp : 0 ≤ place ∧ place < k) (ht : ∀ i q, fd tl i = some q → 7 ≤ i ∧ i < nx) {Q : Fl → St → Prop}
    (hQ : Q .next ⟨lP, [(Str.ofString "size", .int k), (Str.ofString "rows", .ref 5)], oP fr (ds.set place.toNat (ds.getD place.toNat 0 + 1)) (bk ++ [.ref nx]) sp ((nx, ⟨"list", rowsD (ds.set place.toNat (ds.getD place.toNat 0 + 1)), false, true⟩) :: tl), nx + 1⟩) :
    WB w (fmOf 20) (n + 1) b ⟨lP8 j place e (nx - 6), cP k wish, oP fr ds bk sp tl, nx⟩ (parkFor.drop 6) Q := by
  have hpl : place.toNat < ds.length := by lia
  refine WS.weak ?_
  show WB w (fmOf 20) (n + 1) b _ (_ :: _) _
  refine wB_cons ?_
  refine wX_AssignSub (by intro _; with_unfolding_all rfl) ?_
  repeat (walk_at "m")
  refine w2_item (by walk_at "m_fd") rfl (seqI hp.1 (by show _ < (((rowsD ds).length : Nat) : Int); rw [rows_len]; lia)) (rows_at hpl) ⟨by lia, by lia⟩ ?_
  repeat (walk_at "m")
  have hr : (repS 46 (ds.getD place.toNat 0)).length ≤ 51 := by
    have : (repS 46 (ds.getD place.toNat 0)).length = ds.getD place.toNat 0 := by simp [repS, Str.length]
    rw [this, List.getD_eq_getElem?_getD]
    cases e : ds[place.toNat]? with
    | none => simp
    | some d => exact hd d (List.mem_of_getElem? e)
  refine w2_sadd (by rw [show (Str.ofString ".").length = 1 by decide +kernel]; unfold sizeLine; lia) ?_
  rw [rep_dot]
  repeat (walk_at "m")
  refine wL_setItem (by walk_at "m_fd") rfl rfl hp.1 (by rw [rows_len]; lia) (by lia) ?_
  rw [rows_set hpl]
  refine thenB_next ?_
  show WB w (fmOf 20) (n + 1) b ⟨lP8 j place e (nx - 6), cP k wish, oP fr (ds.set place.toNat (ds.getD place.toNat 0 + 1)) bk sp tl, nx⟩ _ _
  generalize hds' : ds.set place.toNat (ds.getD place.toNat 0 + 1) = ds' at hQ ⊢
  repeat (walk_at "m")
  refine wE_Meth (id := "list.append") (by with_unfolding_all rfl) _ (by intro _; with_unfolding_all rfl) ?_
  repeat (walk_at "m")
  refine ⟨gm_append (by walk_at "m_fd") rfl rfl, ?_⟩
  refine wEs_cons (by intro _; with_unfolding_all rfl) ?_
  refine wE_CallT (bltn_is (by decide +kernel) (g_list _).1 (g_list _).2) (by with_unfolding_all rfl) ?_
  repeat (walk_at "m")
  have hl' : (rowsD ds').length ≤ 100 := by rw [← hds', rows_len, List.length_set]; lia
  refine w1_listcopy (by walk_at "m_fd") rfl (by show (rowsD ds').length ≤ 1000; lia) ?_
  refine mk_ ?_
  repeat (walk_at "m")
  refine w2_append (by walk_at "m_fd") rfl rfl rfl (by show bk.length ≤ 1000; lia) ?_
  refine ⟨rfl, thenB_next (wB_nil ⟨_, end_sub (kx := nx) (sx := sp) ⟨_, rfl⟩ ⟨_, rfl⟩ ?_ ?_ ?_ ?_ ?_, hQ⟩)⟩
  · exact fd_upd_ne (by decide) (by walk_at "m_fd")
  · exact fd_upd_ne (by decide) (by walk_at "m_fd")
  · exact fd_upd_eq (sp := ⟨"list", bk, false, true⟩) (by walk_at "m_fd")
  · exact fd_upd_ne (by decide) (by walk_at "m_fd")
  · refine fd_all (fd_upd_ne (beq_ff.mpr (by lia)) fd_here) fun i q hi => ?_
    have := ht i q hi
    refine fd_upd_ne (beq_ff.mpr (by lia)) ?_
    refine fd_next (beq_ff.mpr (by lia)) (fd_next (beq_ff.mpr (by lia)) (fd_next (beq_ff.mpr (by lia)) (fd_next (beq_ff.mpr (by lia)) (fd_next (beq_ff.mpr (by lia)) hi))))
end
end
section
section
variable {w : World} {n : Nat}
theorem sets_le {B : Nat} : ∀ (ps : List (Int × Nat)) (ds : List Nat), (∀ p ∈ ps, p.2 ≤ B) → (∀ d ∈ ds, d ≤ B) → ∀ d ∈ setsN ds ps, d ≤ B
  | [], ds, _, h => h
  | p :: ps, ds, hp, h => sets_le ps (ds.set p.1.toNat p.2) (fun q hq => hp q (List.mem_cons_of_mem _ hq)) fun d hd => by
    rcases List.mem_or_eq_of_mem_set hd with h1 | h1
    · exact h d h1
    · rw [h1]; exact hp p List.mem_cons_self
theorem sent_le {ds : List Nat} (h : ∀ d ∈ ds, d ≤ 50) (way : List Int) : ∀ p ∈ sentN ds way, p.2 ≤ 51 := fun p hp => by
  obtain ⟨o, _, rfl⟩ := List.mem_map.mp hp
  show up (ds.getD o.toNat 0) ≤ 51
  have : ds.getD o.toNat 0 ≤ 50 := by
    rw [List.getD_eq_getElem?_getD]
    cases e : ds[o.toNat]? with
    | none => simp
    | some d => exact h d (List.mem_of_getElem? e)
  unfold up; split <;> lia
noncomputable def okTurn (k : Nat) (fr : List Int) (ds : List Nat) (wish : Int) : Bool :=
  !fr.isEmpty && decide (fr.length ≤ 100) && (decide (0 ≤ fr.getD (ifree fr wish) 0) && decide (fr.getD (ifree fr wish) 0 < k)) && (ds.length == k) && ds.all (fun d => decide (d ≤ 50)) && (decide (-1000 ≤ wish) && decide (wish ≤ 1000))
theorem okTurn_is {k : Nat} {fr : List Int} {ds : List Nat} {wish : Int} (h : okTurn k fr ds wish = true) : fr ≠ [] ∧ fr.length ≤ 100 ∧ (0 ≤ fr.getD (ifree fr wish) 0 ∧ fr.getD (ifree fr wish) 0 < k) ∧ ds.length = k ∧ (∀ d ∈ ds, d ≤ 50) ∧ (-1000 ≤ wish ∧ wish ≤ 1000) := by
  unfold okTurn at h
  simp only [Bool.and_eq_true, decide_eq_true_eq, Bool.not_eq_true', List.all_eq_true, beq_iff_eq] at h
  obtain ⟨⟨⟨⟨⟨h1, h2⟩, h3⟩, h4⟩, h5⟩, h6⟩ := h
  exact ⟨(by intro e; rw [e] at h1; cases h1), h2, h3, h4, h5, h6⟩
theorem park_turn {b : Nat} (k : Nat) (fr : List Int) (ds : List Nat) (bk : List D) (sp : Sp) (tl : List (Nat × Sp)) (nx : Nat) (wish : Int) (hnx : 7 ≤ nx) (hk1 : 1 ≤ k) (hk : k ≤ 10) (hb : bk.length ≤ 100) (ht : ∀ i q, fd tl i = some q → 7 ≤ i ∧ i < nx) (hok : okTurn k fr ds wish = true) {Q : Fl → St → Prop}
    (hQ : Q .next ⟨lP, [(Str.ofString "size", .int k), (Str.ofString "rows", .ref 5)], oP (parkN k fr ds wish).1 (parkN k fr ds wish).2 (bk ++ [.ref (nx + 6)]) sp ((nx + 6, ⟨"list", rowsD (parkN k fr ds wish).2, false, true⟩) :: tl), nx + 7⟩) :
    Sto (fmOf 20) ⟨lP, [(Str.ofString "size", .int k), (Str.ofString "rows", .ref 5)], oP fr ds bk sp tl, nx⟩ (Str.ofString "wish") (.int wish) (fun σ => WB w (fmOf 20) (n + 1) b σ parkFor Q) := by
  obtain ⟨o1, o2, o3, o4, o5, o6⟩ := okTurn_is hok
  walk_at "m"
  refine park_a k fr ds bk sp tl nx wish hnx hk1 hk o1 o2 hb o6 o3 fun j e g1 g2 g3 he => ?_
  refine park_b k _ ds bk sp tl nx wish j _ e g1 g2 g3 hnx hk1 hk o4 o5 he fun g4 objs' q1 q2 => ?_
  unfold parkN at hQ
  dsimp only at hQ
  generalize hpl : fr.getD (ifree fr wish) 0 = place at *
  refine WS.sub (σ := ⟨lP8 j place e nx, cP k wish, oP (fr.eraseIdx (ifree fr wish)) (setsN ds (sentN ds (wayN k wish place))) bk sp tl, nx + 6⟩) (end_sub (kx := 0) (sx := sp) ⟨[], by simp⟩ ⟨[], by simp⟩ ?_ q1 ?_ ?_ ?_) ?_
  · rw [q2 1 (by decide)]; walk_at "m_fd"
  · rw [q2 6 (by decide)]; walk_at "m_fd"
  · rw [q2 0 (by decide)]; walk_at "m_fd"
  · intro i q hi
    have := ht i q hi
    rw [q2 i (by lia)]
    exact fd_next (beq_ff.mpr (by lia)) (fd_next (beq_ff.mpr (by lia)) (fd_next (beq_ff.mpr (by lia)) (fd_next (beq_ff.mpr (by lia)) (fd_next (beq_ff.mpr (by lia)) (fd_next (beq_ff.mpr (by lia)) (fd_next (beq_ff.mpr (by lia)) (fd_next (beq_ff.mpr (by lia)) (fd_next (beq_ff.mpr (by lia)) (fd_next (beq_ff.mpr (by lia)) hi)))))))))
  · have := park_c (w := w) (n := n) (b := b) k (fr.eraseIdx (ifree fr wish)) (setsN ds (sentN ds (wayN k wish place))) bk sp tl (nx + 6) wish j place e (by lia) hk1 hk (by rw [sets_len]; exact o4) (sets_le _ _ (sent_le o5 _) fun d hd => Nat.le_trans (o5 d hd) (by decide)) hb o3 (fun i q hi => by have := ht i q hi; lia) (Q := Q) hQ
    rw [show nx + 6 - 6 = nx by lia] at this
    exact this
end
end
section
section
variable {w : World} {F : Fm} {n : Nat} {σ : St}
noncomputable def parkAll (k : Nat) : List Int → List Int → List Nat → Option (List (List Nat))
  | [], _, _ => some []
  | wish :: ws, fr, ds => if okTurn k fr ds wish = true then (parkAll k ws (parkN k fr ds wish).1 (parkN k fr ds wish).2).map ((parkN k fr ds wish).2 :: ·) else Option.none
structure Books (keys : List Nat) (tl : List (Nat × Sp)) (nx : Nat) (dss : List (List Nat)) : Prop where
  ge : 7 ≤ nx
  tk : ∀ i q, fd tl i = some q → 7 ≤ i ∧ i < nx
  ks : ∀ i ∈ keys, 7 ≤ i ∧ i < nx
  di : distinct keys = true
  at_ : All2 (fun key ds => fd tl key = some ⟨"list", rowsD ds, false, true⟩) keys dss
theorem distinct_snoc : ∀ (l : List Nat) (x : Nat), distinct l = true → (∀ y ∈ l, y ≠ x) → distinct (l ++ [x]) = true
  | [], _, _, _ => rfl
  | y :: l, x, h, hx => by
    simp only [distinct, List.cons_append, Bool.and_eq_true] at h ⊢
    refine ⟨?_, distinct_snoc l x h.2 fun z hz => hx z (List.mem_cons_of_mem _ hz)⟩
    have h1 := h.1
    rw [List.any_append]
    have := hx y List.mem_cons_self
    rw [Bool.not_eq_true'] at h1 ⊢
    rw [h1, List.any_cons, beq_ff.mpr this]; rfl
theorem Books.more {keys : List Nat} {tl : List (Nat × Sp)} {nx : Nat} {dss : List (List Nat)} (h : Books keys tl nx dss) (ds : List Nat) : Books (keys ++ [nx + 6]) ((nx + 6, ⟨"list", rowsD ds, false, true⟩) :: tl) (nx + 7) (dss ++ [ds]) where
  ge := by have := h.ge; lia
  tk := fd_all (P := fun i q => 7 ≤ i ∧ i < nx + 7) (by have := h.ge; lia) fun i q e => by have := h.tk i q e; lia
  ks := fun i hi => by
    rcases List.mem_append.mp hi with h1 | h1
    · have := h.ks i h1; lia
    · have := List.mem_singleton.mp h1; have := h.ge; lia
  di := distinct_snoc _ _ h.di fun y hy => by have := h.ks y hy; lia
  at_ := by
    have key : ∀ {l : List Nat} {m : List (List Nat)}, All2 (fun key ds => fd tl key = some ⟨"list", rowsD ds, false, true⟩) l m → (∀ y ∈ l, y < nx) → All2 (fun key ds' => fd ((nx + 6, ⟨"list", rowsD ds, false, true⟩) :: tl) key = some ⟨"list", rowsD ds', false, true⟩) l m := by
      intro l m hl
      induction hl with
      | nil => intro _; exact .nil
      | cons h1 _ ih => intro hy; exact .cons (fd_next (beq_ff.mpr (by have := hy _ List.mem_cons_self; lia)) h1) (ih fun y hy' => hy y (List.mem_cons_of_mem _ hy'))
    exact (key h.at_ fun y hy => (h.ks y hy).2).append (.cons fd_here .nil)
theorem park_loop {b : Nat} (k : Nat) (sp : Sp) (hk1 : 1 ≤ k) (hk : k ≤ 10) {Q : Fl → St → Prop} : ∀ (ws : List Int) (fr : List Int) (ds : List Nat) (keys : List Nat) (tl : List (Nat × Sp)) (nx : Nat) (dn dss : List (List Nat)), Books keys tl nx dn → keys.length + ws.length ≤ 100 → parkAll k ws fr ds = some dss →
    (∀ fr' ds' keys' tl' nx', Books keys' tl' nx' (dn ++ dss) → Q .next ⟨lP, [(Str.ofString "size", .int k), (Str.ofString "rows", .ref 5)], oP fr' ds' (keys'.map D.ref) sp tl', nx'⟩) →
    Loop w (fmOf 20) (n + 1) b (Str.ofString "wish") parkFor Q (ws.map D.int) ⟨lP, [(Str.ofString "size", .int k), (Str.ofString "rows", .ref 5)], oP fr ds (keys.map D.ref) sp tl, nx⟩
  | [], fr, ds, keys, tl, nx, dn, dss, hB, _, hp, hQ => by
    cases hp
    have := hQ fr ds keys tl nx
    rw [List.append_nil] at this
    exact this hB
  | wish :: ws, fr, ds, keys, tl, nx, dn, dss, hB, hl, hp, hQ => by
    unfold parkAll at hp
    split at hp
    · rename_i hok
      obtain ⟨dss', h1, rfl⟩ := Option.map_eq_some_iff.mp hp
      simp only [List.length_cons] at hl
      refine park_turn k fr ds (keys.map D.ref) sp tl nx wish hB.ge hk1 hk (by rw [List.length_map]; lia) hB.tk hok ?_
      have e : keys.map D.ref ++ [D.ref (nx + 6)] = (keys ++ [nx + 6]).map D.ref := by simp
      rw [e]
      refine park_loop k sp hk1 hk ws _ _ (keys ++ [nx + 6]) _ (nx + 7) (dn ++ [(parkN k fr ds wish).2]) dss' (hB.more _) (by simp; lia) h1 ?_
      intro fr' ds' keys' tl' nx' hB'
      rw [List.append_assoc] at hB'
      exact hQ fr' ds' keys' tl' nx' hB'
    · cases hp
noncomputable def BooksPost (dss : List (List Nat)) : Fl → St → Prop := fun fl σ' => ∃ keys tl nx, Books keys tl nx dss ∧ fl = .ret (.ref 6) ∧ fd σ'.objs 6 = some ⟨"list", keys.map D.ref, false, true⟩ ∧ ∀ i q, fd tl i = some q → fd σ'.objs i = some q
theorem parked_wb (k : Nat) (sp : Sp) (ns : List Int) (dss : List (List Nat)) (ht : sp.ty = "list") (hn : sp.ds = ns.map D.int) (hf : sp.fz = true) (hl : ns.length ≤ 100) (hk1 : 1 ≤ k) (hk : k ≤ 10) (hp : parkAll k ns ((List.range k).map fun (i : Nat) => (i : Int)) (List.replicate k 0) = some dss) :
    WB w (fmOf 20) (n + 1) 1 ⟨[(Str.ofString "wishes", .ref 0)], [(Str.ofString "size", .int k)], [(0, sp)], 1⟩ (bodyOf 20) (BooksPost dss) := by
  refine wB_cons ?_
  repeat (walk_at "m")
  refine ⟨_, _, rfl, okR0 (n := 10) (by decide) hk, ?_⟩
  repeat (walk_at "m")
  refine w2_lmul1 (by walk_at "m_fd") rfl rfl rfl (by lia) (by lia) ?_
  repeat (walk_at "m")
  refine w2_ladd (by walk_at "m_fd") (by walk_at "m_fd") rfl rfl rfl rfl (by simp [sizeLine]; lia) ?_
  repeat (walk_at "m")
  have er : rangeD 0 ((k : Int) - 0).toNat = ((List.range k).map fun (i : Nat) => (i : Int)).map D.int := by
    rw [ar_sub0]; simp [rangeD]
  have ew : List.replicate ((k : Int)).toNat (D.str (Str.ofString "")) ++ [D.str (Str.ofString "o")] = rowsD (List.replicate k 0) := by
    rw [Int.toNat_natCast]
    show _ = (rowsS (List.replicate k 0)).map D.str
    unfold rowsS
    rw [List.map_append, List.map_replicate, List.map_replicate]
    rfl
  refine WS.sub (σ := ⟨lP, [(Str.ofString "size", .int k), (Str.ofString "rows", .ref 5)], oP ((List.range k).map fun (i : Nat) => (i : Int)) (List.replicate k 0) (([] : List Nat).map D.ref) sp [], 7⟩) ⟨rfl, fun _ _ e => e, fun _ _ e => e, ?_⟩ ?_
  · refine fd_all ?_ (fd_all ?_ (fd_all ?_ (fd_all ?_ fd_no)))
    · refine ⟨_, by walk_at "m_fd", ?_⟩
      exact ⟨rfl, er.symm, (fun h => h), fun h => h⟩
    · refine ⟨_, by walk_at "m_fd", ?_⟩
      exact ⟨rfl, ew.symm, (fun h => h), fun _ => rfl⟩
    · refine ⟨_, by walk_at "m_fd", ?_⟩
      exact .rfl'
    · refine ⟨_, by walk_at "m_fd", ?_⟩
      exact .rfl'
  refine' wX_For ?z1 ?z2
  case z1 => intro _ _; with_unfolding_all rfl
  refine wI_list ?_
  repeat (walk_at "m")
  refine ⟨_, _, rfl, by walk_at "m_fd", ht, hf, ?_⟩
  rw [hn]
  refine park_loop k sp hk1 hk ns _ _ [] [] 7 [] dss ⟨Nat.le_refl _, (fun _ _ e => nomatch e), (fun _ h => nomatch h), rfl, .nil⟩ (by simpa using hl) hp ?_
  intro fr' ds' keys' tl' nx' hB
  rw [List.nil_append] at hB
  repeat (walk_at "m")
  refine ⟨keys', tl', nx', hB, rfl, by walk_at "m_fd", fun i q hi => ?_⟩
  have := hB.tk i q hi
  exact fd_next (beq_ff.mpr (by lia)) (fd_next (beq_ff.mpr (by lia)) (fd_next (beq_ff.mpr (by lia)) (fd_next (beq_ff.mpr (by lia)) hi)))
end
end
section
section
variable {w : World} {F : Fm} {n : Nat} {σ : St}
noncomputable def bookO : Nat → List (List Nat) → List (Nat × Sp)
  | _, [] => []
  | b, ds :: r => (b, ⟨"list", rowsD ds, false, true⟩) :: bookO (b + 1) r
noncomputable def refsF (b m : Nat) : List D := (List.range m).map fun i => .ref (b + i)
theorem idx_mem : ∀ (l : List Nat) (k : Nat), k ∈ l → idx l k < l.length
  | [], _, h => by cases h
  | j :: r, k, h => by
    unfold idx
    cases hb : Nat.beq k j with
    | true => simp
    | false =>
      rcases List.mem_cons.mp h with h | h
      · exact absurd h (beq_ff.mp hb)
      · simp only [cond_false, List.length_cons]; have := idx_mem r k h; lia
theorem idx_at {l : List Nat} (hd : distinct l = true) {j k : Nat} (h : l[j]? = some k) : idx l k = j :=
  distinct_inj l hd _ _ _ (idx_get l k (idx_mem l k (List.mem_of_getElem? h))) h
theorem news_books {b : Nat} {all : List Nat} {objs : List (Nat × Sp)} : ∀ {keys : List Nat} {dss : List (List Nat)} (i : Nat), All2 (fun key ds => fd objs key = some ⟨"list", rowsD ds, false, true⟩) keys dss → newsFrom b all objs i keys = bookO (b + i) dss
  | _, _, i, .nil => rfl
  | _, _, i, .cons h1 h2 => by
    simp only [newsFrom, bookO, h1, Option.getD_some]
    rw [news_books (i + 1) h2]
    have : ∀ ds, (rowsD ds).map (ren all b) = rowsD ds := fun ds => (ren_no (noRef_str (rowsS ds))).1
    simp only [renSp, this]
    rfl
theorem refs_ren {b : Nat} {keys : List Nat} (hd : distinct (6 :: keys) = true) : (keys.map D.ref).map (ren (6 :: keys) b) = refsF (b + 1) keys.length := by
  refine List.ext_getElem (by simp [refsF]) fun j h1 h2 => ?_
  have hj : j < keys.length := by simpa using h1
  have hk : (6 :: keys)[j + 1]? = some keys[j] := by simp [hj]
  simp only [List.getElem_map, ren, refsF, List.getElem_range, idx_at hd hk]
  congr 1; lia
theorem adopt_books {objs : List (Nat × Sp)} {keys : List Nat} {tl : List (Nat × Sp)} {nx : Nat} {dss : List (List Nat)} {Q : D → St → Prop} (hB : Books keys tl nx dss) (h6 : fd objs 6 = some ⟨"list", keys.map D.ref, false, true⟩) (ht : ∀ i q, fd tl i = some q → fd objs i = some q)
    (hQ : Q (.ref σ.nx) ⟨σ.loc, σ.cel, (σ.nx, ⟨"list", refsF (σ.nx + 1) dss.length, false, true⟩) :: (bookO (σ.nx + 1) dss ++ σ.objs), σ.nx + (dss.length + 1)⟩) :
    pickOk (6 :: keys) objs = true ∧ refIn (6 :: keys) (.ref 6) = true ∧ Q (ren (6 :: keys) σ.nx (.ref 6)) (σ.adopt (6 :: keys) objs) := by
  have hd : distinct (6 :: keys) = true := by
    simp only [distinct, Bool.and_eq_true, Bool.not_eq_true', List.any_eq_false]
    refine ⟨fun x hx => ?_, hB.di⟩
    have := hB.ks x hx
    rw [Bool.not_eq_true]; exact beq_ff.mpr (by lia)
  have hA : All2 (fun key ds => fd objs key = some ⟨"list", rowsD ds, false, true⟩) keys dss := hB.at_.imp fun a b h => ht _ _ h
  have hmem : ∀ key ∈ keys, ∃ ds, fd objs key = some ⟨"list", rowsD ds, false, true⟩ := by
    have : ∀ {l : List Nat} {m : List (List Nat)}, All2 (fun key ds => fd objs key = some ⟨"list", rowsD ds, false, true⟩) l m → ∀ key ∈ l, ∃ ds, fd objs key = some ⟨"list", rowsD ds, false, true⟩ := by
      intro l m h
      induction h with
      | nil => intro _ h; cases h
      | cons h1 _ ih => intro key hk; rcases List.mem_cons.mp hk with rfl | hk; exact ⟨_, h1⟩; exact ih key hk
    exact this hA
  refine ⟨?_, ?_, ?_⟩
  · simp only [pickOk, Bool.and_eq_true]
    refine ⟨hd, List.all_eq_true.mpr fun key hk => ?_⟩
    rcases List.mem_cons.mp hk with rfl | hk
    · rw [h6]
      simp only [Bool.not_false, Bool.true_and]
      refine List.all_eq_true.mpr fun d hd' => ?_
      obtain ⟨y, hy, rfl⟩ := List.mem_map.mp hd'
      exact Nat.ble_eq_true_of_le (idx_mem _ _ (List.mem_cons_of_mem _ hy))
    · obtain ⟨ds, h⟩ := hmem key hk
      rw [h]
      simp only [Bool.not_false, Bool.true_and]
      exact (ren_no (b := 0) (noRef_str _)).2
  · exact Nat.ble_eq_true_of_le (idx_mem _ _ List.mem_cons_self)
  · have e1 : ren (6 :: keys) σ.nx (.ref 6) = .ref σ.nx := by
      simp only [ren, idx_at hd (j := 0) (k := 6) rfl, Nat.add_zero]
    have e2 : σ.adopt (6 :: keys) objs = ⟨σ.loc, σ.cel, (σ.nx, ⟨"list", refsF (σ.nx + 1) dss.length, false, true⟩) :: (bookO (σ.nx + 1) dss ++ σ.objs), σ.nx + (dss.length + 1)⟩ := by
      simp only [St.adopt, newsFrom, h6, Option.getD_some, renSp, refs_ren hd, List.length_cons, hA.len, List.cons_append]
      rw [news_books 1 hA]
      rfl
    rw [e1, e2]
    exact hQ
theorem parked_body : (defAt 20).2.2.1 = bodyOf 20 := by kernel_rfl
theorem parked_bind {md : Value} (vs : List Value) (h : vs.length = 2) : bindArgs (Calls.docDef (defAt 20).1 (defAt 20).2.1 (defAt 20).2.2.1 (defAt 20).2.2.2 md (.ref 160) .none) ⟨vs, []⟩ = pure ([Str.ofString "wishes", Str.ofString "size"].zip vs) := by
  obtain ⟨a, b, rfl⟩ := len2 h
  kernel_rfl
theorem parked_kind : ([Str.ofString "wishes", Str.ofString "size"].all fun x => decide ((defAt 20).2.2.2.names.lookup x = some .local) || decide ((defAt 20).2.2.2.names.lookup x = some .cell)) = true := by kernel_rfl
theorem parked_locs (a b : D) : locsOf (defAt 20).2.2.2.names ([Str.ofString "wishes", Str.ofString "size"].zip [a, b]) [] = [(Str.ofString "wishes", a)] := by kernel_rfl
theorem parked_cels (a b : D) : celsOf (defAt 20).2.2.2.names ([Str.ofString "wishes", Str.ofString "size"].zip [a, b]) [] = [(Str.ofString "size", b)] := by kernel_rfl
theorem wL_parked {k j : Nat} {sp : Sp} {ns : List Int} {dss : List (List Nat)} (hj : fd σ.objs j = some sp) (ht : sp.ty = "list") (hn : sp.ds = ns.map D.int) (hl : ns.length ≤ 100) (hk1 : 1 ≤ k) (hk : k ≤ 10) (hp : parkAll k ns ((List.range k).map fun (i : Nat) => (i : Int)) (List.replicate k 0) = some dss) {Q : D → St → Prop}
    (h : Q (.ref σ.nx) ⟨σ.loc, σ.cel, (σ.nx, ⟨"list", refsF (σ.nx + 1) dss.length, false, true⟩) :: (bookO (σ.nx + 1) dss ++ σ.objs), σ.nx + (dss.length + 1)⟩) :
    WL w F (n + 2) Val σ [.ref j, .int k] (fun _ vs => call (.ref 161) vs) Q := by
  obtain ⟨a1, a2⟩ := arg_one hj (by rw [hn]; exact noRef_int _)
  refine wL_call (fa_parked w) (names := [Str.ofString "wishes", Str.ofString "size"]) (ks := [j]) (ds := [.ref j, .int k]) (dsC := [.ref 0, .int k]) (objsC := [(0, { sp with fz := true })]) (a2 _ (by simp [noRef])) (by simp [ren, idx]) a1 (fun vs hv => parked_bind vs (by simpa using hv)) parked_kind (parked_locs _ _) (parked_cels _ _) ?_
  rw [parked_body]
  refine (parked_wb k { sp with fz := true } ns dss ht hn rfl hl hk1 hk hp).mono fun fl σ' ⟨keys, tl, nx, hB, e1, e2, e3⟩ => ?_
  obtain ⟨q1, q2, q3⟩ := adopt_books hB e2 e3 h
  exact ⟨.ref 6, _, .inl e1, q1, q2, q3⟩
end
end
section
section
variable {w : World} {F : Fm} {n : Nat} {σ : St}
theorem ints_are {ρ : Km} : ∀ {ns : List Int} {vs : List Value}, All2 (Val ρ) (ns.map D.int) vs → IntsAre vs ns
  | [], _, h => by cases h; exact .nil
  | i :: ns, _, h => by
    cases h with
    | cons h1 h2 => obtain ⟨t, rfl⟩ := h1; exact .cons _ _ (ints_are h2)
theorem w1_sum {k : Nat} {sp : Sp} {ns : List Int} {Q : D → St → Prop} (hk : fd σ.objs k = some sp) (ht : sp.ty = "list") (hn : sp.ds = ns.map D.int) (h : Q (.int ns.sum) σ) : W1 w F n Val σ (.ref k) (fun _ v => call (.builtin "sum") [v]) Q := by
  rintro os env κ ρ s A E v ok z r hv
  obtain ⟨a, vs, rfl, _, h1, h2⟩ := z.list hk ht hv
  rw [hn] at h2
  have hi := ints_are h2
  obtain ⟨xs, e⟩ := hi.allInts.items
  have hns : ns = xs.toList.map (·.1) := by rw [← hi.numsOf, ← nums_intItems, ← e]
  rw [e] at h1
  refine sum_intListG r.h h1 fun h' tk t' hk => ?_
  have z' : Z w os env F.cw κ ρ σ { s with heap := h', toks := tk } := z.heap hk
  rw [preSum_eq, List.take_of_length_le (by simp), ← hns]
  exact po z' vI h
theorem w1_min {k : Nat} {sp : Sp} {ns : List Int} {Q : D → St → Prop} (hk : fd σ.objs k = some sp) (ht : sp.ty = "list") (hn : sp.ds = ns.map D.int) (hne : 0 < ns.length) (h : ∀ M, M ∈ ns → (∀ a ∈ ns, M ≤ a) → Q (.int M) σ) : W1 w F n Val σ (.ref k) (fun _ v => call (.builtin "min") [v]) Q := by
  rintro os env κ ρ s A E v ok z r hv
  obtain ⟨a, vs, rfl, _, h1, h2⟩ := z.list hk ht hv
  rw [hn] at h2
  have hi := ints_are h2
  obtain ⟨xs, e⟩ := hi.allInts.items
  have hns : ns = xs.toList.map (·.1) := by rw [← hi.numsOf, ← nums_intItems, ← e]
  have hsz : 0 < xs.size := by
    have h3 := hne; rw [hns, List.length_map, Array.length_toList] at h3; exact h3
  rw [e] at h1
  refine min_intList r.h h1 hsz fun v h' tk hv hk => ?_
  have z' : Z w os env F.cw κ ρ σ { s with heap := h', toks := tk } := z.heap hk
  obtain ⟨t, rfl⟩ := intItems_at hv
  obtain ⟨h1, h2⟩ := argBest_lt (numAt xs) (xs.size - 1)
  refine po z' vI (h _ ?_ fun a ha => ?_)
  · rw [hns, numAt_eq]; exact getD_mem (by rw [List.length_map, Array.length_toList]; lia)
  · rw [hns] at ha
    obtain ⟨j, hj, rfl⟩ := mem_getD ha
    rw [List.length_map, Array.length_toList] at hj
    rw [← numAt_eq]; exact h2 j (by lia)
theorem w2_lne {j k : Nat} {sp sp' : Sp} {xs : List Str} {Q : D → St → Prop} (hj : fd σ.objs j = some sp) (ht : sp.ty = "list") (hn : sp.ds = xs.map D.str) (hk : fd σ.objs k = some sp') (ht' : sp'.ty = "list") (hn' : sp'.ds = xs.map D.str) (h : Q (.bool false) σ) :
    W2 w F n Val σ (.ref j) (.ref k) (fun _ u v => compareOp .NotEq u v) Q := by
  rintro os env κ ρ s A E u v ok z r hu hv
  obtain ⟨a, vs, rfl, _, h1, h2⟩ := z.list hj ht hu
  obtain ⟨b, us, rfl, _, h3, h4⟩ := z.list hk ht' hv
  rw [hn] at h2
  rw [hn'] at h4
  have hl1 := h2.len
  have hl2 := h4.len
  have key : ∀ j (a1 : j < vs.toArray.size) (a2 : j < us.toArray.size), SeqAt.EqAt A.in1 s vs.toArray[j] us.toArray[j] ((fun _ => true) j) := fun j a1 a2 => by
    simp only [List.size_toArray] at a1 a2
    have b1 : vs[j]? = some vs[j] := List.getElem?_eq_getElem a1
    have b2 : us[j]? = some us[j] := List.getElem?_eq_getElem a2
    obtain ⟨d, c1, c2⟩ := h2.get' b1
    obtain ⟨d', c3, c4⟩ := h4.get' b2
    rw [c1] at c3; cases c3
    rw [List.getElem?_map] at c1
    obtain ⟨x, _, rfl⟩ := Option.map_eq_some_iff.mp c1
    obtain ⟨t, c5⟩ := c2
    obtain ⟨t', c6⟩ := c4
    have := SeqAt.EqAt.str_str (A := A.in1) (s := s) x t x t'
    simp only [List.getElem_toArray, c5, c6]
    rw [beq_self_eq_true] at this
    exact this
  have hu : A.units < cLine := by have := r.u; lia
  refine EqBoolInt.of_rcne (k := false) ?_ (po z vB h)
  have ea : (!(List.range vs.toArray.size).all fun _ => true) = false := by rw [List.all_eq_true.mpr (fun _ _ => rfl)]; rfl
  have := SeqAt.RcNeAt.lists (A := A) (s := s) (e := fun _ => true) h1 h3 (by simp only [List.size_toArray]; lia) hu key
  rw [ea] at this
  exact this
end
end
section
noncomputable def CLoop2 (w : World) (F : Fm) (n : Nat) (b : Nat) (x x' : Str) (elt : Expr) (K : List D → St → Prop) : List D → List D → St → Prop
  | [], acc, σ => K acc σ
  | it :: r, acc, σ => b ≤ σ.nx ∧ ∃ k sp d e, it = .ref k ∧ fd σ.objs k = some sp ∧ sp.ty = "tuple" ∧ sp.ds = [d, e] ∧ WE w F n { σ with loc := setl (setl σ.loc x d) x' e } elt (fun y σ₂ => CLoop2 w F n b x x' elt K r (acc ++ [y]) σ₂)
section
variable {w : World} {n b : Nat}
theorem comp_loop2 {F' : Fm} {b₁ : Nat} {cenv : Env} {A : Around} {os : Og} {x x' : Str} {px px' tpos pos : Pos} {tk : Nat} {elt iter : Expr} {scope : Scope} {I Dd : Addr} {fp wr : List Addr} {P : Nat → Value → Prop} {St' : Nat → Heap → Prop} {ds : List D} {κ₀ : Kp} {ρ₁ : Km} {σc : St} {s : Shared} {RR : Result → Shared → Prop} {K : List D → St → Prop}
    (ok : F'.Ok cenv) (hcw : F'.cw = false) (r : Room n A) (W : Walks pw w A I fp wr ds.length P St') (hx : F'.names.lookup x = some .local) (hx' : F'.names.lookup x' = some .local) (hLI : ∀ i h, St' i h → ∃ l j, h.IsListIter I l j)
    (z : Z w os cenv false κ₀ ρ₁ σc s) (hb : b₁ = σc.nx) (hst : St' 0 s.heap) (hacc : s.heap.PlainList Dd #[]) (hlen : ds.length ≤ sizeLine)
    (hP : ∀ i v, i < ds.length → P i v → ∃ d, ds[i]? = some d ∧ Val ρ₁ d v) (hlive : ∀ i h, St' i h → ∀ a ∈ fp, ∃ o, h.get? a = some o)
    (hfp : ∀ a ∈ fp, a ≠ cenv.locals ∧ a ≠ Dd) (hwr : ∀ a ∈ wr, Apart cenv κ₀ ρ₁ a) (hD : Apart cenv κ₀ ρ₁ Dd) (hfz : ∀ k sp, fd σc.objs k = some sp → sp.fz = true)
    (hL : CLoop2 w F' n b₁ x x' elt K ds [] σc)
    (hR : ∀ s' ρe σe acc vals, Z w os cenv false κ₀ ρe σe s' → s'.heap.PlainList Dd vals.toArray → All2 (Val ρe) acc vals → K acc σe → (∀ k, k < b₁ → ρe k = ρ₁ k) → (∀ k, ρe k ≠ some Dd) → RR (.ok .next) s') :
    codeAny (model pw w) A (.compLoop (.ListComp elt [⟨.Tuple [.Name x px, .Name x' px'] tk tpos, iter, [], 0⟩] scope pos) 0 (.ref I) (.ref Dd) cenv) RR s := by
  refine LCp.codeAny_compLoop_pair (CInv w F' os cenv κ₀ ρ₁ b₁ ds (CLoop2 w F' n b₁ x x' elt K) fp Dd St') ?_ ds.length
    ⟨ρ₁, σc, 0, ds, [], [], rfl, Nat.zero_add _, rfl, hL, fun _ _ => rfl, fun k a hk e => absurd (z.lt k a e).1 (Nat.not_lt.mpr (hb ▸ hk)), z, hst, hacc, .nil, rfl, fun k sp a e1 e2 _ => by rw [hfz k sp e1] at e2; cases e2⟩
  rintro m s' ⟨ρ₂, σ₂, i, rest, acc, vals, e1, e2, em, hL, e4, e5, z₂, hst, hacc, hA, hai, hunf⟩
  have hap : ∀ a ∈ wr, Apart cenv κ₀ ρ₂ a := apart_next hwr W.sub e4 fun k a hk e => (e5 k a hk e).1
  have hDw : Dd ∉ wr := fun h => (hfp _ (W.sub _ h)).2 rfl
  cases rest with
  | nil =>
    have hi : i = ds.length := e2
    refine W.done s' _ _ (hi ▸ hst) fun h' tk hk => ?_
    have z₃ : Z w os cenv false κ₀ ρ₂ σ₂ { s' with heap := h', toks := tk } := z₂.grownBut (s' := { s' with heap := h', toks := tk }) hap hk rfl z₂.gens
    exact hR _ ρ₂ σ₂ acc vals z₃ (hacc.at fun o e => hk Dd o hDw e) hA hL e4 (dr_next hD.r e4 e5)
  | cons d rest =>
    obtain ⟨hdi, hil, hdr⟩ := dropAt1 e1
    refine W.item i s' _ _ hil hst fun v h' tk hPv hst' hk => ?_
    have z₃ : Z w os cenv false κ₀ ρ₂ σ₂ { s' with heap := h', toks := tk } := z₂.grownBut (s' := { s' with heap := h', toks := tk }) hap hk rfl z₂.gens
    obtain ⟨d', hd', hV⟩ := hP i v hil hPv
    rw [hdi] at hd'; cases hd'
    have hV₂ : Val ρ₂ d v := hV.mono fun k a e => (e4 k (hb ▸ (z.lt k a e).1)).trans e
    have hft : ∀ a ∈ (Dd :: fp), Foot cenv false ρ₂ σ₂ a :=
      in_cons ⟨hD.l, (fun h => nomatch h), fun k sp q1 q2 q3 => (hunf k sp Dd q1 q2 q3).2 rfl⟩ fun a ha => ⟨(hfp a ha).1, (fun h => nomatch h), fun k sp q1 q2 q3 => (hunf k sp a q1 q2 q3).1 ha⟩
    obtain ⟨hnx, kk, sp, d₁, e₁, rfl, hk1, hk2, hk3, hB⟩ := hL
    obtain ⟨aT, vsT, rfl, _, hT, hA2⟩ := z₃.tup hk1 hk2 hV₂
    rw [hk3] at hA2
    obtain ⟨u₁, _, rfl, hV1, hA3⟩ := hA2.c
    obtain ⟨u₂, _, rfl, hV2, hA4⟩ := hA3.c
    cases hA4.n
    obtain ⟨lI, jI, hLi⟩ := hLI _ _ hst'
    refine wpAny_letOwnedTupleGo_listiter hLi ?_
    refine assign_Tuple_tuple r.h hT rfl rfl fun h₃ he => ?_
    have he' : ∀ b o, h'.get? b = some o → h₃.get? b = some o := fun b o e => he b o (Nat.ne_of_lt (Heap.lt_size e)) e
    have z₃ : Z w os cenv false κ₀ ρ₂ σ₂ { s' with heap := h₃, toks := tk } := z₃.grown (s' := { s' with heap := h₃, toks := tk }) he' rfl z₃.gens
    have hst' : St' (i + 1) h₃ := W.frame _ _ _ hst' fun a _ o e => he' a o e
    have hk : ∀ b o, b ∉ wr → s'.heap.get? b = some o → h₃.get? b = some o := fun b o hb e => he' b o (hk b o hb e)
    have hset : SetTo F' σ₂ x d₁ { σ₂ with loc := setl σ₂.loc x d₁ } := .inl ⟨hx, rfl⟩
    have hset' : SetTo F' { σ₂ with loc := setl σ₂.loc x d₁ } x' e₁ { σ₂ with loc := setl (setl σ₂.loc x d₁) x' e₁ } := .inl ⟨hx', rfl⟩
    have z₄' : Z w os cenv F'.cw (kx κ₀ (Dd :: fp) h₃) ρ₂ σ₂ { s' with heap := h₃, toks := tk } := by rw [hcw]; exact z₃.kmore hft
    show wpAny _ A (assignInOrder [assign (.Name x px) cenv, assign (.Name x' px') cenv] [u₁, u₂]) _ _ _
    refine assignInOrder_cons (PyProof.Rows.assign_Name (store_ ok z₄' hV1 hset fun s₅ z₅ => ?_))
    refine assignInOrder_cons (PyProof.Rows.assign_Name (store_ ok z₅ hV2 hset' fun s₅ z₅ => assignInOrder_nil ?_))
    refine wpAny_mono (hB os cenv _ ρ₂ s₅ A _ ok z₅ r) (fun y s₆ h₆ => ?_) fun _ _ x => x
    obtain ⟨ρ₇, yd, σ₇, k1, k2, k3, k4, k5⟩ := h₆
    rw [hcw] at k4
    have hlive' : ∀ a ∈ (Dd :: fp), ∃ o, h₃.get? a = some o :=
      in_cons (by obtain ⟨q, hq⟩ := hacc; exact ⟨_, hk _ _ hDw hq⟩) (hlive (i + 1) h₃ hst')
    have e4' : ∀ k, k < b₁ → ρ₇ k = ρ₁ k := fun k hk => (k2.1 k (Nat.lt_of_lt_of_le hk hnx)).trans (e4 k hk)
    have hnw : Nw σ₂.nx (kx κ₀ (Dd :: fp) h₃) ρ₇ := k2.2 fun k a hk e => absurd (z₂.lt k a e).1 (Nat.not_lt.mpr hk)
    have e5' : ∀ k a, b₁ ≤ k → ρ₇ k = some a → a ∉ fp ∧ a ≠ Dd := fun k a hk e => by
      by_cases h2 : k < σ₂.nx
      · exact e5 k a hk ((k2.1 k h2).symm.trans e)
      · exact not_cons (kx_none hlive' (hnw k a (Nat.le_of_not_lt h2) e)).2
    have z₇ : Z w os cenv false κ₀ ρ₇ σ₇ s₆ := k4.kless (kx_keep z₃.keep) z₃.top
    have hst7 : St' (i + 1) s₆.heap := W.frame _ _ _ hst' fun a ha o e => k4.keep a o (kx_in (List.mem_cons_of_mem _ ha) e)
    have hacc7 : s₆.heap.PlainList Dd vals.toArray := (hacc.at fun o e => hk Dd o hDw e).at fun o e => k4.keep Dd o (kx_in List.mem_cons_self e)
    have hA7 : All2 (Val ρ₇) acc vals := hA.imp fun _ _ y => y.mono fun k a e => (k2.1 k (z₂.lt k a e).1).trans e
    have hDr7 := dr_next hD.r e4' e5'
    refine wpAny_list_append_plain hacc7 (fun h₈ hl₈ hs₈ => ?_) (by rw [List.size_toArray, ← hA.len, hai]; exact Nat.le_trans (Nat.le_of_lt hil) hlen)
    have z₈ : Z w os cenv false κ₀ ρ₇ σ₇ { s₆ with heap := h₈ } := z₇.grownBut (s' := { s₆ with heap := h₈ }) (wr := [Dd]) (in_cons ⟨hD.k, hD.l, hD.c, hDr7⟩ fun _ h => nomatch h) (fun b o hb e => hs₈.extBut b o (fun h => hb (h ▸ List.mem_cons_self)) e) rfl z₇.gens
    refine ⟨rest.length, em ▸ Nat.lt_succ_self _, ρ₇, σ₇, i + 1, rest, acc ++ [yd], vals ++ [y], hdr, rest_len e2, rfl, k5, e4', e5', z₈, W.frame _ _ _ hst7 fun a ha o e => hs₈.extBut a o (hfp a ha).2 e, ?_, hA7.append (.cons k3 .nil), by rw [List.length_append, hai]; rfl, fun k sp a q1 q2 q3 => ?_⟩
    · rw [← List.push_toArray]; exact hl₈
    · obtain ⟨c, p1, _, p3⟩ := k4.obj k sp q1
      rw [q3] at p1; cases p1
      exact not_cons (kx_none hlive' (p3 q2)).2
end
noncomputable def compOk2 (N O : List (Str × NameKind)) (x x' : Str) : Bool := compOk N O x && decide (N.lookup x' = some .local)
inductive IterPP (w : World) (F : Fm) (os : Og) (env : Env) (κ : Kp) (ρ : Km) (b : Nat) (A : Around) (Q : List D → St → Prop) (it : Value) (s₂ : Shared) : Prop
  | mk (ρ' : Km) (ds : List D) (σ' : St) (I : Addr) (fp wr : List Addr) (P : Nat → Value → Prop) (St' : Nat → Heap → Prop) (h1 : it = .ref I) (h2 : b ≤ σ'.nx) (h3 : EqB b κ ρ ρ') (h4 : Z w os env F.cw κ ρ' σ' s₂) (h5 : Walks pw w A I fp wr ds.length P St') (h6 : St' 0 s₂.heap)
    (h7 : ∀ i v, i < ds.length → P i v → ∃ d, ds[i]? = some d ∧ Val ρ' d v) (h8 : ∀ i h, St' i h → ∀ a ∈ fp, ∃ o, h.get? a = some o) (h9 : ∀ a ∈ fp, Foot env F.cw ρ' σ' a) (h10 : ∀ a ∈ wr, Apart env κ ρ' a) (h11 : ∀ i h, St' i h → ∃ l j, h.IsListIter I l j) (h12 : Q ds σ')
noncomputable def WIP (w : World) (F : Fm) (n : Nat) (σ : St) (e : Expr) (Q : List D → St → Prop) : Prop :=
  ∀ os env κ ρ s A (E : Value → Shared → Prop), F.Ok env → Z w os env F.cw κ ρ σ s → Room n A → wpAny (model pw w) A (eval e env) (fun x s₁ => wpAny (model pw w) A (pyIter x) (IterPP w F os env κ ρ σ.nx A Q) E s₁) E s
section
variable {w : World} {F : Fm} {n b : Nat} {σ : St}
theorem wIP_list {e : Expr} {Q : List D → St → Prop} (h : WE w F n σ e (fun d σ₁ => ∃ k sp, d = .ref k ∧ fd σ₁.objs k = some sp ∧ sp.ty = "list" ∧ sp.fz = true ∧ Q sp.ds σ₁)) : WIP w F n σ e Q := by
  intro os env κ ρ s A E ok z r
  refine wpAny_mono (h os env κ ρ s A E ok z r) (fun v s₁ h₁ => ?_) fun _ _ x => x
  obtain ⟨ρ₁, d, σ₁, g1, g2, g3, g4, k, sp, rfl, e1, e2, e3, g5⟩ := h₁
  obtain ⟨a, vs, rfl, hr, hl, hA⟩ := g4.list e1 e2 g3
  have hI : Apart env κ ρ₁ s₁.heap.objs.size := g4.apart noneAt
  have hne : a ≠ s₁.heap.objs.size := fun h => hI.r k (h ▸ hr)
  refine wpAny_pyIter_list hl ?_
  have W := Walks.list (prog := pw) (w := w) r.h s₁.heap.objs.size a hne vs.toArray
  rw [show vs.toArray.size = sp.ds.length by rw [List.size_toArray, hA.len]] at W
  refine ⟨ρ₁, sp.ds, σ₁, _, _, _, _, _, rfl, g1, g2, g4.push _, W, ⟨⟨_, Heap.get?_push_size _ rfl, rfl, rfl⟩, hl.push _⟩, ?_, ?_, ?_, ?_, fun i h st => ⟨_, _, st.1⟩, g5⟩
  · intro i v _ hv
    exact hA.get' (by simpa using hv)
  · intro i h st b hm
    simp at hm
    rcases hm with rfl | rfl
    · obtain ⟨o, ho, _⟩ := st.1; exact ⟨o, ho⟩
    · obtain ⟨o, ho, _⟩ := st.2; exact ⟨o, ho⟩
  · intro b hm
    simp at hm
    rcases hm with rfl | rfl
    · exact hI.foot
    · obtain ⟨q1, q2, q3⟩ := g4.lt k b hr
      refine ⟨q2, fun _ x c e h => (g4.cc x c e).2.2.1 k (h ▸ hr), fun j sp' f1 f2 f3 => ?_⟩
      have := g4.inj _ _ _ f3 hr
      subst this
      rw [e1] at f1; cases f1
      rw [e3] at f2; cases f2
  · intro b hm
    simp at hm; subst hm; exact hI
theorem comp_core2 {elt iter : Expr} {x x' : Str} {px px' tpos : Pos} {tk : Nat} {scope : Scope} {pos : Pos} {Q : D → St → Prop} {use : Option (Value → Sem Unit)} {Post : Value → Shared → Prop}
    {os : Og} {env : Env} {κ : Kp} {ρ : Km} {s : Shared} {A : Around} {E : Value → Shared → Prop} (ok : F.Ok env) (z : Z w os env F.cw κ ρ σ s) (r : Room n A) (hcw : F.cw = true) (hkind : scope.kind = .function) (hc : compOk2 scope.names F.names x x' = true)
    (hs : ∀ v, foldedSetIterable iter env v = pure v)
    (h : WIP w F n σ iter (fun ds σ₁ => ds.length ≤ sizeLine ∧ CLoop2 w (fmC scope.names F.names) n σ₁.nx x x' elt (CEnd σ₁ Q) ds [] ⟨[], celOf scope.names σ₁.cel, freezeAll σ₁.objs, σ₁.nx⟩))
    (hF : ∀ ρ'' σ'' C Dd k s' m, σ.nx ≤ σ''.nx → EqB σ.nx κ ρ ρ'' → Z w os env F.cw κ ρ'' σ'' s' → Val ρ'' k (.ref Dd) → Apart env κ ρ'' C → s'.heap.Ns C m → Q k σ'' → compPost (model pw w) A E use Post (.ref Dd) C (.ok .next) s') :
    wpAny (model pw w) A (comprehension (.ListComp elt [⟨.Tuple [.Name x px, .Name x' px'] tk tpos, iter, [], 0⟩] scope pos) scope env (firstIterPos [⟨.Tuple [.Name x px, .Name x' px'] tk tpos, iter, [], 0⟩] pos) (newList []) false (eval iter env) use) Post E s := by
  simp only [compOk2, compOk, Bool.and_eq_true] at hc
  obtain ⟨⟨hN, hx⟩, hx'⟩ := hc
  have hx := of_decide_eq_true hx
  have hx' := of_decide_eq_true hx'
  have hN' : ∀ y ∈ scope.names, y.2 ≠ .cell ∧ (y.2 = .local → scope.names.lookup y.1 = some .local) ∧ (y.2 = .free → F.names.lookup y.1 = some .cell) := fun y hy => by
    have := List.all_eq_true.mp hN y hy
    simp only [Bool.and_eq_true, Bool.or_eq_true, bne_iff_ne, ne_eq, decide_eq_true_eq] at this
    exact ⟨this.1.1, fun h => (this.1.2.resolve_left fun q => q h), fun h => (this.2.resolve_left fun q => q h)⟩
  have hfree : ∀ y, (y, NameKind.free) ∈ scope.names → ∃ c, env.cells.lookup y = some c := fun y hy => ok.cells hcw y ((hN' _ hy).2.2 rfl)
  have hcl := closL_ok scope.names [] hfree (fun _ _ e => nomatch e)
  refine wpAny_comprehension_free (use := use) rfl hs (closureFor_is hfree) hkind (fun y hy h => (hN' y hy).2.1 h) ?_
  refine wpAny_mono (h os env κ ρ s A E ok z r) (fun v s₁ h₁ => wpAny_mono h₁ (fun it s₂ h₂ => ?_) fun _ _ x => x) fun _ _ x => x
  obtain ⟨ρ₁, ds, σ₁, I, fp, wr, P, St', rfl, g1, g2, z₂, W, hst, hP, hlive, hfoot, hwr, hLI, hlen, hL⟩ := h₂
  refine wpAny_newObj_type (wpAny_newFunctionEnv (fun y hy => (hN' y hy).1) (by intro y hy; simp at hy) (fun h₁ hns₁ hsb₁ => ?_) hkind)
  dsimp only at hns₁ hsb₁ ⊢
  generalize hH2 : s₂.heap.push { cls := .type "list", dict := none, data := .seq ([] : List Value).toArray } = H2 at hns₁ hsb₁ ⊢
  have hC : H2.objs.size = s₂.heap.objs.size + 1 := by rw [← hH2, Heap.size_push]
  have hDC : s₂.heap.objs.size ≠ H2.objs.size := by rw [hC]; exact Nat.ne_of_lt (Nat.lt_succ_self _)
  have fresh : ∀ a, s₂.heap.objs.size ≤ a → s₂.heap.get? a = Option.none := fun a ha => by
    cases e : s₂.heap.get? a with
    | none => rfl
    | some o' => exact absurd (Heap.lt_size e) (Nat.not_lt.mpr ha)
  have hCf : s₂.heap.get? H2.objs.size = Option.none := fresh _ (by rw [hC]; exact Nat.le_succ _)
  have old : ∀ b o, s₂.heap.get? b = some o → h₁.get? b = some o := fun b o e => hsb₁.extBut b o (fun h => by rw [h, hCf] at e; cases e) (Heap.get?_push_of_some _ (hH2 ▸ Heap.get?_push_of_some _ e))
  have hacc : h₁.PlainList s₂.heap.objs.size #[] := ⟨_, hsb₁.extBut _ _ hDC (Heap.get?_push_of_some _ (hH2 ▸ Heap.get?_push_size _ rfl))⟩
  let κ₀ : Kp := fun b => if b ∈ wr then Option.none else s₂.heap.get? b
  have hκ : ∀ b o, κ b = some o → κ₀ b = some o := fun b o e => by
    simp only [κ₀]
    split
    · rename_i hb; rw [(hwr b hb).k] at e; cases e
    · exact z₂.keep b o e
  have hκn : ∀ {b}, s₂.heap.get? b = Option.none → κ₀ b = Option.none := fun {b} e => by simp only [κ₀]; split <;> first | rfl | exact e
  let cenv : Env := compEnvC scope (closL env scope.names []) H2.objs.size env
  have okc : (fmC scope.names F.names).Ok cenv := ⟨relabel_names ok, hkind, ok.globals, ok.builtins, fun h => nomatch h⟩
  have hlook : ∀ y c, cenv.cells.lookup y = some c → env.cells.lookup y = some c := hcl.1
  have zc : ∀ s₃ : Shared, s₃ = { s₂ with heap := h₁, toks := s₂.toks + ([] : List (Str × Value)).length } → Z w os cenv false κ₀ ρ₁ ⟨[], celOf scope.names σ₁.cel, freezeAll σ₁.objs, σ₁.nx⟩ s₃ := by
    rintro s₃ rfl
    refine ⟨fun b o e => hκ b o (z₂.top b o e), fun b o e => ?_, ⟨_, hns₁, fun _ _ e => nomatch e⟩, hκn hCf, ?_, ?_, fun y y' c e e' => z₂.ca y y' c (hlook _ _ e) (hlook _ _ e'), ?_, ?_, z₂.inj, z₂.os, z₂.gens⟩
    · simp only [κ₀] at e
      split at e
      · cases e
      · exact old b o e
    · intro y d e
      obtain ⟨q1, q2⟩ := lk_celOf e
      obtain ⟨c, v, p1, p2, p3⟩ := z₂.cel y d q1
      obtain ⟨c', hc'⟩ := hcl.2 y (.inl (mem_of_lookup q2))
      have := hlook y c' hc'
      rw [p1] at this; cases this
      exact ⟨c, v, hc', p2.keeps old, p3⟩
    · intro y c e
      obtain ⟨⟨o, q1⟩, q2, q3, _⟩ := z₂.cc y c (hlook y c e)
      refine ⟨⟨o, q1.keeps old⟩, fun h => ?_, q3, fun h => nomatch h⟩
      obtain ⟨o', q4, _⟩ := q1
      rw [show c = H2.objs.size from h, hCf] at q4; cases q4
    · intro k sp e
      have e : fd (freezeAll σ₁.objs) k = some sp := e
      rw [fd_freeze] at e
      obtain ⟨sp', e1, rfl⟩ := Option.map_eq_some_iff.mp e
      obtain ⟨a, q1, q2, _⟩ := z₂.obj k sp' e1
      exact ⟨a, q1, (q2.mono Le.rfl' (fun o => old a o)).fr true, fun h => nomatch h⟩
    · intro k a e
      obtain ⟨q1, q2, o, q3⟩ := z₂.lt k a e
      refine ⟨q1, fun h => ?_, o, old _ _ q3⟩
      rw [show a = H2.objs.size from h, hCf] at q3; cases q3
  have apart2 : ∀ a, κ₀ a = Option.none → (∀ k, ρ₁ k ≠ some a) ∧ κ a = Option.none ∧ a ≠ env.locals ∧ ∀ x c, env.cells.lookup x = some c → c ≠ a := fun a e => by
    by_cases ha : a ∈ wr
    · exact ⟨(hwr a ha).r, (hwr a ha).k, (hwr a ha).l, (hwr a ha).c⟩
    · simp only [κ₀, if_neg ha] at e
      have := z₂.apart e
      exact ⟨this.r, this.k, this.l, this.c⟩
  have hD0 : s₂.heap.get? s₂.heap.objs.size = Option.none := fresh _ (Nat.le_refl _)
  have hDa := z₂.apart hD0
  have hCa := z₂.apart hCf
  have hlivefp : ∀ a ∈ fp, ∃ o, s₂.heap.get? a = some o := hlive 0 _ hst
  have loop : ∀ s₃ : Shared, s₃ = { s₂ with heap := h₁, toks := s₂.toks + ([] : List (Str × Value)).length } →
      codeAny (model pw w) A (.compLoop (.ListComp elt [⟨.Tuple [.Name x px, .Name x' px'] tk tpos, iter, [], 0⟩] scope pos) 0 (.ref I) (.ref s₂.heap.objs.size) cenv) (compPost (model pw w) A E use Post (.ref s₂.heap.objs.size) H2.objs.size) s₃ := by
    intro s₃ e3
    have z₃ := zc s₃ e3
    subst e3
    refine comp_loop2 (F' := fmC scope.names F.names) (b₁ := σ₁.nx) (K := CEnd σ₁ Q) okc rfl r W ?_ ?_ hLI z₃ rfl (W.frame _ _ _ hst fun a _ o e => old a o e) hacc hlen hP hlive ?_ ?_ ?_ ?_ hL ?_
    · show (relabN scope.names F.names).lookup x = _
      rw [← relabel_names ok]; exact lookup_relabel_local hx
    · show (relabN scope.names F.names).lookup x' = _
      rw [← relabel_names ok]; exact lookup_relabel_local hx'
    · intro a ha
      obtain ⟨o, ho⟩ := hlivefp a ha
      refine ⟨fun h => ?_, fun h => ?_⟩
      · rw [show a = H2.objs.size from h, hCf] at ho; cases ho
      · rw [h, hD0] at ho; cases ho
    · intro a ha
      refine ⟨by simp only [κ₀, if_pos ha], fun h => ?_, fun y c e => (hwr a ha).c y c (hlook y c e), (hwr a ha).r⟩
      obtain ⟨o, ho⟩ := hlivefp a (W.sub a ha)
      rw [show a = H2.objs.size from h, hCf] at ho; cases ho
    · exact ⟨hκn hD0, hDC, fun y c e => hDa.c y c (hlook y c e), hDa.r⟩
    · intro k sp e
      have e : fd (freezeAll σ₁.objs) k = some sp := e
      rw [fd_freeze] at e
      obtain ⟨sp', e1, rfl⟩ := Option.map_eq_some_iff.mp e
      rfl
    · intro s' ρe σe acc vals ze hpl hA hK he hDe
      obtain ⟨new, ⟨oldo, ho⟩, hnew, hcl', hal, hnx, hQ⟩ := hK
      have zo : Z w os env F.cw κ ρ₁ σ₁ s' := z₂.grownBut (wr := wr) hwr (fun b o hb e => ze.keep b o (by simp only [κ₀, if_neg hb]; exact e)) (ze.os.trans z₂.os.symm) ze.gens
      obtain ⟨ρ'', j1, j2, j3, j4⟩ := zo.join ze apart2 he hnx ho hnew
      have hvals : ∀ {acc : List D} {vals : List Value}, All2 (Val ρe) acc vals → acc.all (cld σ₁.nx new) = true → All2 (Val ρ'') acc vals := by
        intro acc vals h
        induction h with
        | nil => intro _; exact .nil
        | cons h1 _ ih =>
          intro h
          simp only [List.all_cons, Bool.and_eq_true] at h
          exact .cons (j3 _ _ h.1 h1) (ih h.2)
      have hD2 : Apart env κ ρ'' s₂.heap.objs.size := ⟨hDa.k, hDa.l, hDa.c, fun k e => hDe k (j2 _ _ e)⟩
      have hC2 : ∀ k, ρ'' k ≠ some H2.objs.size := fun k e => (ze.lt k _ (j2 _ _ e)).2.1 rfl
      obtain ⟨q, hq⟩ := hpl
      have zz := j4.made' (a := s₂.heap.objs.size) (sp := ⟨"list", acc, false, true⟩) hD2 (.of (n := q) (by rw [hq]; rfl) ((hvals hA hcl').imp fun _ _ y => y.mono (le_put j4.fresh)))
      obtain ⟨m, hm, _⟩ := ze.ns
      refine hF _ _ H2.objs.size _ (.ref σe.nx) s' m ?_ ?_ zz vNew ⟨hCa.k, hCa.l, hCa.c, fun k e => ?_⟩ hm hQ
      · exact Nat.le_trans g1 (Nat.le_trans hnx (Nat.le_succ _))
      · exact (g2.trans j1 g1).trans (eqb_put hDa.k) (Nat.le_trans g1 hnx)
      · unfold put at e
        split at e
        · exact hDC (Option.some.inj e)
        · exact hC2 k e
  exact codeAny_compStart_list (loop _ rfl) (W.self 0 _ _ _ (W.frame _ _ _ hst fun a _ o e => old a o e) (loop _ rfl))
theorem wE_Comp2 {elt iter : Expr} {x x' : Str} {px px' tpos : Pos} {tk : Nat} {scope : Scope} {pos : Pos} {Q : D → St → Prop} (hcw : F.cw = true) (hkind : scope.kind = .function) (hc : compOk2 scope.names F.names x x' = true) (hs : ∀ (env : Env) v, foldedSetIterable iter env v = pure v)
    (h : WIP w F n σ iter (fun ds σ₁ => ds.length ≤ sizeLine ∧ CLoop2 w (fmC scope.names F.names) n σ₁.nx x x' elt (CEnd σ₁ Q) ds [] ⟨[], celOf scope.names σ₁.cel, freezeAll σ₁.objs, σ₁.nx⟩)) :
    WE w F n σ (.ListComp elt [⟨.Tuple [.Name x px, .Name x' px'] tk tpos, iter, [], 0⟩] scope pos) Q := by
  intro os env κ ρ s A E ok z r
  show wpAny _ _ (eval _ env) _ _ _
  rw [eval_ListComp]
  refine comp_core2 (use := none) ok z r hcw hkind hc (hs env) h fun ρ'' σ'' C Dd k s' m g1 g2 g3 g4 g5 g6 g7 => ?_
  refine ⟨m, g6, fun h' hs' => ⟨ρ'', k, σ'', g1, g2, g4, ?_, g7⟩⟩
  exact g3.grownBut (s' := { s' with heap := h' }) (wr := [C]) (fun a ha => by simp at ha; subst ha; exact g5) (fun b o hb e => hs'.extBut b o (fun h => hb (by simp [h])) e) rfl g3.gens
end
end
section
theorem pickD_run (ds : List D) (a : Nat) (k : Nat) : ((List.range k).map (a + ·)).filterMap (ds[·]?) = (ds.drop a).take k := by
  have := pick_run ds.toArray a k
  simpa using this
theorem pickD_take (ds : List D) (m : Nat) : pickD ds none (some (m : Int)) none = ds.take m := by
  unfold pickD
  rw [sliceBounds_plain]
  simp only [Option.elim, clipAt_nat, sliceRange_one, Nat.sub_zero, pickD_run, List.drop_zero]
  rcases Nat.le_total m ds.length with h | h
  · rw [Nat.min_eq_left h]
  · rw [Nat.min_eq_right h, List.take_of_length_le (Nat.le_refl _), List.take_of_length_le h]
theorem pickD_rev (ds : List D) : pickD ds none none (some (-1)) = ds.reverse := by
  unfold pickD
  have e1 : sliceBounds none none (some (-1)) ds.length = ((ds.length : Int) - 1, -1, -1) := by simp [sliceBounds]
  rw [e1]
  have e2 : sliceRange ((ds.length : Int) - 1) (-1) (-1) = (List.range ds.length).map fun k => ds.length - 1 - k := by
    unfold sliceRange
    have h1 : ¬ ((-1 : Int) > 0) := by decide
    by_cases h : (ds.length : Int) - 1 > -1
    · have e : ((ds.length : Int) - 1 - -1 - -1 - 1) / (- -1) = (ds.length : Int) := by
        rw [show (- -1 : Int) = 1 by decide, Int.ediv_one]; lia
      simp only [h1, if_false, h, if_true, e, Int.toNat_natCast]
      apply List.map_congr_left
      intro k hk
      have := List.mem_range.mp hk
      lia
    · have e : ds.length = 0 := by lia
      rw [e]; simp
  dsimp only
  rw [e2]
  have e3 : ((List.range ds.length).map fun k => ds.length - 1 - k) = (List.range ds.length).reverse := by
    refine List.ext_getElem (by simp) fun i h1 h2 => ?_
    simp
  rw [e3, List.filterMap_reverse]
  congr 1
  have := pickD_run ds 0 ds.length
  simpa using this
section
variable {w : World} {n b : Nat}
theorem sub_fz0 {l c : List (Str × D)} {nx k : Nat} {ty : String} {ds : List D} {fz px : Bool} {r : List (Nat × Sp)} : St.Sub ⟨l, c, (k, ⟨ty, ds, true, px⟩) :: r, nx⟩ ⟨l, c, (k, ⟨ty, ds, fz, px⟩) :: r, nx⟩ :=
  sub_fz [] k ⟨ty, ds, fz, px⟩ r
noncomputable def modF : D → D
  | .int x => .int (x.fmod 1000000)
  | d => d
noncomputable def numsL (ns : List Int) : List Int := (ns.take 4).map (·.fmod 1000000) ++ [55, 24, 32, 838]
theorem law_a (ns : List Int) (hl : ns.length ≤ 63) {Q : Fl → St → Prop}
    (hQ : ∀ tl, WB w (fmOf 23) (n + 4) b ⟨[(Str.ofString "script", .ref 0), (Str.ofString "numbers", .ref 4)], [(Str.ofString "mark", .int (numsL ns).sum)], (4, ⟨"list", (numsL ns).map D.int, false, true⟩) :: tl, 5⟩ ((bodyOf 23).drop 2) Q) :
    WB w (fmOf 23) (n + 4) b ⟨[(Str.ofString "script", .ref 0)], [], [(0, ⟨"list", ns.map D.int, true, false⟩)], 1⟩ (bodyOf 23) Q := by
  show WB w (fmOf 23) (n + 4) b _ (_ :: _ :: (bodyOf 23).drop 2) _
  refine wB_cons ?_
  refine wX_Assign (by intro _; with_unfolding_all rfl) ?_
  refine wE_BinOp ?_
  refine wE_Comp rfl rfl (by decide +kernel) (by intro _ _; with_unfolding_all rfl) ?_
  refine wI_list ?_
  refine W0.weak ?_
  refine wE_SliceL ?_
  repeat (walk_at "m")
  refine wPa_none ?_
  refine wPa_some ?_
  repeat (walk_at "m")
  refine wPa_none ?_
  refine ⟨0, _, none, some 4, none, rfl, by walk_at "m_fd", rfl, by simp [sizeLine]; lia, rfl, rfl, rfl, by simp, ?_⟩
  rw [show (4 : Int) = ((4 : Nat) : Int) from rfl, pickD_take, ← List.map_take]
  refine mk_ ?_
  refine ⟨_, sub_fz0, ?_⟩
  refine ⟨1, _, rfl, by walk_at "m_fd", rfl, rfl, ?_⟩
  refine ⟨by simp [sizeLine]; lia, ?_⟩
  dsimp only
  refine cloop_map modF (Nat.le_refl _) _ _ _ (.inl rfl) ?_ ?_
  · intro d hd Q hQ
    obtain ⟨i, _, rfl⟩ := List.mem_map.mp hd
    repeat (walk_at "m")
    exact hQ
  · intro l
    rw [List.nil_append, show ((ns.take 4).map D.int).map modF = ((ns.take 4).map (·.fmod 1000000)).map D.int by simp [modF, Function.comp_def]]
    refine cend_map (cld_no (noRef_int _)) (by simp [sizeLine]; lia) ?_
    refine mk_ ?_
    refine wE_List ?_
    repeat (walk_at "m")
    refine w2_ladd (by walk_at "m_fd") (by walk_at "m_fd") rfl rfl rfl rfl (by simp [sizeLine]; lia) ?_
    refine mk_ ?_
    repeat (walk_at "m")
    refine wE_CallB (bltn_is (by decide +kernel) (g_sum _).1 (g_sum _).2) (by with_unfolding_all rfl) ?_
    repeat (walk_at "m")
    refine w1_sum (ns := numsL ns) (by walk_at "m_fd") rfl (by simp [numsL]) ?_
    repeat (walk_at "m")
    have e : (List.map D.int (List.map (fun x => x.fmod 1000000) (List.take 4 ns)) ++ [D.int 55, D.int 24, D.int 32, D.int 838]) = (numsL ns).map D.int := by simp [numsL]
    rw [← e] at hQ
    exact hQ _
end
end
section
section
variable {w : World} {F : Fm} {n b : Nat} {σ : St}
noncomputable def tupS (x : Int) : Sp := ⟨"tuple", [.str (sgn x).1, .str (sgn x).2], false, true⟩
noncomputable def tupO : Nat → List (Nat × Sp) → List Int → List (Nat × Sp)
  | _, o, [] => o
  | k, o, x :: r => tupO (k + 1) ((k, tupS x) :: o) r
noncomputable def refU (k : Nat) : List Int → List D
  | [] => []
  | _ :: r => .ref k :: refU (k + 1) r
noncomputable def tupI (k : Nat) : List Int → List (Nat × Str × Str)
  | [] => []
  | x :: r => (k, (sgn x).1, (sgn x).2) :: tupI (k + 1) r
theorem tupO_app : ∀ (xs : List Int) (k : Nat) (a c : List (Nat × Sp)), tupO k (a ++ c) xs = tupO k a xs ++ c
  | [], _, _, _ => rfl
  | x :: r, k, a, c => by
    show tupO (k + 1) ((k, tupS x) :: a ++ c) r = _
    rw [tupO_app r]; rfl
theorem tupO_all : ∀ (xs : List Int) (k : Nat) (o : List (Nat × Sp)) (P : Nat × Sp → Prop), (∀ p ∈ o, P p) → (∀ j x, k ≤ j → j < k + xs.length → P (j, tupS x)) → ∀ p ∈ tupO k o xs, P p
  | [], _, _, _, h, _ => h
  | x :: r, k, o, P, h, h' => by
    refine tupO_all r (k + 1) _ P (fun p hp => ?_) fun j y hj hj' => h' j y (by lia) (by simp only [List.length_cons]; lia)
    rcases List.mem_cons.mp hp with rfl | hp
    · exact h' k x (Nat.le_refl _) (by simp)
    · exact h p hp
theorem tupO_keep : ∀ (xs : List Int) (k : Nat) (o : List (Nat × Sp)) (j : Nat) (sp : Sp), j < k → fd o j = some sp → fd (tupO k o xs) j = some sp
  | [], _, _, _, _, _, h => h
  | x :: r, k, o, j, sp, hj, h => tupO_keep r (k + 1) _ j sp (by lia) (fd_next (beq_ff.mpr (by lia)) h)
theorem tupO_at : ∀ (xs : List Int) (k : Nat) (o : List (Nat × Sp)), ∀ p ∈ tupI k xs, p.1 < k + xs.length ∧ fd (tupO k o xs) p.1 = some ⟨"tuple", [.str p.2.1, .str p.2.2], false, true⟩
  | [], _, _, _, h => nomatch h
  | x :: r, k, o, p, h => by
    rcases List.mem_cons.mp h with rfl | h
    · exact ⟨by simp, tupO_keep r (k + 1) _ k _ (Nat.lt_succ_self _) fd_here⟩
    · obtain ⟨h1, h2⟩ := tupO_at r (k + 1) ((k, tupS x) :: o) p h
      exact ⟨by simp only [List.length_cons]; lia, h2⟩
theorem refU_I : ∀ (xs : List Int) (k : Nat), refU k xs = (tupI k xs).map fun p => .ref p.1
  | [], _ => rfl
  | x :: r, k => by simp only [refU, tupI, List.map_cons, refU_I r]
theorem refU_len : ∀ (xs : List Int) (k : Nat), (refU k xs).length = xs.length
  | [], _ => rfl
  | x :: r, k => by simp only [refU, List.length_cons, refU_len r]
theorem tupI_snd : ∀ (xs : List Int) (k : Nat), (tupI k xs).map (fun p => p.2) = xs.map sgn
  | [], _ => rfl
  | x :: r, k => by simp only [tupI, List.map_cons, tupI_snd r]
theorem cloop_tup {x : Str} {elt : Expr} {K : List D → St → Prop} {cel : List (Str × D)} (hf : ∀ (l : List (Str × D)) (i : Int) objs nx, ∀ Q : D → St → Prop, Mk ⟨[(x, .int i)], cel, objs, nx⟩ (tupS i) Q → WE w F n ⟨[(x, .int i)], cel, objs, nx⟩ elt Q) :
    ∀ (xs : List Int) (acc : List D) (l : List (Str × D)) (objs : List (Nat × Sp)) (nx : Nat), b ≤ nx → (l = [] ∨ ∃ e, l = [(x, e)]) → (∀ l, K (acc ++ refU nx xs) ⟨l, cel, tupO nx objs xs, nx + xs.length⟩) → CLoop w F n b x elt K (xs.map D.int) acc ⟨l, cel, objs, nx⟩
  | [], acc, l, objs, nx, _, hl, hK => by
    have := hK l
    rw [refU, List.append_nil] at this
    exact this
  | d :: ds, acc, l, objs, nx, hb, hl, hK => by
    have e : setl l x (.int d) = [(x, .int d)] := by
      rcases hl with rfl | ⟨e, rfl⟩
      · rfl
      · simp [setl]
    refine ⟨hb, ?_⟩
    show WE w F n ⟨setl l x (.int d), cel, objs, nx⟩ elt _
    rw [e]
    refine hf [] d objs nx _ ?_
    refine mk_ ?_
    refine cloop_tup hf ds (acc ++ [.ref nx]) _ _ (nx + 1) (by lia) (.inr ⟨_, rfl⟩) fun l' => ?_
    have := hK l'
    simp only [refU, tupO, List.length_cons] at this
    rw [List.append_assoc, show nx + 1 + ds.length = nx + (ds.length + 1) by lia]
    exact this
theorem newOk_tup (xs : List Int) (k : Nat) : newOk k (k + xs.length) (tupO k [] xs) = true := by
  refine List.all_eq_true.mpr fun p hp => ?_
  refine tupO_all xs k [] (fun p => (Nat.ble k p.1 && Nat.blt p.1 (k + xs.length) && !p.2.fz && p.2.ds.all (cld k (tupO k [] xs))) = true) (fun _ h => nomatch h) (fun j x h1 h2 => ?_) p hp
  simp only [tupS, Bool.and_eq_true, Bool.not_false, List.all_cons, List.all_nil, cld, Nat.ble_eq, Nat.blt_eq]
  exact ⟨⟨⟨h1, h2⟩, trivial⟩, trivial, trivial, trivial⟩
theorem cld_tup (xs : List Int) (k : Nat) : (refU k xs).all (cld k (tupO k [] xs)) = true := by
  rw [refU_I]
  refine List.all_eq_true.mpr fun d hd => ?_
  obtain ⟨p, hp, rfl⟩ := List.mem_map.mp hd
  simp only [cld, (tupO_at xs k [] p hp).2, Option.isSome_some, Bool.or_true]
end
section
variable {w : World} {n b : Nat}
theorem law_b (m : Int) (xs : List Int) (tl : List (Nat × Sp)) (hl : xs.length ≤ 63) {Q : Fl → St → Prop}
    (hQ : ∀ (its : List (Nat × Str × Str)) (tl : List (Nat × Sp)) (kS : Nat), its.map (fun p => p.2) = xs.map sgn → (∀ p ∈ its, p.1 < kS ∧ fd tl p.1 = some ⟨"tuple", [.str p.2.1, .str p.2.2], false, true⟩) →
      WB w (fmOf 23) (n + 4) b ⟨[(Str.ofString "script", .ref 0), (Str.ofString "numbers", .ref 4), (Str.ofString "signs", .ref kS)], [(Str.ofString "mark", .int m)], (kS, ⟨"list", its.map fun p => .ref p.1, false, true⟩) :: tl, kS + 1⟩ ((bodyOf 23).drop 3) Q) :
    WB w (fmOf 23) (n + 4) b ⟨[(Str.ofString "script", .ref 0), (Str.ofString "numbers", .ref 4)], [(Str.ofString "mark", .int m)], (4, ⟨"list", xs.map D.int, false, true⟩) :: tl, 5⟩ ((bodyOf 23).drop 2) Q := by
  show WB w (fmOf 23) (n + 4) b _ (_ :: (bodyOf 23).drop 3) _
  refine WS.sub sub_fz0 ?_
  refine wB_cons ?_
  refine wX_AssignComp (fun env ok => swaps_t ok (by decide +kernel) (by decide) (by decide +kernel)) rfl rfl (by decide +kernel) (by intro _ _; with_unfolding_all rfl) ?_
  refine wI_list ?_
  repeat (walk_at "m")
  refine ⟨4, _, rfl, by walk_at "m_fd", rfl, rfl, ?_⟩
  refine ⟨by simp [sizeLine]; lia, ?_⟩
  dsimp only
  refine cloop_tup ?_ xs [] _ _ 5 (Nat.le_refl _) (.inl rfl) ?_
  · intro l i objs nx Q hQ
    refine wE_CallF (fa_sign w) (name_is (by decide +kernel) (gf_sign w)) (by with_unfolding_all rfl) ?_
    repeat (walk_at "m")
    exact w1_of (wL_sign hQ)
  · intro l
    rw [List.nil_append]
    refine ⟨tupO 5 [] xs, ⟨_, tupO_app xs 5 [] _⟩, newOk_tup xs 5, cld_tup xs 5, by rw [refU_len]; simp only [sizeLine]; lia, by show 5 ≤ 5 + _; lia, ?_⟩
    refine mk_ ?_
    repeat (walk_at "m")
    rw [refU_I]
    refine hQ _ _ _ (tupI_snd xs 5) fun p hp => ?_
    obtain ⟨h1, h2⟩ := tupO_at xs 5 ([] ++ _) p hp
    rw [tupO_app] at h2
    exact ⟨h1, h2⟩
end
end
section
theorem he_const {c : Const} {k : Nat} {p : Pos} {name : Str} {apos : Pos} {e : Expr} {pos : Pos} (env : Env) (hp : plainE e = true) (hl : (apos.endLine == pos.line) = true) : eval (.Call (.Attribute (.Constant c k p) name apos) [e] [] pos) env = (do
      let ov ← eval (.Constant c k p) env
      standAt apos.atName
      let (f, first) ← holding [ov] (getMethod ov name (do return (← importBound (.Constant c k p) env).getD true))
      callWith pos f first (backTo pos (starEach [e] env)) []) := by
  have hs := star_plain (es := [e]) (by simp [hp]) env
  have hf : methodCallForm 1 (backTo pos (starEach [e] env)) [] = true := by rw [hs]; rfl
  show (do let ov ← eval (.Constant c k p) env; standAt apos.atName; methodCall (.Constant c k p) name apos pos env ov 1 (backTo pos (starEach [e] env)) []) = _
  unfold methodCall methodCallPos calleeOf
  rw [hf, hl]
  rfl
theorem lk_all {l l' : List (Str × D)} {y : Str} {e : D} (h : lk l' y = some e) (h' : ∀ x d, lk l x = some d → lk l' x = some d) : ∀ x d, lk ((y, e) :: l) x = some d → lk l' x = some d := by
  intro x d hd
  simp only [lk] at hd
  by_cases hx : x = y
  · rw [if_pos hx] at hd; cases hd; subst hx; exact h
  · rw [if_neg hx] at hd; exact h' x d hd
theorem lk_nil {l' : List (Str × D)} : ∀ x d, lk [] x = some d → lk l' x = some d := fun _ _ h => nomatch h
theorem strsD_map' (l : List Str) : strsD (l.map D.str) = some l := strsD_map l
section
variable {w : World} {F : Fm} {n b : Nat} {σ : St}
theorem wE_MethC {c : Const} {k : Nat} {p : Pos} {name : Str} {apos : Pos} {e : Expr} {pos : Pos} {id : String} {Q : D → St → Prop} (hp : plainE e = true) (hl : (apos.endLine == pos.line) = true)
    (h : WE w F n σ (.Constant c k p) (fun c σ₁ => GM w σ₁ c name id ∧ WEs w F n σ₁ pos [e] (fun ds σ₂ => WL w F n Val σ₂ (c :: ds) (fun _ vs => call (.builtin id) vs) Q))) :
    WE w F n σ (.Call (.Attribute (.Constant c k p) name apos) [e] [] pos) Q :=
  wE_Meth (by simp [hp]) _ (fun env => he_const env hp hl) h
theorem star_cons {e : Expr} {rest : List Expr} (hp : plainE e = true) (env : Env) : starEach (e :: rest) env = (false, eval e env) :: starEach rest env := by
  have h1 := star_plain (es := [e]) (by simp [hp]) env
  cases e <;> first | rfl | exact absurd hp Bool.false_ne_true
theorem wEs_consP {pos : Pos} {e : Expr} {rest : List Expr} {Q : List D → St → Prop} (hp : plainE e = true) (h : WE w F n σ e (fun d σ₁ => WEs w F n σ₁ pos rest (fun ds σ₂ => Q (d :: ds) σ₂))) : WEs w F n σ pos (e :: rest) Q :=
  wEs_cons (star_cons hp) h
theorem cloop2_map {x x' : Str} {elt : Expr} {K : List D → St → Prop} {cel : List (Str × D)} {objs : List (Nat × Sp)} {nx : Nat} (f : Str → Str → D) (hb : b ≤ nx) (hne : x ≠ x')
    (hf : ∀ d e (Q : D → St → Prop), Q (f d e) ⟨[(x, .str d), (x', .str e)], cel, objs, nx⟩ → WE w F n ⟨[(x, .str d), (x', .str e)], cel, objs, nx⟩ elt Q) :
    ∀ (its : List (Nat × Str × Str)) (acc : List D) (l : List (Str × D)), (l = [] ∨ ∃ d e, l = [(x, d), (x', e)]) → (∀ p ∈ its, ∃ fz, fd objs p.1 = some ⟨"tuple", [.str p.2.1, .str p.2.2], fz, true⟩) → (∀ l, K (acc ++ its.map fun p => f p.2.1 p.2.2) ⟨l, cel, objs, nx⟩) →
    CLoop2 w F n b x x' elt K (its.map fun p => .ref p.1) acc ⟨l, cel, objs, nx⟩
  | [], acc, l, _, _, hK => by
    have := hK l
    rw [List.map_nil, List.append_nil] at this
    exact this
  | p :: its, acc, l, hl, hi, hK => by
    obtain ⟨fz, hp⟩ := hi p (by simp)
    have e : setl (setl l x (.str p.2.1)) x' (.str p.2.2) = [(x, .str p.2.1), (x', .str p.2.2)] := by
      rcases hl with rfl | ⟨d, e, rfl⟩
      · simp [setl, Ne.symm hne]
      · simp [setl, Ne.symm hne]
    refine ⟨hb, p.1, _, .str p.2.1, .str p.2.2, rfl, hp, rfl, rfl, ?_⟩
    show WE w F n ⟨setl (setl l x (.str p.2.1)) x' (.str p.2.2), cel, objs, nx⟩ elt _
    rw [e]
    refine hf _ _ _ ?_
    refine cloop2_map f hb hne hf its _ _ (.inr ⟨_, _, rfl⟩) (fun q hq => hi q (List.mem_cons_of_mem _ hq)) fun l' => ?_
    have := hK l'
    rw [List.map_cons] at this
    rw [List.append_assoc]
    exact this
theorem noRef_strs {α : Type} (f : α → Str) (l : List α) : (l.map fun p => D.str (f p)).all noRef = true := by
  simp [List.all_map, Function.comp_def, noRef]
end
section
variable {w : World} {n b : Nat}
set_option maxHeartbeats 1000000 in
theorem law_c (m : Int) (its : List (Nat × Str × Str)) (tl : List (Nat × Sp)) (kS : Nat) (hits : ∀ p ∈ its, p.1 < kS ∧ fd tl p.1 = some ⟨"tuple", [.str p.2.1, .str p.2.2], false, true⟩) (hl : its.length ≤ 63) (hs : ∀ p ∈ its, p.2.1.length ≤ 10 ∧ p.2.2.length ≤ 10)
    (x y : Str) (hx : Txt.join (Str.ofString "") (its.map fun p => p.2.1) = x) (hy : Txt.join (Str.ofString "") (its.map fun p => p.2.2) = y) (hsm : smallR (Str.ofString "") (charS x)) (hr : readS x = y) {Q : Fl → St → Prop}
    (hQ : ∀ kT, WB w (fmOf 23) (n + 4) b ⟨[(Str.ofString "letters", .str y)], [(Str.ofString "mark", .int m)], [], kT⟩ ((bodyOf 23).drop 5) Q) :
    WB w (fmOf 23) (n + 4) b ⟨[(Str.ofString "script", .ref 0), (Str.ofString "numbers", .ref 4), (Str.ofString "signs", .ref kS)], [(Str.ofString "mark", .int m)], (kS, ⟨"list", its.map fun p => .ref p.1, false, true⟩) :: tl, kS + 1⟩ ((bodyOf 23).drop 3) Q := by
  have sm : ∀ (f : Str × Str → Str), (∀ p ∈ its, (f p.2).length ≤ 10) → ((its.map fun p => f p.2).map (·.length)).sum + (its.map fun p => f p.2).length * (Str.ofString "").length ≤ 16777216 := by
    intro f hf
    have := sum_le (l := (its.map fun p => f p.2).map (·.length)) (B := 10) (by
      intro k hk
      obtain ⟨r, hr, rfl⟩ := List.mem_map.mp hk
      obtain ⟨p, hp, rfl⟩ := List.mem_map.mp hr
      exact hf p hp)
    rw [List.length_map, List.length_map] at this
    rw [show (Str.ofString "").length = 0 by decide +kernel]
    lia
  show WB w (fmOf 23) (n + 4) b _ (_ :: _ :: (bodyOf 23).drop 5) _
  refine WS.sub sub_fz0 ?_
  refine wB_cons ?_
  refine wX_Assign (by intro _; with_unfolding_all rfl) ?_
  refine wE_CallF (fa_read w) (name_is (by decide +kernel) (gf_read w)) (by with_unfolding_all rfl) ?_
  with_reducible refine wEs_consP (by with_unfolding_all rfl) ?_
  with_reducible refine wE_MethC (id := "str.join") (by with_unfolding_all rfl) (by with_unfolding_all rfl) ?_
  repeat (walk_at "m")
  refine ⟨gm_join, ?_⟩
  with_reducible refine wEs_consP (by with_unfolding_all rfl) ?_
  refine wE_Comp2 rfl rfl (by decide +kernel) (by intro _ _; with_unfolding_all rfl) ?_
  refine wIP_list ?_
  repeat (walk_at "m")
  refine ⟨kS, _, rfl, by walk_at "m_fd", rfl, rfl, ?_⟩
  refine ⟨by simp [sizeLine]; lia, ?_⟩
  dsimp only
  have hfz : ∀ p ∈ its, ∃ fz, fd (freezeAll ((kS, (⟨"list", its.map fun p => .ref p.1, true, true⟩ : Sp)) :: tl)) p.1 = some ⟨"tuple", [.str p.2.1, .str p.2.2], fz, true⟩ := fun p hp => by
    obtain ⟨h1, h2⟩ := hits p hp
    refine ⟨true, ?_⟩
    rw [fd_freeze, fd_next (beq_ff.mpr (by lia)) h2]
    rfl
  refine cloop2_map (fun d _ => .str d) (Nat.le_refl _) (by decide +kernel) ?_ its _ _ (.inl rfl) hfz ?_
  · intro d e Q hQ
    repeat (walk_at "m")
    exact hQ
  · intro l
    rw [List.nil_append]
    refine cend_map (cld_no (noRef_strs _ _)) (by simp [sizeLine]; lia) ?_
    refine mk_ ?_
    repeat (walk_at "m")
    refine w2_join (ys := its.map fun p => p.2.1) (by walk_at "m_fd") rfl (by rw [← strsD_map, List.map_map]; rfl) (sm (·.1) fun p hp => (hs p hp).1) ?_
    rw [hx]
    repeat (walk_at "m")
    refine w1_of (wL_read hsm ?_)
    rw [hr]
    repeat (walk_at "m")
    with_reducible refine wE_MethC (id := "str.join") (by with_unfolding_all rfl) (by with_unfolding_all rfl) ?_
    repeat (walk_at "m")
    refine ⟨gm_join, ?_⟩
    with_reducible refine wEs_consP (by with_unfolding_all rfl) ?_
    refine wE_Comp2 rfl rfl (by decide +kernel) (by intro _ _; with_unfolding_all rfl) ?_
    refine wIP_list ?_
    repeat (walk_at "m")
    refine ⟨kS, _, rfl, by walk_at "m_fd", rfl, rfl, ?_⟩
    refine ⟨by simp [sizeLine]; lia, ?_⟩
    dsimp only
    have hfz : ∀ p ∈ its, ∃ fz, fd (freezeAll ((kS + 1, (⟨"list", its.map fun p => .str p.2.1, false, true⟩ : Sp)) :: (kS, (⟨"list", its.map fun p => .ref p.1, true, true⟩ : Sp)) :: tl)) p.1 = some ⟨"tuple", [.str p.2.1, .str p.2.2], fz, true⟩ := fun p hp => by
      obtain ⟨h1, h2⟩ := hits p hp
      refine ⟨true, ?_⟩
      rw [fd_freeze, fd_next (beq_ff.mpr (by lia)) (fd_next (beq_ff.mpr (by lia)) h2)]
      rfl
    refine cloop2_map (fun _ e => .str e) (Nat.le_refl _) (by decide +kernel) ?_ its _ _ (.inl rfl) hfz ?_
    · intro d e Q hQ
      repeat (walk_at "m")
      exact hQ
    · intro l
      rw [List.nil_append]
      refine cend_map (cld_no (noRef_strs _ _)) (by simp [sizeLine]; lia) ?_
      refine mk_ ?_
      repeat (walk_at "m")
      refine w2_join (ys := its.map fun p => p.2.2) (by walk_at "m_fd") rfl (by rw [← strsD_map, List.map_map]; rfl) (sm (·.2) fun p hp => (hs p hp).2) ?_
      rw [hy]
      refine w2_sne ?_
      repeat (walk_at "m")
      refine ife_f (by simp) ?_
      repeat (walk_at "m")
      refine WS.sub (σ := ⟨[(Str.ofString "letters", .str y)], [(Str.ofString "mark", .int m)], [], kS + 1 + 1 + 1⟩) ⟨rfl, lk_all (by walk_at "m_lk") lk_nil, lk_all (by walk_at "m_lk") lk_nil, fd_no⟩ (hQ _)
end
end
section
noncomputable def wishL (cs : List Nat) (k : Nat) : List Int := cs.map fun (c : Nat) => ((c : Int) - 97).fmod k
noncomputable def wishF (k : Nat) : D → D
  | .str c => .int ((((c.cps.getD 0 0 : Nat) : Int) - 97).fmod k)
  | d => d
theorem wish_map (x : Str) (k : Nat) : (chars x).map (wishF k) = (wishL x.cps.toList k).map D.int := by
  simp [chars, wishL, wishF, Function.comp_def]
section
variable {w : World} {n b : Nat}
theorem law_d (m : Int) (y cars : Str) (k kT : Nat) (hy : y.length ≤ 1000) (hc : sliceS y none (some (3 + (m + 1).fmod 3)) = cars) (hk : cars.length + 1 = k) (hl : 3 ≤ cars.length ∧ cars.length ≤ 5) {Q : Fl → St → Prop}
    (hQ : ∀ kW, WB w (fmOf 23) (n + 4) b ⟨[(Str.ofString "cars", .str cars)], [(Str.ofString "mark", .int m), (Str.ofString "size", .int k), (Str.ofString "wishes", .ref kW)], [(kW, ⟨"list", (wishL cars.cps.toList k).map D.int, false, true⟩)], kW + 1⟩ ((bodyOf 23).drop 8) Q) :
    WB w (fmOf 23) (n + 4) b ⟨[(Str.ofString "letters", .str y)], [(Str.ofString "mark", .int m)], [], kT⟩ ((bodyOf 23).drop 5) Q := by
  show WB w (fmOf 23) (n + 4) b _ (_ :: _ :: _ :: (bodyOf 23).drop 8) _
  refine wB_cons ?_
  refine wX_Assign (by intro _; with_unfolding_all rfl) ?_
  refine wE_SliceS ?_
  repeat (walk_at "m")
  refine wPa_none ?_
  refine wPa_some ?_
  repeat (walk_at "m")
  refine ⟨y, none, some _, rfl, by unfold sizeLine; lia, rfl, rfl, ?_⟩
  rw [hc]
  repeat (walk_at "m")
  refine w1_lenS (by lia) ?_
  repeat (walk_at "m")
  rw [show ((cars.length : Int) + 1) = ((k : Nat) : Int) by lia]
  repeat (walk_at "m")
  refine wX_AssignOk (fun env ok => swaps_f ok (by decide +kernel)) ?_
  refine wE_Comp rfl rfl (by decide +kernel) (by intro _ _; with_unfolding_all rfl) ?_
  refine wI_str ?_
  repeat (walk_at "m")
  refine ⟨cars, rfl, ?_⟩
  refine ⟨by simp [chars, sizeLine]; have := hl.2; unfold Str.length at this; lia, ?_⟩
  dsimp only
  have ec : celOf [(Str.ofString ".0", NameKind.local), (Str.ofString "letter", NameKind.local), (Str.ofString "ord", NameKind.globalImplicit), (Str.ofString "size", NameKind.free)] [(Str.ofString "mark", .int m), (Str.ofString "size", .int k)] = [(Str.ofString "size", .int k)] := by kernel_rfl
  rw [ec]
  refine cloop_map (wishF k) (Nat.le_refl _) _ _ _ (.inl rfl) ?_ ?_
  · intro d hd Q hQ
    obtain ⟨c, _, rfl⟩ := List.mem_map.mp hd
    repeat (walk_at "m")
    refine w1_ord rfl ?_
    repeat (walk_at "m")
    refine w2_mod (by lia) ?_
    exact hQ
  · intro l
    rw [List.nil_append, wish_map]
    refine cend_map (cld_no (noRef_int _)) (by simp [wishL, sizeLine]; have := hl.2; unfold Str.length at this; lia) ?_
    refine mk_ ?_
    repeat (walk_at "m")
    refine WS.sub (σ := ⟨[(Str.ofString "cars", .str cars)], [(Str.ofString "mark", .int m), (Str.ofString "size", .int k), (Str.ofString "wishes", .ref kT)], [(kT, ⟨"list", (wishL cars.cps.toList k).map D.int, false, true⟩)], kT + 1⟩) ⟨rfl, lk_all (by walk_at "m_lk") lk_nil, lk_all (by walk_at "m_lk") (lk_all (by walk_at "m_lk") (lk_all (by walk_at "m_lk") lk_nil)), fd_all ⟨_, by walk_at "m_fd", .rfl'⟩ fd_no⟩ (hQ _)
theorem law_e (m : Int) (cars : Str) (ws : List Int) (k kW : Nat) (dss : List (List Nat)) (hl : ws.length ≤ 100) (hk1 : 1 ≤ k) (hk : k ≤ 10) (hp : parkAll k ws ((List.range k).map fun (i : Nat) => (i : Int)) (List.replicate k 0) = some dss) {Q : Fl → St → Prop}
    (hQ : WB w (fmOf 23) (n + 4) b ⟨[(Str.ofString "cars", .str cars), (Str.ofString "books", .ref (kW + 1))], [(Str.ofString "mark", .int m), (Str.ofString "size", .int k), (Str.ofString "wishes", .ref kW)], (kW + 1, ⟨"list", refsF (kW + 1 + 1) dss.length, false, true⟩) :: (bookO (kW + 1 + 1) dss ++ [(kW, ⟨"list", ws.map D.int, false, true⟩)]), kW + 1 + (dss.length + 1)⟩ ((bodyOf 23).drop 9) Q) :
    WB w (fmOf 23) (n + 4) b ⟨[(Str.ofString "cars", .str cars)], [(Str.ofString "mark", .int m), (Str.ofString "size", .int k), (Str.ofString "wishes", .ref kW)], [(kW, ⟨"list", ws.map D.int, false, true⟩)], kW + 1⟩ ((bodyOf 23).drop 8) Q := by
  show WB w (fmOf 23) (n + 4) b _ (_ :: (bodyOf 23).drop 9) _
  refine wB_cons ?_
  refine wX_Assign (by intro _; with_unfolding_all rfl) ?_
  refine wE_CallF (fa_parked w) (name_is (by decide +kernel) (gf_parked w)) (by with_unfolding_all rfl) ?_
  repeat (walk_at "m")
  refine w2_of (wL_parked (ns := ws) (by walk_at "m_fd") rfl rfl hl hk1 hk hp ?_)
  repeat (walk_at "m")
  exact hQ
end
end
section
theorem intsD_map : ∀ (l : List Int), intsD (l.map D.int) = some l
  | [] => rfl
  | i :: l => by simp only [List.map_cons, intsD, intsD_map l, Option.map_some]
theorem fd_book_at : ∀ (dss : List (List Nat)) (b i : Nat) (r : List (Nat × Sp)), i < dss.length → fd (bookO b dss ++ r) (b + i) = some ⟨"list", rowsD (dss.getD i []), false, true⟩
  | [], _, _, _, h => nomatch h
  | ds :: dss, b, 0, r, _ => fd_here
  | ds :: dss, b, i + 1, r, h => by
    have := fd_book_at dss (b + 1) i r (by simpa using h)
    rw [show b + (i + 1) = b + 1 + i by lia]
    exact fd_next (beq_ff.mpr (by lia)) this
theorem fd_book_lt : ∀ (dss : List (List Nat)) (b j : Nat) (r : List (Nat × Sp)), j < b → fd (bookO b dss ++ r) j = fd r j
  | [], _, _, _, _ => rfl
  | ds :: dss, b, j, r, h => by
    have := fd_book_lt dss (b + 1) j r (by lia)
    rw [← this]
    show fd ((b, _) :: (bookO (b + 1) dss ++ r)) j = _
    simp only [fd, beq_ff.mpr (show j ≠ b by lia), cond_false]
theorem fd_book_all {P : Nat → Sp → Prop} : ∀ (dss : List (List Nat)) (b : Nat) (r : List (Nat × Sp)), (∀ j q, b ≤ j → j < b + dss.length → P j q) → (∀ j q, fd r j = some q → P j q) → ∀ j q, fd (bookO b dss ++ r) j = some q → P j q
  | [], _, _, _, h => h
  | ds :: dss, b, r, h, h' => fd_all (h _ _ (Nat.le_refl _) (by simp)) (fd_book_all dss (b + 1) r (fun j q h1 h2 => h j q (by lia) (by simp only [List.length_cons]; lia)) h')
theorem refsF_at {b m i : Nat} (h : i < m) : (refsF b m)[i]? = some (.ref (b + i)) := by
  simp [refsF, h]
theorem refsF_len (b m : Nat) : (refsF b m).length = m := by simp [refsF]
noncomputable abbrev celL (m : Int) (k kW : Nat) : List (Str × D) := [(Str.ofString "mark", .int m), (Str.ofString "size", .int k), (Str.ofString "wishes", .ref kW)]
noncomputable abbrev objL (ws : List Int) (kW : Nat) (dss : List (List Nat)) : List (Nat × Sp) := (kW + 1, ⟨"list", refsF (kW + 1 + 1) dss.length, false, true⟩) :: (bookO (kW + 1 + 1) dss ++ [(kW, ⟨"list", ws.map D.int, false, true⟩)])
theorem objL_at {ws : List Int} {kW : Nat} {dss : List (List Nat)} {i : Nat} (h : i < dss.length) : fd (objL ws kW dss) (kW + 1 + 1 + i) = some ⟨"list", rowsD (dss.getD i []), false, true⟩ :=
  fd_next (beq_ff.mpr (by lia)) (fd_book_at dss _ i _ h)
theorem objL_w {ws : List Int} {kW : Nat} {dss : List (List Nat)} : fd (objL ws kW dss) kW = some ⟨"list", ws.map D.int, false, true⟩ :=
  fd_next (beq_ff.mpr (by lia)) ((fd_book_lt dss _ kW _ (by lia)).trans fd_here)
theorem objL_lt {ws : List Int} {kW : Nat} {dss : List (List Nat)} {nx : Nat} (h : kW + 1 + (dss.length + 1) ≤ nx) : ∀ j q, fd (objL ws kW dss) j = some q → j < nx :=
  fd_all (P := fun j _ => j < nx) (by lia) (fd_book_all dss _ _ (fun j q h1 h2 => by lia) (fd_all (by lia) fd_no))
theorem sub_more {l m c d : List (Str × D)} {O : List (Nat × Sp)} {nx0 nx : Nat} (hO : ∀ j q, fd O j = some q → j < nx0) : ∀ (new : List (Nat × Sp)), (∀ p ∈ new, nx0 ≤ p.1) → St.Sub ⟨l, c, O, nx⟩ ⟨l ++ m, c ++ d, new ++ O, nx⟩ := fun new hn =>
  sub_pre fun k sp e => ⟨sp, by
    have hk := hO k sp e
    induction new with
    | nil => exact e
    | cons p new ih => exact fd_next (beq_ff.mpr (by have := hn p (by simp); lia)) (ih fun q hq => hn q (List.mem_cons_of_mem _ hq)), .rfl'⟩
noncomputable def comeBody : List Stmt := match ((bodyOf 23)[9]? : Option Stmt) with | some (Stmt.For _ _ b _ _) => b | _ => []
section
variable {w : World} {n b : Nat}
noncomputable abbrev locB (cars : Str) (kW : Nat) : List (Str × D) := [(Str.ofString "cars", .str cars), (Str.ofString "books", .ref (kW + 1))]
theorem come_turn (m : Int) (cars : Str) (ws : List Int) (k kW nx i : Nat) (dss : List (List Nat)) (hnx : kW + 1 + (dss.length + 1) ≤ nx) (hi : i < dss.length) (hd : dss.length ≤ 100) (hl : ws.length ≤ 10) (hk1 : 1 ≤ k) (hk : k ≤ 10) (ht : toldS (ws.take (i + 1)) k = rowsS (dss.getD i [])) {Q : Fl → St → Prop}
    (hQ : ∀ nx', nx ≤ nx' → Q .next ⟨locB cars kW, celL m k kW, objL ws kW dss, nx'⟩) :
    WB w (fmOf 23) (n + 4) b ⟨[(Str.ofString "cars", .str cars), (Str.ofString "books", .ref (kW + 1)), (Str.ofString "come", .int i)], celL m k kW, objL ws kW dss, nx⟩ comeBody Q := by
  refine WS.weak ?_
  show WB w (fmOf 23) (n + 4) b _ (_ :: _) _
  refine wB_cons ?_
  refine wX_If ?_
  refine wT_Cmp (by with_unfolding_all rfl) ?_
  repeat (walk_at "m")
  refine w2_item (j := i) (by walk_at "m_fd") rfl (seqI (by lia) (by show (i : Int) < (((refsF (kW + 1 + 1) dss.length).length : Nat) : Int); rw [refsF_len]; lia)) (refsF_at hi) ⟨by lia, by lia⟩ ?_
  refine wE_CallF (fa_told w) (name_is (by decide +kernel) (gf_told w)) (by with_unfolding_all rfl) ?_
  with_reducible refine wEs_cons (by intro _; with_unfolding_all rfl) ?_
  refine wE_SliceL ?_
  repeat (walk_at "m")
  refine wPa_none ?_
  refine wPa_some ?_
  repeat (walk_at "m")
  refine wPa_none ?_
  refine ⟨kW, _, none, some _, none, rfl, objL_w, rfl, by simp [sizeLine]; lia, rfl, rfl, rfl, by simp, ?_⟩
  dsimp only
  rw [show (i : Int) + 1 = ((i + 1 : Nat) : Int) by lia, pickD_take, ← List.map_take]
  refine mk_ ?_
  repeat (walk_at "m")
  refine w2_of (wL_told (ns := ws.take (i + 1)) (by walk_at "m_fd") rfl rfl (intsD_map _) (by rw [List.length_take]; lia) hk1 hk ?_)
  rw [ht]
  refine mk_ ?_
  refine w2_lne (xs := rowsS (dss.getD i [])) (fd_next (beq_ff.mpr (by lia)) (fd_next (beq_ff.mpr (by lia)) (objL_at hi))) rfl rfl (by walk_at "m_fd") rfl rfl ?_
  repeat (walk_at "m")
  refine ife_f rfl ?_
  repeat (walk_at "m")
  refine ⟨_, ?_, hQ (nx + 1 + 1) (by lia)⟩
  exact sub_more (l := locB cars kW) (m := [(Str.ofString "come", .int i)]) (c := celL m k kW) (d := []) (objL_lt hnx) [_, _] (by intro p hp; simp at hp; rcases hp with rfl | rfl <;> simp)
theorem come_loop (m : Int) (cars : Str) (ws : List Int) (k kW : Nat) (dss : List (List Nat)) (hd : dss.length ≤ 100) (hl : ws.length ≤ 10) (hk1 : 1 ≤ k) (hk : k ≤ 10) {Q : Fl → St → Prop} : ∀ (is : List Nat) (nx : Nat), kW + 1 + (dss.length + 1) ≤ nx → (∀ i ∈ is, i < dss.length ∧ toldS (ws.take (i + 1)) k = rowsS (dss.getD i [])) →
    (∀ nx', nx ≤ nx' → Q .next ⟨locB cars kW, celL m k kW, objL ws kW dss, nx'⟩) →
    Loop w (fmOf 23) (n + 4) b (Str.ofString "come") comeBody Q (is.map fun (i : Nat) => D.int i) ⟨locB cars kW, celL m k kW, objL ws kW dss, nx⟩
  | [], nx, _, _, hQ => hQ nx (Nat.le_refl _)
  | i :: is, nx, hnx, hi, hQ => by
    show Sto (fmOf 23) _ _ _ _
    walk_at "m"
    refine come_turn m cars ws k kW nx i dss hnx (hi i (by simp)).1 hd hl hk1 hk (hi i (by simp)).2 fun nx' hn => ?_
    exact come_loop m cars ws k kW dss hd hl hk1 hk is nx' (by lia) (fun j hj => hi j (List.mem_cons_of_mem _ hj)) fun nx'' h => hQ nx'' (by lia)
theorem law_f (m : Int) (cars : Str) (ws : List Int) (k kW : Nat) (dss : List (List Nat)) (hd : dss.length ≤ 100) (hl : ws.length ≤ 10) (hk1 : 1 ≤ k) (hk : k ≤ 10) (hc : cars.length = dss.length) (hi : ∀ i, i < dss.length → toldS (ws.take (i + 1)) k = rowsS (dss.getD i [])) {Q : Fl → St → Prop}
    (hQ : ∀ nx', kW + 1 + (dss.length + 1) ≤ nx' → WB w (fmOf 23) (n + 4) b ⟨locB cars kW, celL m k kW, objL ws kW dss, nx'⟩ ((bodyOf 23).drop 10) Q) :
    WB w (fmOf 23) (n + 4) b ⟨locB cars kW, celL m k kW, objL ws kW dss, kW + 1 + (dss.length + 1)⟩ ((bodyOf 23).drop 9) Q := by
  show WB w (fmOf 23) (n + 4) b _ (_ :: (bodyOf 23).drop 10) _
  refine wB_cons ?_
  refine wX_For (by intro _ _; with_unfolding_all rfl) ?_
  refine wI_range (bltn_is (by decide +kernel) (g_range _).1 (g_range _).2) (by with_unfolding_all rfl) ?_
  with_reducible refine wEs_cons (by intro _; with_unfolding_all rfl) ?_
  repeat (walk_at "m")
  refine w1_lenS (by lia) ?_
  repeat (walk_at "m")
  refine ⟨_, _, rfl, okR0 (n := 100) (by decide) (hc ▸ hd), ?_⟩
  have e : rangeD 0 ((cars.length : Int) - 0).toNat = (List.range dss.length).map fun (i : Nat) => D.int i := by
    rw [ar_sub0, hc]; simp [rangeD]
  rw [e]
  refine come_loop m cars ws k kW dss hd hl hk1 hk _ _ (Nat.le_refl _) (fun i h => ⟨List.mem_range.mp h, hi i (List.mem_range.mp h)⟩) fun nx' h => ?_
  exact hQ nx' h
end
end
section
theorem seq_neg {L : Nat} (hL : 0 < L) : seqIndex? (-1) L = some (L - 1) := by
  unfold seqIndex?
  have : ((-1 : Int) + L) = ((L - 1 : Nat) : Int) := by lia
  simp [this]
  lia
noncomputable abbrev dotsN (dss : List (List Nat)) : List Nat := dss.getD (dss.length - 1) []
noncomputable def lenF : D → D
  | .str x => .int x.length
  | d => d
theorem dots_map (ds : List Nat) (k : Nat) (h : ds.length = k) : ((rowsD ds).take k).map lenF = (ds.map fun (d : Nat) => (d : Int)).map D.int := by
  subst h
  have : (rowsD ds).take ds.length = ds.map fun d => D.str (repS 46 d) := by
    show ((rowsS ds).map D.str).take ds.length = _
    rw [← List.map_take, rowsS, List.take_append_of_le_length (by simp), List.take_of_length_le (by simp), List.map_map]
    rfl
  rw [this]
  simp [lenF, Function.comp_def, repS, Str.length]
noncomputable def pieceF (m : Int) (ws : List Int) : D → D
  | .int p => .str (pieceS m p (ws.count p))
  | d => d
theorem piece_map (m : Int) (ws : List Int) (k : Nat) : (rangeD 0 k).map (pieceF m ws) = ((List.range k).map fun (i : Nat) => pieceS m (i : Int) (ws.count (i : Int))).map D.str := by
  simp [rangeD, pieceF, Function.comp_def]
section
variable {w : World} {n b : Nat}
theorem law_g (m : Int) (cars : Str) (ws : List Int) (k kW nx : Nat) (dss dss' : List (List Nat)) (hnx : kW + 1 + (dss.length + 1) ≤ nx) (hd : dss.length ≤ 100) (hl : ws.length ≤ 100) (hk1 : 1 ≤ k) (hk : k ≤ 10)
    (hp : parkAll k ws.reverse ((List.range k).map fun (i : Nat) => (i : Int)) (List.replicate k 0) = some dss') (hne : 0 < dss.length) (hll : dss'.length = dss.length) (he : dotsN dss' = dotsN dss) {Q : Fl → St → Prop}
    (hQ : ∀ nx', nx ≤ nx' → WB w (fmOf 23) (n + 4) b ⟨locB cars kW, celL m k kW, objL ws kW dss, nx'⟩ ((bodyOf 23).drop 11) Q) :
    WB w (fmOf 23) (n + 4) b ⟨locB cars kW, celL m k kW, objL ws kW dss, nx⟩ ((bodyOf 23).drop 10) Q := by
  have hi : dss.length - 1 < dss.length := by lia
  have hi' : dss'.length - 1 < dss'.length := by lia
  show WB w (fmOf 23) (n + 4) b _ (_ :: (bodyOf 23).drop 11) _
  refine wB_cons ?_
  refine wX_If ?_
  refine wT_Cmp (by with_unfolding_all rfl) ?_
  refine wE_Sub ?_
  with_reducible refine wE_CallF (fa_parked w) (name_is (by decide +kernel) (gf_parked w)) (by with_unfolding_all rfl) ?_
  with_reducible refine wEs_cons (by intro _; with_unfolding_all rfl) ?_
  refine wE_SliceL ?_
  repeat (walk_at "m")
  refine wPa_none ?_
  refine wPa_none ?_
  refine wPa_some ?_
  repeat (walk_at "m")
  refine ⟨kW, _, none, none, some (-1), rfl, objL_w, rfl, by simp [sizeLine]; lia, rfl, rfl, rfl, by simp, ?_⟩
  dsimp only
  rw [pickD_rev, ← List.map_reverse]
  refine mk_ ?_
  repeat (walk_at "m")
  refine w2_of (wL_parked (ns := ws.reverse) (by walk_at "m_fd") rfl rfl (by simpa using hl) hk1 hk hp ?_)
  repeat (walk_at "m")
  refine w2_item (j := dss'.length - 1) (by walk_at "m_fd") rfl (by show seqIndex? (-1) (refsF _ dss'.length).length = _; rw [refsF_len]; exact seq_neg (by lia)) (refsF_at (i := dss'.length - 1) (m := dss'.length) (by lia)) ⟨by lia, by lia⟩ ?_
  have low : ∀ {j : Nat} {q : Sp}, j < nx → fd (objL ws kW dss) j = some q → fd ((nx + 1, (⟨"list", refsF (nx + 1 + 1) dss'.length, false, true⟩ : Sp)) :: (bookO (nx + 1 + 1) dss' ++ (nx, (⟨"list", ws.reverse.map D.int, false, true⟩ : Sp)) :: objL ws kW dss)) j = some q := fun {j q} hj e =>
    fd_next (beq_ff.mpr (by lia)) ((fd_book_lt dss' _ j _ (by lia)).trans (fd_next (beq_ff.mpr (by lia)) e))
  repeat (walk_at "m")
  refine w2_item (j := dss.length - 1) (low (by lia) fd_here) rfl (by show seqIndex? (-1) (refsF _ dss.length).length = _; rw [refsF_len]; exact seq_neg hne) (refsF_at hi) ⟨by lia, by lia⟩ ?_
  refine w2_lne (xs := rowsS (dotsN dss)) (fd_next (beq_ff.mpr (by lia)) (fd_book_at dss' _ _ _ hi')) rfl ?_ (low (by lia) (objL_at hi)) rfl rfl ?_
  · show rowsD (dotsN dss') = _
    rw [he]
  repeat (walk_at "m")
  refine ife_f rfl ?_
  repeat (walk_at "m")
  refine WS.sub ?_ (hQ (nx + 1 + (dss'.length + 1)) (by lia))
  refine ⟨rfl, fun _ _ e => e, fun _ _ e => e, fun j q e => ⟨q, low ?_ e, .rfl'⟩⟩
  exact objL_lt hnx j q e
theorem law_h (m : Int) (cars : Str) (ws : List Int) (k kW nx : Nat) (dss : List (List Nat)) (hnx : kW + 1 + (dss.length + 1) ≤ nx) (hd : dss.length ≤ 100) (hk1 : 1 ≤ k) (hk : k ≤ 10) (hne : 0 < dss.length) (hlk : (dotsN dss).length = k) (hb : ∀ d ∈ dotsN dss, d ≤ 100) {Q : Fl → St → Prop}
    (hQ : ∀ nx' kD, kW < kD → kD < nx' → WB w (fmOf 23) (n + 4) b ⟨[], [(Str.ofString "mark", .int m), (Str.ofString "size", .int k), (Str.ofString "wishes", .ref kW), (Str.ofString "dots", .ref kD)], [(kD, ⟨"list", ((dotsN dss).map fun (d : Nat) => (d : Int)).map D.int, false, true⟩), (kW, ⟨"list", ws.map D.int, false, true⟩)], nx'⟩ ((bodyOf 23).drop 12) Q) :
    WB w (fmOf 23) (n + 4) b ⟨locB cars kW, celL m k kW, objL ws kW dss, nx⟩ ((bodyOf 23).drop 11) Q := by
  have hi : dss.length - 1 < dss.length := by lia
  have hrl : (rowsD (dotsN dss)).length ≤ sizeLine := by rw [rows_len, hlk]; unfold sizeLine; lia
  show WB w (fmOf 23) (n + 4) b _ (_ :: (bodyOf 23).drop 12) _
  refine wB_cons ?_
  refine wX_AssignOk (fun env ok => swaps_f ok (by decide +kernel)) ?_
  refine wE_Comp rfl rfl (by decide +kernel) (by intro _ _; with_unfolding_all rfl) ?_
  refine wI_list ?_
  refine W0.weak ?_
  refine wE_SliceL ?_
  repeat (walk_at "m")
  refine w2_item (j := dss.length - 1) fd_here rfl (by show seqIndex? (-1) (refsF _ dss.length).length = _; rw [refsF_len]; exact seq_neg hne) (refsF_at hi) ⟨by lia, by lia⟩ ?_
  refine wPa_none ?_
  refine wPa_some ?_
  repeat (walk_at "m")
  refine wPa_none ?_
  refine ⟨_, _, none, some k, none, rfl, objL_at hi, rfl, hrl, rfl, rfl, rfl, by simp, ?_⟩
  dsimp only
  rw [pickD_take]
  refine mk_ ?_
  refine ⟨_, sub_fz0, ?_⟩
  refine ⟨nx, _, rfl, fd_here, rfl, rfl, ?_⟩
  refine ⟨by rw [List.length_take]; exact Nat.le_trans (Nat.min_le_right _ _) hrl, ?_⟩
  dsimp only
  refine cloop_map lenF (Nat.le_refl _) _ _ _ (.inl rfl) ?_ ?_
  · intro d hd Q hQ
    obtain ⟨x, hx, rfl⟩ := List.mem_map.mp (List.mem_of_mem_take hd)
    repeat (walk_at "m")
    refine w1_lenS ?_ hQ
    have : x.length ≤ 100 := by
      rcases List.mem_append.mp hx with h | h
      · obtain ⟨d, h1, rfl⟩ := List.mem_map.mp h
        have := hb d h1
        simpa [repS, Str.length] using this
      · rw [List.mem_singleton.mp h]; decide +kernel
    lia
  · intro l
    rw [List.nil_append, dots_map _ k hlk]
    refine cend_map (cld_no (noRef_int _)) (by rw [List.length_map, List.length_map]; show (dotsN dss).length ≤ _; rw [hlk]; unfold sizeLine; lia) ?_
    refine mk_ ?_
    repeat (walk_at "m")
    refine WS.sub (σ := ⟨[], [(Str.ofString "mark", .int m), (Str.ofString "size", .int k), (Str.ofString "wishes", .ref kW), (Str.ofString "dots", .ref (nx + 1))], [(nx + 1, ⟨"list", ((dotsN dss).map fun (d : Nat) => (d : Int)).map D.int, false, true⟩), (kW, ⟨"list", ws.map D.int, false, true⟩)], nx + 1 + 1⟩) ⟨rfl, lk_nil, fun _ _ e => e, fd_all ⟨_, fd_here, .rfl'⟩ (fd_all ⟨_, ?_, .rfl'⟩ fd_no)⟩ (hQ _ _ (by lia) (by lia))
    exact fd_next (beq_ff.mpr (by lia)) (fd_next (beq_ff.mpr (by lia)) objL_w)
theorem law_i (m : Int) (ws : List Int) (k kW kD nx : Nat) (ds : List Int) (h1 : kW < kD) (h2 : kD < nx) (hk : k ≤ 10) (hl : ws.length ≤ 100) {Q : Fl → St → Prop}
    (hQ : ∀ nx' kP, kD < kP → kP < nx' → WB w (fmOf 23) (n + 4) b ⟨[], [(Str.ofString "size", .int k), (Str.ofString "dots", .ref kD), (Str.ofString "pieces", .ref kP)], [(kP, ⟨"list", ((List.range k).map fun (i : Nat) => pieceS m (i : Int) (ws.count (i : Int))).map D.str, false, true⟩), (kD, ⟨"list", ds.map D.int, false, true⟩)], nx'⟩ ((bodyOf 23).drop 13) Q) :
    WB w (fmOf 23) (n + 4) b ⟨[], [(Str.ofString "mark", .int m), (Str.ofString "size", .int k), (Str.ofString "wishes", .ref kW), (Str.ofString "dots", .ref kD)], [(kD, ⟨"list", ds.map D.int, false, true⟩), (kW, ⟨"list", ws.map D.int, false, true⟩)], nx⟩ ((bodyOf 23).drop 12) Q := by
  show WB w (fmOf 23) (n + 4) b _ (_ :: (bodyOf 23).drop 13) _
  refine wB_cons ?_
  refine wX_AssignOk (fun env ok => swaps_f ok (by decide +kernel)) ?_
  refine wE_Comp rfl rfl (by decide +kernel) (by intro _ _; with_unfolding_all rfl) ?_
  refine wI_range (bltn_is (by decide +kernel) (g_range _).1 (g_range _).2) (by with_unfolding_all rfl) ?_
  repeat (walk_at "m")
  refine ⟨_, _, rfl, okR0 (n := 10) (by decide) hk, ?_⟩
  refine ⟨by simp only [rangeD, List.length_map, List.length_range]; unfold sizeLine; lia, ?_⟩
  have ec : celOf [(Str.ofString ".0", NameKind.local), (Str.ofString "place", NameKind.local), (Str.ofString "_law_piece", NameKind.globalImplicit), (Str.ofString "mark", NameKind.free), (Str.ofString "wishes", NameKind.free)] [(Str.ofString "mark", .int m), (Str.ofString "size", .int k), (Str.ofString "wishes", .ref kW), (Str.ofString "dots", .ref kD)] = [(Str.ofString "mark", .int m), (Str.ofString "wishes", .ref kW)] := by kernel_rfl
  dsimp only
  rw [ec]
  refine cloop_map (pieceF m ws) (Nat.le_refl _) _ _ _ (.inl rfl) ?_ ?_
  · intro d hd Q hQ
    obtain ⟨i, hi, rfl⟩ := List.mem_map.mp hd
    have hi' := List.mem_range.mp hi
    have := List.count_le_length (a := (0 + (i : Nat) : Int)) (l := ws)
    with_reducible refine wE_CallF (fa_piece w) (name_is (by decide +kernel) (gf_piece w)) (by with_unfolding_all rfl) ?_
    repeat (walk_at "m")
    refine wL_piece (ns := ws) (fd_next (beq_ff.mpr (by lia)) fd_here) rfl rfl (intsD_map _) (by lia) (by lia) (by lia) ?_
    exact hQ
  · intro l
    rw [List.nil_append, ar_sub0, piece_map]
    refine cend_map (cld_no (noRef_str _)) (by simp [sizeLine]; lia) ?_
    refine mk_ ?_
    repeat (walk_at "m")
    refine WS.sub (σ := ⟨[], [(Str.ofString "size", .int k), (Str.ofString "dots", .ref kD), (Str.ofString "pieces", .ref nx)], [(nx, ⟨"list", ((List.range k).map fun (i : Nat) => pieceS m (i : Int) (ws.count (i : Int))).map D.str, false, true⟩), (kD, ⟨"list", ds.map D.int, false, true⟩)], nx + 1⟩) ⟨rfl, lk_nil, lk_all (by walk_at "m_lk") (lk_all (by walk_at "m_lk") (lk_all (by walk_at "m_lk") lk_nil)), fd_all ⟨_, fd_here, .rfl'⟩ (fd_all ⟨_, by walk_at "m_fd", .rfl'⟩ fd_no)⟩ (hQ _ _ (by lia) (by lia))
end
end
section
noncomputable def dAt (ds : List Int) (p : Int) : Int := ds.getD p.toNat 0
noncomputable def stN (k first len : Nat) : List Int := (List.range len).map fun (s : Nat) => ((first : Int) + (s : Nat)).fmod k
noncomputable def dueN (ds : List Int) (over : Int) (st : List Int) : Bool := (dAt ds (st.getD (st.length - 1) 0) == over + 1) && st.all (fun p => decide (over < dAt ds p))
noncomputable def textN (ps : List Str) (st : List Int) : Str := Txt.join (Str.ofString "") (st.map fun p => ps.getD p.toNat (Str.ofString ""))
structure FitX (x : Str) (c : Bool) : Prop where
  l1 : x.length ≤ 500
  e1 : escF false x.cps.toList = false
  l2 : (stripS x).length ≤ 500
  e2 : escF false (stripS x).cps.toList = false
  c : checkS x = c
noncomputable def firstBody : List Stmt := match ((bodyOf 23)[13]? : Option Stmt) with | some (Stmt.For _ _ b _ _) => b | _ => []
noncomputable def lenBody : List Stmt := match (firstBody[1]? : Option Stmt) with | some (Stmt.For _ _ b _ _) => b | _ => []
theorem stN_b {k first len : Nat} (hk : 1 ≤ k) : ∀ p ∈ stN k first len, 0 ≤ p ∧ p < k := fun p hp => by
  obtain ⟨s, _, rfl⟩ := List.mem_map.mp hp
  exact fmod_b _ k (by lia)
theorem stN_len (k first len : Nat) : (stN k first len).length = len := by simp [stN]
noncomputable abbrev celP (k kD kP first : Nat) : List (Str × D) := [(Str.ofString "size", .int k), (Str.ofString "dots", .ref kD), (Str.ofString "pieces", .ref kP), (Str.ofString "first", .int first)]
noncomputable abbrev objP (kD kP : Nat) (ds : List Int) (ps : List Str) : List (Nat × Sp) := [(kP, ⟨"list", ps.map D.str, false, true⟩), (kD, ⟨"list", ds.map D.int, false, true⟩)]
noncomputable abbrev locO (over : Int) : List (Str × D) := [(Str.ofString "over", .int over)]
noncomputable def atF (ps : List Str) : D → D
  | .int p => .str (ps.getD p.toNat (Str.ofString ""))
  | d => d
theorem at_map (ps : List Str) (st : List Int) : (st.map D.int).map (atF ps) = (st.map fun p => ps.getD p.toNat (Str.ofString "")).map D.str := by
  simp [atF, Function.comp_def]
theorem strs_at {l : List Str} {i : Nat} (h : i < l.length) : (l.map D.str)[i]? = some (.str (l.getD i (Str.ofString ""))) := by
  rw [List.getElem?_map, List.getElem?_eq_getElem h, List.getD_eq_getElem?_getD, List.getElem?_eq_getElem h]; rfl
theorem text_jn (ps : List Str) (st : List Int) (hl : st.length ≤ 10) (hp : ∀ p ∈ ps, p.length ≤ 200) : ((st.map fun p => ps.getD p.toNat (Str.ofString "")).map (·.length)).sum + (st.map fun p => ps.getD p.toNat (Str.ofString "")).length * (Str.ofString "").length ≤ 16777216 := by
  have := sum_le (l := (st.map fun p => ps.getD p.toNat (Str.ofString "")).map (·.length)) (B := 200) (by
    intro x hx
    obtain ⟨y, hy, rfl⟩ := List.mem_map.mp hx
    obtain ⟨p, _, rfl⟩ := List.mem_map.mp hy
    rw [List.getD_eq_getElem?_getD]
    cases e : ps[p.toNat]? with
    | none => simp only [Option.getD_none]; rw [show (Str.ofString "").length = 0 by decide +kernel]; lia
    | some q => exact hp q (List.mem_of_getElem? e))
  rw [List.length_map, List.length_map] at this
  rw [show (Str.ofString "").length = 0 by decide +kernel]
  lia
section
variable {w : World} {n b : Nat}
theorem len_c (k kD kP kS first nx len : Nat) (over : Int) (c : Bool) (ds : List Int) (ps : List Str) (objs : List (Nat × Sp)) (hk1 : 1 ≤ k) (hk : k ≤ 10) (hps : ps.length = k) (hpl : ∀ p ∈ ps, p.length ≤ 200) (hlen : len ≤ 10)
    (hO : ∀ j q, fd (objP kD kP ds ps) j = some q → fd objs j = some q ∧ j < nx) (hS : fd objs kS = some ⟨"list", (stN k first len).map D.int, true, true⟩) (hf : FitX (textN ps (stN k first len)) c) {Q : Fl → St → Prop}
    (hQ : ∀ nx', nx ≤ nx' → Q .next ⟨locO over, celP k kD kP first, objP kD kP ds ps, nx'⟩) :
    WB w (fmOf 23) (n + 4) b ⟨[(Str.ofString "over", .int over), (Str.ofString "length", .int len), (Str.ofString "stretch", .ref kS), (Str.ofString "due", .bool c)], celP k kD kP first, objs, nx⟩ (lenBody.drop 2) Q := by
  have hP := (hO kP _ fd_here).1
  refine WS.weak ?_
  show WB w (fmOf 23) (n + 4) b _ (_ :: _) _
  refine wB_cons ?_
  refine wX_If ?_
  refine wT_Cmp (by with_unfolding_all rfl) ?_
  with_reducible refine wE_CallF (fa_check w) (name_is (by decide +kernel) (gf_check w)) (by with_unfolding_all rfl) ?_
  with_reducible refine wEs_consP (by with_unfolding_all rfl) ?_
  with_reducible refine wE_MethC (id := "str.join") (by with_unfolding_all rfl) (by with_unfolding_all rfl) ?_
  repeat (walk_at "m")
  refine ⟨gm_join, ?_⟩
  with_reducible refine wEs_consP (by with_unfolding_all rfl) ?_
  refine wE_Comp rfl rfl (by decide +kernel) (by intro _ _; with_unfolding_all rfl) ?_
  refine wI_list ?_
  repeat (walk_at "m")
  refine ⟨kS, _, rfl, hS, rfl, rfl, ?_⟩
  refine ⟨by rw [List.length_map, stN_len]; unfold sizeLine; lia, ?_⟩
  have ec : celOf [(Str.ofString ".0", NameKind.local), (Str.ofString "place", NameKind.local), (Str.ofString "pieces", NameKind.free)] (celP k kD kP first) = [(Str.ofString "pieces", .ref kP)] := by kernel_rfl
  dsimp only
  rw [ec]
  refine cloop_map (atF ps) (Nat.le_refl _) _ _ _ (.inl rfl) ?_ ?_
  · intro d hd Q hQ
    obtain ⟨p, hp, rfl⟩ := List.mem_map.mp hd
    have hb := stN_b hk1 p hp
    repeat (walk_at "m")
    refine w2_item (k := kP) (j := p.toNat) ((fd_freeze objs kP).trans (by rw [hP]; rfl)) rfl (seqI hb.1 (by rw [List.length_map, hps]; lia)) (strs_at (l := ps) (i := p.toNat) (by lia)) ⟨by lia, by lia⟩ ?_
    exact hQ
  · intro l
    rw [List.nil_append, at_map]
    refine cend_map (cld_no (noRef_str _)) (by rw [List.length_map, List.length_map, stN_len]; unfold sizeLine; lia) ?_
    refine mk_ ?_
    repeat (walk_at "m")
    refine w2_join (by walk_at "m_fd") rfl (strsD_map _) (text_jn ps _ (by rw [stN_len]; exact hlen) hpl) ?_
    repeat (walk_at "m")
    refine w1_of (wL_check hf.l1 hf.e1 hf.l2 hf.e2 ?_)
    rw [hf.c]
    repeat (walk_at "m")
    refine w2_isNotBool ?_
    repeat (walk_at "m")
    refine ife_f (by cases c <;> rfl) ?_
    repeat (walk_at "m")
    refine ⟨_, ?_, hQ (nx + 1) (by lia)⟩
    refine ⟨rfl, lk_all (by walk_at "m_lk") lk_nil, fun _ _ e => e, fun j q e => ?_⟩
    obtain ⟨h1, h2⟩ := hO j q e
    exact ⟨q, fd_next (beq_ff.mpr (by lia)) h1, .rfl'⟩
end
end
section
noncomputable def stepF (k first : Nat) : D → D
  | .int s => .int (((first : Int) + s).fmod k)
  | d => d
theorem step_map (k first len : Nat) : (rangeD 0 len).map (stepF k first) = (stN k first len).map D.int := by
  simp [rangeD, stN, stepF, Function.comp_def]
noncomputable def dotF (ds : List Int) : D → D
  | .int p => .int (dAt ds p)
  | d => d
theorem dot_map (ds : List Int) (st : List Int) : (st.map D.int).map (dotF ds) = (st.map (dAt ds)).map D.int := by
  simp [dotF, Function.comp_def]
theorem min_all {ds : List Int} {st : List Int} {M over : Int} (h : M ∈ st.map (dAt ds)) (h' : ∀ a ∈ st.map (dAt ds), M ≤ a) : decide (over < M) = st.all (fun p => decide (over < dAt ds p)) := by
  rw [Bool.eq_iff_iff, decide_eq_true_eq, List.all_eq_true]
  refine ⟨fun h1 p hp => ?_, fun h1 => ?_⟩
  · have := h' _ (List.mem_map.mpr ⟨p, hp, rfl⟩)
    exact decide_eq_true (by lia)
  · obtain ⟨p, hp, rfl⟩ := List.mem_map.mp h
    exact of_decide_eq_true (h1 p hp)
section
variable {w : World} {n b : Nat}
theorem len_turn (k kD kP first nx len : Nat) (over : Int) (ds : List Int) (ps : List Str) (hk1 : 1 ≤ k) (hk : k ≤ 10) (hds : ds.length = k) (hps : ps.length = k) (hpl : ∀ p ∈ ps, p.length ≤ 200) (hl1 : 1 ≤ len) (hlen : len ≤ 10)
    (hkk : kD < kP ∧ kP < nx) (hf : FitX (textN ps (stN k first len)) (dueN ds over (stN k first len))) {Q : Fl → St → Prop}
    (hQ : ∀ nx', nx ≤ nx' → Q .next ⟨locO over, celP k kD kP first, objP kD kP ds ps, nx'⟩) :
    WB w (fmOf 23) (n + 4) b ⟨[(Str.ofString "over", .int over), (Str.ofString "length", .int len)], celP k kD kP first, objP kD kP ds ps, nx⟩ lenBody Q := by
  obtain ⟨hk2, hk3⟩ := hkk
  show WB w (fmOf 23) (n + 4) b _ (_ :: _ :: lenBody.drop 2) _
  refine wB_cons ?_
  refine wX_AssignComp (fun env ok => swaps_t ok (by decide +kernel) (by decide) (by decide +kernel)) rfl rfl (by decide +kernel) (by intro _ _; with_unfolding_all rfl) ?_
  refine wI_range (bltn_is (by decide +kernel) (g_range _).1 (g_range _).2) (by with_unfolding_all rfl) ?_
  repeat (walk_at "m")
  refine ⟨_, _, rfl, okR0 (n := 10) (by decide) hlen, ?_⟩
  refine ⟨by simp only [rangeD, List.length_map, List.length_range]; unfold sizeLine; lia, ?_⟩
  have ec : celOf [(Str.ofString ".0", NameKind.local), (Str.ofString "step", NameKind.local), (Str.ofString "first", NameKind.free), (Str.ofString "size", NameKind.free)] (celP k kD kP first) = [(Str.ofString "size", .int k), (Str.ofString "first", .int first)] := by kernel_rfl
  dsimp only
  rw [ec]
  refine cloop_map (stepF k first) (Nat.le_refl _) _ _ _ (.inl rfl) ?_ ?_
  · intro d hd Q hQ
    obtain ⟨i, _, rfl⟩ := List.mem_map.mp hd
    repeat (walk_at "m")
    refine w2_mod (by lia) ?_
    exact hQ
  · intro l
    rw [List.nil_append, ar_sub0, step_map]
    refine cend_map (cld_no (noRef_int _)) (by rw [List.length_map, stN_len]; unfold sizeLine; lia) ?_
    refine mk_ ?_
    walk_at "m"
    walk_at "m"
    refine WS.sub sub_fz0 ?_
    refine wB_cons ?_
    refine wX_Assign (by intro _; with_unfolding_all rfl) ?_
    refine wE_And ?_
    have hgo : ∀ (c : Bool) (objs : List (Nat × Sp)) (nx' : Nat), c = dueN ds over (stN k first len) → nx < nx' → (∀ j q, fd (objP kD kP ds ps) j = some q → fd objs j = some q) → fd objs nx = some ⟨"list", (stN k first len).map D.int, true, true⟩ →
        WB w (fmOf 23) (n + 4) b ⟨[(Str.ofString "over", .int over), (Str.ofString "length", .int len), (Str.ofString "stretch", .ref nx), (Str.ofString "due", .bool c)], celP k kD kP first, objs, nx'⟩ (lenBody.drop 2) Q := by
      intro c objs nx' hc hn hO hS
      subst hc
      refine len_c k kD kP nx first nx' len over _ ds ps objs hk1 hk hps hpl hlen (fun j q e => ⟨hO j q e, ?_⟩) hS hf fun nx'' h => hQ nx'' (by lia)
      exact fd_all (P := fun j _ => j < nx') (by lia) (fd_all (by lia) fd_no) j q e
    have hst := stN_b (k := k) (first := first) (len := len) hk1
    have hsl := stN_len k first len
    generalize stN k first len = st at hgo hst hsl ⊢
    have hlast : st.length - 1 < st.length := by lia
    have hmem : st.getD (st.length - 1) 0 ∈ st := by
      rw [List.getD_eq_getElem?_getD, List.getElem?_eq_getElem hlast]; exact List.getElem_mem hlast
    have hb := hst _ hmem
    repeat (walk_at "m")
    refine w2_item (j := st.length - 1) (by walk_at "m_fd") rfl (by show seqIndex? (-1) (st.map D.int).length = _; rw [List.length_map]; exact seq_neg (by lia)) (map_at hlast) ⟨by lia, by lia⟩ ?_
    refine w2_item (j := (st.getD (st.length - 1) 0).toNat) (by walk_at "m_fd") rfl (seqI hb.1 (by rw [List.length_map, hds]; lia)) (map_at (l := ds) (i := (st.getD (st.length - 1) 0).toNat) (by lia)) ⟨by lia, by lia⟩ ?_
    repeat (walk_at "m")
    refine ⟨_, rfl, fun hc => ?_, fun hc => ?_⟩
    · with_reducible refine wE_Cmp (by with_unfolding_all rfl) ?_
      with_reducible refine wE_CallB (bltn_is (by decide +kernel) (g_min _).1 (g_min _).2) (by with_unfolding_all rfl) ?_
      with_reducible refine wEs_consP (by with_unfolding_all rfl) ?_
      refine wE_Comp rfl rfl (by decide +kernel) (by intro _ _; with_unfolding_all rfl) ?_
      refine wI_list ?_
      repeat (walk_at "m")
      refine ⟨nx, _, rfl, by walk_at "m_fd", rfl, rfl, ?_⟩
      refine ⟨by rw [List.length_map, hsl]; unfold sizeLine; lia, ?_⟩
      have ec : celOf [(Str.ofString ".0", NameKind.local), (Str.ofString "place", NameKind.local), (Str.ofString "dots", NameKind.free)] (celP k kD kP first) = [(Str.ofString "dots", .ref kD)] := by kernel_rfl
      dsimp only
      rw [ec]
      refine cloop_map (dotF ds) (Nat.le_refl _) _ _ _ (.inl rfl) ?_ ?_
      · intro d hd Q hQ
        obtain ⟨p, hp, rfl⟩ := List.mem_map.mp hd
        have hb := hst p hp
        repeat (walk_at "m")
        refine w2_item (k := kD) (j := p.toNat) (fd_next (beq_ff.mpr (by lia)) (fd_next (beq_ff.mpr (by lia)) fd_here)) rfl (seqI hb.1 (by rw [List.length_map, hds]; lia)) (map_at (l := ds) (i := p.toNat) (by lia)) ⟨by lia, by lia⟩ ?_
        exact hQ
      · intro l
        rw [List.nil_append, dot_map]
        refine cend_map (cld_no (noRef_int _)) (by rw [List.length_map, List.length_map, hsl]; unfold sizeLine; lia) ?_
        refine mk_ ?_
        repeat (walk_at "m")
        refine w1_min (ns := st.map (dAt ds)) (by walk_at "m_fd") rfl rfl (by rw [List.length_map]; lia) fun M h1 h2 => ?_
        repeat (walk_at "m")
        refine' hgo _ _ _ ?z1 ?z2 ?z3 ?z4
        case z2 => lia
        case z4 => walk_at "m_fd"
        · rw [min_all h1 h2]
          unfold dueN
          rw [show (dAt ds (st.getD (st.length - 1) 0) == over + 1) = true from hc, Bool.true_and]
        · refine fd_all ?_ (fd_all ?_ fd_no)
          · walk_at "m_fd"
          · walk_at "m_fd"
    · repeat (walk_at "m")
      refine' hgo _ _ _ ?y1 ?y2 ?y3 ?y4
      case y2 => lia
      case y4 => walk_at "m_fd"
      · unfold dueN
        rw [show (dAt ds (st.getD (st.length - 1) 0) == over + 1) = false from hc, Bool.false_and]
      · refine fd_all ?_ (fd_all ?_ fd_no)
        · walk_at "m_fd"
        · walk_at "m_fd"
end
end
section
noncomputable def overN (ds : List Int) (k first : Nat) : Int := if 0 > ds.getD (if first = 0 then k - 1 else first - 1) 0 - 1 then 0 else ds.getD (if first = 0 then k - 1 else first - 1) 0 - 1
theorem rangeD_one (m : Nat) : rangeD 1 m = ((List.range m).map (· + 1)).map fun (i : Nat) => D.int i := by
  simp only [rangeD, List.map_map]
  apply List.map_congr_left
  intro i _
  simp only [Function.comp_def]
  congr 1
  lia
section
variable {w : World} {n b : Nat}
theorem len_loop (k kD kP first : Nat) (over : Int) (ds : List Int) (ps : List Str) (hk1 : 1 ≤ k) (hk : k ≤ 10) (hds : ds.length = k) (hps : ps.length = k) (hpl : ∀ p ∈ ps, p.length ≤ 200) (hkk : kD < kP) {Q : Fl → St → Prop} : ∀ (ls : List Nat) (nx : Nat), kP < nx →
    (∀ len ∈ ls, 1 ≤ len ∧ len ≤ 10 ∧ FitX (textN ps (stN k first len)) (dueN ds over (stN k first len))) → (∀ nx', nx ≤ nx' → Q .next ⟨locO over, celP k kD kP first, objP kD kP ds ps, nx'⟩) →
    Loop w (fmOf 23) (n + 4) b (Str.ofString "length") lenBody Q (ls.map fun (i : Nat) => D.int i) ⟨locO over, celP k kD kP first, objP kD kP ds ps, nx⟩
  | [], nx, _, _, hQ => hQ nx (Nat.le_refl _)
  | len :: ls, nx, hnx, hf, hQ => by
    obtain ⟨h1, h2, h3⟩ := hf len (by simp)
    show Sto (fmOf 23) _ _ _ _
    walk_at "m"
    refine len_turn k kD kP first nx len over ds ps hk1 hk hds hps hpl h1 h2 ⟨hkk, hnx⟩ h3 fun nx' h => ?_
    exact len_loop k kD kP first over ds ps hk1 hk hds hps hpl hkk ls nx' (by lia) (fun l hl => hf l (List.mem_cons_of_mem _ hl)) fun nx'' h' => hQ nx'' (by lia)
noncomputable abbrev celQ (k kD kP : Nat) : List (Str × D) := [(Str.ofString "size", .int k), (Str.ofString "dots", .ref kD), (Str.ofString "pieces", .ref kP)]
theorem first_turn (k kD kP first nx : Nat) (ds : List Int) (ps : List Str) (hk1 : 1 ≤ k) (hk : k ≤ 10) (hds : ds.length = k) (hps : ps.length = k) (hpl : ∀ p ∈ ps, p.length ≤ 200) (hkk : kD < kP ∧ kP < nx) (hfi : first < k)
    (hf : ∀ len, 1 ≤ len → len < k → FitX (textN ps (stN k first len)) (dueN ds (overN ds k first) (stN k first len))) {Q : Fl → St → Prop}
    (hQ : ∀ nx', nx ≤ nx' → Q .next ⟨[], celQ k kD kP, objP kD kP ds ps, nx'⟩) :
    WB w (fmOf 23) (n + 4) b ⟨[], celP k kD kP first, objP kD kP ds ps, nx⟩ firstBody Q := by
  obtain ⟨hk2, hk3⟩ := hkk
  refine WS.weak ?_
  show WB w (fmOf 23) (n + 4) b _ (_ :: _ :: []) _
  refine wB_cons ?_
  refine wX_Assign (by intro _; with_unfolding_all rfl) ?_
  repeat (walk_at "m")
  have hj : (if first = 0 then k - 1 else first - 1) < ds.length := by split <;> lia
  have hs : seqIndex? ((first : Int) - 1) (ds.map D.int).length = some (if first = 0 then k - 1 else first - 1) := by
    rw [List.length_map, hds]
    split
    · rename_i h; subst h; exact seq_neg (by lia)
    · rw [seqI (by lia) (by lia)]; congr 1; lia
  refine w2_item (j := if first = 0 then k - 1 else first - 1) (sp := ⟨"list", ds.map D.int, false, true⟩) (by walk_at "m_fd") rfl hs (map_at hj) ⟨by lia, by lia⟩ ?_
  repeat (walk_at "m")
  refine w2_max ?_
  rw [show (if (0 : Int) > ds.getD (if first = 0 then k - 1 else first - 1) 0 - 1 then (0 : Int) else ds.getD (if first = 0 then k - 1 else first - 1) 0 - 1) = overN ds k first from rfl]
  repeat (walk_at "m")
  refine wX_For (by intro _ _; with_unfolding_all rfl) ?_
  refine wI_range (bltn_is (by decide +kernel) (g_range _).1 (g_range _).2) (by with_unfolding_all rfl) ?_
  repeat (walk_at "m")
  refine ⟨_, _, rfl, okR1 (n := 10) (by decide) hk, ?_⟩
  rw [show ((k : Int) - 1).toNat = k - 1 from Int.toNat_sub k 1, rangeD_one]
  refine len_loop k kD kP first _ ds ps hk1 hk hds hps hpl hk2 _ nx hk3 (fun len hl => ?_) fun nx' h => ?_
  · obtain ⟨i, hi, rfl⟩ := List.mem_map.mp hl
    have := List.mem_range.mp hi
    exact ⟨by lia, by lia, hf _ (by lia) (by lia)⟩
  · refine thenB_next (wB_nil ?_)
    exact ⟨_, sub_pre (l := []) (m := locO _) (c := celQ k kD kP) (d := [(Str.ofString "first", .int first)]) (fun k sp e => ⟨sp, e, .rfl'⟩), hQ nx' h⟩
theorem first_loop (k kD kP : Nat) (ds : List Int) (ps : List Str) (hk1 : 1 ≤ k) (hk : k ≤ 10) (hds : ds.length = k) (hps : ps.length = k) (hpl : ∀ p ∈ ps, p.length ≤ 200) (hkk : kD < kP) {Q : Fl → St → Prop} : ∀ (fs : List Nat) (nx : Nat), kP < nx →
    (∀ first ∈ fs, first < k ∧ ∀ len, 1 ≤ len → len < k → FitX (textN ps (stN k first len)) (dueN ds (overN ds k first) (stN k first len))) → (∀ nx', nx ≤ nx' → Q .next ⟨[], celQ k kD kP, objP kD kP ds ps, nx'⟩) →
    Loop w (fmOf 23) (n + 4) b (Str.ofString "first") firstBody Q (fs.map fun (i : Nat) => D.int i) ⟨[], celQ k kD kP, objP kD kP ds ps, nx⟩
  | [], nx, _, _, hQ => hQ nx (Nat.le_refl _)
  | f :: fs, nx, hnx, hf, hQ => by
    obtain ⟨h1, h2⟩ := hf f (by simp)
    show Sto (fmOf 23) _ _ _ _
    walk_at "m"
    refine first_turn k kD kP f nx ds ps hk1 hk hds hps hpl ⟨hkk, hnx⟩ h1 h2 fun nx' h => ?_
    exact first_loop k kD kP ds ps hk1 hk hds hps hpl hkk fs nx' (by lia) (fun l hl => hf l (List.mem_cons_of_mem _ hl)) fun nx'' h' => hQ nx'' (by lia)
theorem law_j (k kD kP nx : Nat) (ds : List Int) (ps : List Str) (hk1 : 1 ≤ k) (hk : k ≤ 10) (hds : ds.length = k) (hps : ps.length = k) (hpl : ∀ p ∈ ps, p.length ≤ 200) (hkk : kD < kP) (hnx : kP < nx)
    (hf : ∀ first len, first < k → 1 ≤ len → len < k → FitX (textN ps (stN k first len)) (dueN ds (overN ds k first) (stN k first len))) {Q : Fl → St → Prop}
    (hQ : ∀ σ, Q (.ret (.bool true)) σ) :
    WB w (fmOf 23) (n + 4) b ⟨[], celQ k kD kP, objP kD kP ds ps, nx⟩ ((bodyOf 23).drop 13) Q := by
  show WB w (fmOf 23) (n + 4) b _ (_ :: _ :: []) _
  refine wB_cons ?_
  refine wX_For (by intro _ _; with_unfolding_all rfl) ?_
  refine wI_range (bltn_is (by decide +kernel) (g_range _).1 (g_range _).2) (by with_unfolding_all rfl) ?_
  repeat (walk_at "m")
  refine ⟨_, _, rfl, okR0 (n := 10) (by decide) hk, ?_⟩
  have e : rangeD 0 ((k : Int) - 0).toNat = (List.range k).map fun (i : Nat) => D.int i := by
    rw [ar_sub0]; simp [rangeD]
  rw [e]
  refine first_loop k kD kP ds ps hk1 hk hds hps hpl hkk _ nx hnx (fun f h => ?_) fun nx' h => ?_
  · have := List.mem_range.mp h
    exact ⟨this, fun len => hf f len this⟩
  · repeat (walk_at "m")
    exact hQ _
end
end
section
theorem slice_two (x : Str) {a b : Nat} (hab : a ≤ b) (hb : b ≤ x.length) : (sliceS x (some (a : Int)) (some (b : Int))).cps.toList = (x.cps.toList.drop a).take (b - a) := by
  have h := PySem.StrLaws.sliced_plain x hab hb
  unfold sliceS
  split
  · rename_i hl
    have hl' : b - a = x.length := by
      have := PySem.StrLaws.strSliceIndices_plain hab hb
      rw [this] at hl
      simpa using hl
    have : a = 0 := by lia
    subst this
    rw [List.drop_zero, List.take_of_length_le (by simp [Str.length] at hl' ⊢; lia)]
  · simpa using h
theorem slice_to (x : Str) {b : Nat} (hb : b ≤ x.length) : (sliceS x none (some (b : Int))).cps.toList = x.cps.toList.take b := by
  have h := slice_two x (Nat.zero_le b) hb
  have e : sliceS x none (some (b : Int)) = sliceS x (some ((0 : Nat) : Int)) (some (b : Int)) := by
    unfold sliceS; rw [PySem.StrLaws.sliceIdx_none_lo]; rfl
  rw [e, h]; simp
theorem slice_from (x : Str) {a : Nat} (ha : a ≤ x.length) : (sliceS x (some (a : Int)) none).cps.toList = x.cps.toList.drop a := by
  have h := slice_two x ha (Nat.le_refl _)
  have e : sliceS x (some (a : Int)) none = sliceS x (some (a : Int)) (some (x.length : Int)) := by
    unfold sliceS; rw [PySem.StrLaws.sliceIdx_none_hi]
  rw [e, h, List.take_of_length_le (by simp [Str.length])]
noncomputable def signsS (xs : List Int) : Str := Txt.join (Str.ofString "") (xs.map fun x => (sgn x).1)
noncomputable def meantS (xs : List Int) : Str := Txt.join (Str.ofString "") (xs.map fun x => (sgn x).2)
structure LettersOk : Prop where
  len : ∀ x, (sgn x).1.length ≤ 10 ∧ (sgn x).2.length ≤ 10
  sm : ∀ xs : List Int, xs.length ≤ 63 → smallR (Str.ofString "") (charS (signsS xs))
  read : ∀ xs : List Int, readS (signsS xs) = meantS xs
  long : ∀ ns : List Int, 5 ≤ (meantS (numsL ns)).length ∧ (meantS (numsL ns)).length ≤ 1000
noncomputable abbrev freeN (k : Nat) : List Int := (List.range k).map fun (i : Nat) => (i : Int)
noncomputable abbrev piecesN (m : Int) (ws : List Int) (k : Nat) : List Str := (List.range k).map fun (i : Nat) => pieceS m (i : Int) (ws.count (i : Int))
noncomputable abbrev dotsI (dss : List (List Nat)) : List Int := (dotsN dss).map fun (d : Nat) => (d : Int)
structure RunOk (m : Int) (k : Nat) (ws : List Int) (dss dss' : List (List Nat)) : Prop where
  p1 : parkAll k ws (freeN k) (List.replicate k 0) = some dss
  l1 : dss.length + 1 = k
  told : ∀ i, i < dss.length → toldS (ws.take (i + 1)) k = rowsS (dss.getD i [])
  p2 : parkAll k ws.reverse (freeN k) (List.replicate k 0) = some dss'
  l2 : dss'.length = dss.length
  same : dotsN dss' = dotsN dss
  dk : (dotsN dss).length = k
  db : ∀ d ∈ dotsN dss, d ≤ 100
  pl : ∀ p ∈ piecesN m ws k, p.length ≤ 200
  fit : ∀ first len, first < k → 1 ≤ len → len < k → FitX (textN (piecesN m ws k) (stN k first len)) (dueN (dotsI dss) (overN (dotsI dss) k first) (stN k first len))
noncomputable def RunsOk : Prop := ∀ (m : Int) (k : Nat) (ws : List Int), 4 ≤ k → k ≤ 6 → ws.length + 1 = k → (∀ x ∈ ws, 0 ≤ x ∧ x < k) → ∃ dss dss', RunOk m k ws dss dss'
section
variable {w : World} {n b : Nat}
theorem law_ar (n a d : Nat) (h1 : a = n) (h2 : d + 1 = n + 1) (h3 : 3 ≤ n) (h4 : n ≤ 5) : a ≤ 100 ∧ 1 ≤ n + 1 ∧ n + 1 ≤ 10 ∧ d ≤ 100 ∧ a ≤ 10 ∧ n = d ∧ 0 < d ∧ n + 1 ≤ 6 := by
  subst h1
  obtain rfl := Nat.succ.inj h2
  exact ⟨Nat.le_trans h4 (by decide), Nat.le_add_left 1 _, Nat.succ_le_succ (Nat.le_trans h4 (by decide)), Nat.le_trans h4 (by decide), Nat.le_trans h4 (by decide), rfl, Nat.lt_of_lt_of_le (by decide) h3, Nat.succ_le_succ h4⟩
theorem cars_ar (b : Int) (n L : Nat) (hb : 0 ≤ b ∧ b < 3) (h5 : 5 ≤ L) (hn : n = (3 + b).toNat) : 3 ≤ n ∧ n ≤ 5 ∧ n ≤ L ∧ (3 + b) = ((n : Nat) : Int) := by
  obtain ⟨c, rfl⟩ := Int.eq_ofNat_of_zero_le hb.1
  have hc : c < 3 := Int.ofNat_lt.mp hb.2
  have e : n = 3 + c := hn
  subst e
  have h := Nat.add_le_add_left (Nat.le_of_lt_succ hc) 3
  exact ⟨Nat.le_add_right 3 c, h, Nat.le_trans h h5, rfl⟩
theorem str_len (x : Str) : x.length = x.cps.toList.length := by simp [Str.length]
theorem law_wb (HL : LettersOk) (HR : RunsOk) (ns : List Int) (hl : ns.length ≤ 63) :
    WB w (fmOf 23) (n + 4) b ⟨[(Str.ofString "script", .ref 0)], [], [(0, ⟨"list", ns.map D.int, true, false⟩)], 1⟩ (bodyOf 23) (fun fl _ => fl = .ret (.bool true)) := by
  have hx8 : (numsL ns).length ≤ 63 := by simp [numsL]; lia
  refine law_a ns hl fun tl => ?_
  refine law_b _ (numsL ns) tl hx8 fun its tl kS hits hi => ?_
  have hlen : its.length = (numsL ns).length := by have := congrArg List.length hits; simpa using this
  have hmem : ∀ p ∈ its, ∃ x, p.2 = sgn x := fun p hp => by
    have : p.2 ∈ (numsL ns).map sgn := hits ▸ List.mem_map.mpr ⟨p, hp, rfl⟩
    obtain ⟨x, _, e⟩ := List.mem_map.mp this
    exact ⟨x, e.symm⟩
  have e1 : Txt.join (Str.ofString "") (its.map fun p => p.2.1) = signsS (numsL ns) := by
    have : its.map (fun p => p.2.1) = (numsL ns).map fun x => (sgn x).1 := by
      rw [show (its.map fun p => p.2.1) = (its.map fun p => p.2).map (·.1) by simp, hits]; simp
    rw [this]; rfl
  have e2 : Txt.join (Str.ofString "") (its.map fun p => p.2.2) = meantS (numsL ns) := by
    have : its.map (fun p => p.2.2) = (numsL ns).map fun x => (sgn x).2 := by
      rw [show (its.map fun p => p.2.2) = (its.map fun p => p.2).map (·.2) by simp, hits]; simp
    rw [this]; rfl
  refine law_c _ its tl kS hi (hlen ▸ hx8) (fun p hp => by obtain ⟨x, e⟩ := hmem p hp; rw [e]; exact HL.len x) _ _ e1 e2 (HL.sm _ hx8) (HL.read _) fun kT => ?_
  obtain ⟨h5, h1000⟩ := HL.long ns
  generalize hy : meantS (numsL ns) = y at h5 h1000 ⊢
  generalize hm : (numsL ns).sum = m
  obtain ⟨q1, q2, q3, q4⟩ := cars_ar _ _ _ (fmod_b (m + 1) 3 (by decide)) h5 rfl
  have hcl : (sliceS y none (some (3 + (m + 1).fmod 3))).length = (3 + (m + 1).fmod 3).toNat := by
    have := slice_to y q3
    rw [← q4] at this
    rw [str_len, this, List.length_take, ← str_len, Nat.min_eq_left q3]
  generalize hcars : sliceS y none (some (3 + (m + 1).fmod 3)) = cars at hcl
  have hb3 : 3 ≤ cars.length := hcl ▸ q1
  have hb5 : cars.length ≤ 5 := hcl ▸ q2
  refine law_d m y cars (cars.length + 1) kT h1000 hcars rfl ⟨hb3, hb5⟩ fun kW => ?_
  obtain ⟨dss, dss', R⟩ := HR m (cars.length + 1) (wishL cars.cps.toList (cars.length + 1)) (Nat.succ_le_succ hb3) (Nat.succ_le_succ hb5) (by rw [wishL, List.length_map, ← str_len]) (fun x hx => by
    obtain ⟨c, _, rfl⟩ := List.mem_map.mp hx
    exact fmod_b _ _ (Int.natCast_pos.mpr (Nat.succ_pos _)))
  have hwl : (wishL cars.cps.toList (cars.length + 1)).length = cars.length := by rw [wishL, List.length_map, ← str_len]
  generalize wishL cars.cps.toList (cars.length + 1) = ws at R hwl ⊢
  have hL := R.l1
  obtain ⟨a1, a2, a3, a4, a5, a6, a7, a8⟩ := law_ar cars.length ws.length dss.length hwl hL hb3 hb5
  refine law_e m cars ws (cars.length + 1) kW dss a1 a2 a3 R.p1 ?_
  refine law_f m cars ws (cars.length + 1) kW dss a4 a5 a2 a3 a6 R.told fun nx' h1 => ?_
  refine law_g m cars ws (cars.length + 1) kW nx' dss dss' h1 a4 a1 a2 a3 R.p2 a7 R.l2 R.same fun nx' h2 => ?_
  refine law_h m cars ws (cars.length + 1) kW nx' dss (Nat.le_trans h1 h2) a4 a2 a3 a7 R.dk R.db fun nx' kD h3 h4 => ?_
  refine law_i m ws (cars.length + 1) kW kD nx' (dotsI dss) h3 h4 a3 a1 fun nx' kP h5 h6 => ?_
  exact law_j (cars.length + 1) kD kP nx' (dotsI dss) (piecesN m ws (cars.length + 1)) a2 a3 (by rw [List.length_map]; exact R.dk) (by rw [List.length_map, List.length_range]) R.pl h5 h6 R.fit fun _ => rfl
end
end
section
theorem law_body : (defAt 23).2.2.1 = bodyOf 23 := by kernel_rfl
theorem law_bind {md : Value} (v : Value) : bindArgs (Calls.docDef (defAt 23).1 (defAt 23).2.1 (defAt 23).2.2.1 (defAt 23).2.2.2 md (.ref 177) .none) ⟨[v], []⟩ = pure ([Str.ofString "script"].zip [v]) := by kernel_rfl
theorem law_script : (defAt 23).2.2.2.names.lookup (Str.ofString "script") = some .local := by kernel_rfl
theorem law_locs (d : D) : locsOf (defAt 23).2.2.2.names ([Str.ofString "script"].zip [d]) [] = [(Str.ofString "script", d)] := by kernel_rfl
theorem law_cels (d : D) : celsOf (defAt 23).2.2.2.names ([Str.ofString "script"].zip [d]) [] = [] := by kernel_rfl
theorem ints_vals {ρ : Km} : ∀ {vs : List Value} {ns : List Int}, IntsAre vs ns → All2 (Val ρ) (ns.map D.int) vs
  | _, _, .nil => .nil
  | _, _, .cons i t h => .cons ⟨t, rfl⟩ (ints_vals h)
theorem law_call (HL : LettersOk) (HR : RunsOk) : LawCall := by
  intro w os s l vs ns hx hg hl hi hn
  have f := fa_law w
  obtain ⟨o, ho, hd⟩ := f.get
  have x1 : ∀ b o, (X1 w).get? b = some o → s.heap.get? b = some o := hx
  have r : Room 5 callerA := ⟨by decide, by decide, rfl⟩
  let ρ₀ : Km := fun j => if j = 0 then some l else Option.none
  have hvC : All2 (Val ρ₀) [.ref 0] [.ref l] := .cons ⟨l, if_pos rfl, rfl⟩ .nil
  refine wpAny_call (call_cells_ret (by decide) (x1 _ _ ho) hd ((X1_nolimit w).keeps x1) (f.code.keeps x1) (law_bind _) ?_ ?_ f.co f.gen f.kind)
  · intro x hx
    have hx1 : x.1 ∈ [Str.ofString "script"] := (List.of_mem_zip hx).1
    rw [List.mem_singleton.mp hx1]
    exact .inl law_script
  · intro h₁ tk Fr1 C
    let env' : Env := envOfC (defAt 23).1 (defAt 23).2.2.2 s.heap.objs.size 178 (.ref 177)
    have fresh : ∀ b, s.heap.objs.size ≤ b → s.heap.get? b = Option.none := fun b hb => by
      cases e : s.heap.get? b with
      | none => rfl
      | some o' => exact absurd (Heap.lt_size e) (Nat.not_lt.mpr hb)
    have ok' : (fmOf 23).Ok env' := ⟨rfl, f.kind, rfl, rfl, fun _ x hx => cellsFrom_some _ _ _ x (.inl hx)⟩
    obtain ⟨ol, hol, hcl, nl, hdl⟩ := hl
    have hll := Heap.lt_size hol
    have z' : Z w ⟨s.os, []⟩ env' true (fun b => s.heap.get? b) ρ₀ ⟨[(Str.ofString "script", .ref 0)], [], [(0, ⟨"list", ns.map D.int, true, false⟩)], 1⟩ { s with heap := h₁, toks := tk } := by
      refine ⟨x1, Fr1.keep, ⟨_, Fr1.ns, ?_⟩, fresh _ (Nat.le_refl _), (fun _ _ e => nomatch e), ?_, ?_, ?_, ?_, ?_, rfl, ?_⟩
      · have := maps_loc (env := env') (names := [Str.ofString "script"]) hvC (m := []) (M := fun _ => Option.none) (fun _ _ e => nomatch e)
        rw [show env'.scope.names = (defAt 23).2.2.2.names from rfl, law_locs] at this
        exact this
      · intro x c e
        have h1 := C.above x c (mem_of_lookup e)
        refine ⟨⟨_, C.cell x c e⟩, Nat.ne_of_gt h1, fun k e' => ?_, fun _ => fresh c (Nat.le_of_lt h1)⟩
        by_cases hk : k = 0
        · subst hk; cases e'; exact absurd hll (Nat.not_lt.mpr (Nat.le_of_lt h1))
        · rw [show ρ₀ k = Option.none from if_neg hk] at e'; cases e'
      · exact fun x y c e e' => name_of_addr C.apart (mem_of_lookup e) (mem_of_lookup e')
      · refine fd_all (P := fun k sp => ∃ a, ρ₀ k = some a ∧ Has ρ₀ h₁ a sp ∧ (sp.fz = false → s.heap.get? a = Option.none)) ⟨l, if_pos rfl, ⟨ol, vs, nl, Fr1.keep l ol hol, hcl, hdl, (fun h => nomatch h), ints_vals hi⟩, fun h => nomatch h⟩ fd_no
      · intro k a e
        by_cases hk : k = 0
        · subst hk; cases e; exact ⟨Nat.lt_succ_self _, Nat.ne_of_lt hll, ol, Fr1.keep l ol hol⟩
        · rw [show ρ₀ k = Option.none from if_neg hk] at e; cases e
      · intro k k' a e e'
        by_cases hk : k = 0
        · by_cases hk' : k' = 0
          · rw [hk, hk']
          · rw [show ρ₀ k' = Option.none from if_neg hk'] at e'; cases e'
        · rw [show ρ₀ k = Option.none from if_neg hk] at e; cases e
      · refine ⟨?_, _, rfl⟩
        show AllBare s.gens
        rw [hg]
        intro i h; exact absurd h (by simp)
    have hb := law_wb (w := w) (n := 0) (b := 1) HL HR ns hn
    rw [← law_body] at hb
    refine wpAny_mono (hb (Nat.le_refl _) _ env' _ ρ₀ _ (callerA.deeper env') (fun _ _ => False) ok' z' (room_deeper r)) (fun f s' h' => ?_) fun _ _ x => x
    obtain ⟨ρ', fl, σ', g1, g2, g3, g4, rfl⟩ := h'
    obtain ⟨v, rfl, hv'⟩ := g3
    exact ⟨hv', fun b o e => g4.keep b o e, g4.os, g4.gens.1⟩
end
section
noncomputable def keyNS (e : DictEntry) : Nat × Str := (match e.key with | .int i _ => i.toNat | _ => 0, match e.val with | .str m _ => m | _ => ⟨#[]⟩)
noncomputable def keyPos (e : DictEntry) : Bool := match e.key, e.val with
  | .int i _, .str _ _ => decide (0 ≤ i)
  | _, _ => false
noncomputable def findN : List (Nat × Str) → Nat → Option Str
  | [], _ => none
  | (a, m) :: r, n => bif Nat.beq a n then some m else findN r n
theorem find_N (n : Nat) : ∀ (l : List DictEntry), l.all keyPos = true → ((l.find? fun e => Value.isInt (n : Int) e.key).bind fun e => match e.val with | .str m _ => some m | _ => none) = findN (l.map keyNS) n
  | [], _ => rfl
  | e :: l, h => by
    simp only [List.all_cons, Bool.and_eq_true] at h
    have ih := find_N n l h.2
    have h1 := h.1
    unfold keyPos at h1
    split at h1
    · rename_i i t m u hk hv
      have hi : 0 ≤ i := of_decide_eq_true h1
      rw [List.find?_cons]
      cases hb : Value.isInt (n : Int) e.key
      · have hne : Nat.beq i.toNat n = false := beq_ff.mpr fun hc => by
          rw [hk] at hb
          have hin : i = (n : Int) := by lia
          simp [Value.isInt, hin] at hb
        simp only [List.map_cons, findN, keyNS, hk, hne, cond_false]
        exact ih
      · have hb' : i = (n : Int) := by
          rw [hk] at hb
          simpa [Value.isInt] using hb
        have hne : Nat.beq i.toNat n = true := by rw [hb']; simp
        simp only [List.map_cons, findN, keyNS, hk, hv, hne, cond_true, Option.bind_some]
    · cases h1
theorem b3_pos : b3ents.all keyPos = true := by kernel_rfl
noncomputable def mapN (n : Nat) : Str := (findN (b3ents.map keyNS) n).getD (Txt.lower ⟨#[n]⟩)
theorem mapS_N (c : Nat) : mapS ⟨#[c]⟩ = mapN c := by
  unfold mapS mapN b3get
  rw [← find_N c b3ents b3_pos]
  rfl
noncomputable def goodN (c : Nat) (m : Str) : Bool := (decide (m.length ≤ 3) && decide ((mapN c).length ≤ 3)) && (if tbl0.contains (c : Int) = true then m.cps.toList == [] else (mapN c).cps.toList == m.cps.toList)
noncomputable def good (p : Str × Str) : Prop := ∃ c, p.1 = ⟨#[c]⟩ ∧ goodN c p.2 = true
theorem good0 : ((List.range 27).all fun i => goodN (tbl0.getD i 0).toNat (Str.ofString "")) = true := by decide +kernel
noncomputable def scanM : List (Nat × Str) → List (Nat × Nat) → Bool
  | _, [] => true
  | [], _ :: _ => false
  | (a, m) :: T, w :: ws => bif Nat.beq a w.1 then (m.cps.toList == [w.2]) && scanM T ws else Nat.blt a w.1 && scanM T (w :: ws)
noncomputable def headLt (w : Nat × Nat) : List (Nat × Nat) → Bool
  | [] => true
  | v :: _ => Nat.blt w.1 v.1
noncomputable def ascM : List (Nat × Nat) → Bool
  | [] => true
  | w :: ws => headLt w ws && ascM ws
theorem asc_lt : ∀ (ws : List (Nat × Nat)) (w : Nat × Nat), ascM (w :: ws) = true → ∀ v ∈ ws, w.1 < v.1
  | [], _, _, _, h => nomatch h
  | u :: ws, w, h, v, hv => by
    obtain ⟨h1, h2⟩ := Bool.and_eq_true_iff.mp (show (Nat.blt w.1 u.1 && ascM (u :: ws)) = true from h)
    rcases List.mem_cons.mp hv with rfl | hv
    · exact Nat.blt_eq.mp h1
    · exact Nat.lt_trans (Nat.blt_eq.mp h1) (asc_lt ws u h2 v hv)
theorem asc_tail {w : Nat × Nat} {ws : List (Nat × Nat)} (h : ascM (w :: ws) = true) : ascM ws = true :=
  (Bool.and_eq_true_iff.mp (show (headLt w ws && ascM ws) = true from h)).2
theorem scan_found : ∀ (T : List (Nat × Str)) (ws : List (Nat × Nat)), scanM T ws = true → ascM ws = true → ∀ v ∈ ws, ∃ m, findN T v.1 = some m ∧ m.cps.toList = [v.2]
  | _, [], _, _, _, h => nomatch h
  | [], _ :: _, h, _, _, _ => Bool.noConfusion (show false = true from h)
  | (a, m) :: T, w :: ws, h, ha, v, hv => by
    have h : (bif Nat.beq a w.1 then (m.cps.toList == [w.2]) && scanM T ws else Nat.blt a w.1 && scanM T (w :: ws)) = true := h
    cases hb : Nat.beq a w.1
    · rw [hb, cond_false] at h
      obtain ⟨h1, h2⟩ := Bool.and_eq_true_iff.mp h
      have hlt : a < v.1 := by
        rcases List.mem_cons.mp hv with rfl | hv
        · exact Nat.blt_eq.mp h1
        · exact Nat.lt_trans (Nat.blt_eq.mp h1) (asc_lt ws w ha v hv)
      show ∃ m', (bif Nat.beq a v.1 then some m else findN T v.1) = some m' ∧ _
      rw [beq_ff.mpr (Nat.ne_of_lt hlt), cond_false]
      exact scan_found T (w :: ws) h2 ha v hv
    · rw [hb, cond_true] at h
      obtain ⟨h1, h2⟩ := Bool.and_eq_true_iff.mp h
      have e := Nat.eq_of_beq_eq_true hb
      show ∃ m', (bif Nat.beq a v.1 then some m else findN T v.1) = some m' ∧ _
      rcases List.mem_cons.mp hv with rfl | hv
      · rw [hb, cond_true]; exact ⟨m, rfl, eq_of_beq h1⟩
      · rw [beq_ff.mpr (Nat.ne_of_lt (e ▸ asc_lt ws w ha v hv)), cond_false]
        exact scan_found T ws h2 (asc_tail ha) v hv
noncomputable def wants : List (Nat × Nat) := (List.range 10).flatMap fun j => (List.range 26).map fun i => (119808 + 52 * (alph.getD j 0).toNat + i, 97 + i)
theorem wants_scan : scanM (b3ents.map keyNS) wants = true := by kernel_rfl
theorem wants_asc : ascM wants = true := by kernel_rfl
theorem tbl_low : ∀ x ∈ tbl0, x ≤ 65279 := by decide +kernel
theorem good3 : ∀ j i, j < 10 → i < 26 → goodN (119808 + 52 * (alph.getD j 0).toNat + i) ⟨#[97 + i]⟩ = true := by
  intro j i hj hi
  obtain ⟨m, h1, h2⟩ := scan_found _ _ wants_scan wants_asc (119808 + 52 * (alph.getD j 0).toNat + i, 97 + i) (List.mem_flatMap.mpr ⟨j, List.mem_range.mpr hj, List.mem_map.mpr ⟨i, List.mem_range.mpr hi, rfl⟩⟩)
  have hm : mapN (119808 + 52 * (alph.getD j 0).toNat + i) = m := by unfold mapN; rw [h1]; rfl
  have hlen : m.length = 1 := by show m.cps.size = 1; rw [← Array.length_toList, h2]; rfl
  have hno : ¬ (tbl0.contains ((119808 + 52 * (alph.getD j 0).toNat + i : Nat) : Int) = true) := fun h => by
    have := tbl_low _ (by simpa using h)
    lia
  unfold goodN
  rw [hm, hlen, if_neg hno, h2]
  exact Bool.and_eq_true_iff.mpr ⟨rfl, beq_self_eq_true [97 + i]⟩
noncomputable def highM : List (Nat × Str) → Bool
  | [] => true
  | (a, _) :: T => Nat.blt 122 a && highM T
theorem high_none : ∀ (T : List (Nat × Str)) (n : Nat), highM T = true → n ≤ 122 → findN T n = none
  | [], _, _, _ => rfl
  | (a, m) :: T, n, h, hn => by
    obtain ⟨h1, h2⟩ := Bool.and_eq_true_iff.mp (show (Nat.blt 122 a && highM T) = true from h)
    show (bif Nat.beq a n then some m else findN T n) = none
    rw [beq_ff.mpr (Nat.ne_of_gt (Nat.lt_of_le_of_lt hn (Nat.blt_eq.mp h1))), cond_false]
    exact high_none T n h2 hn
theorem b3_high : highM (b3ents.map keyNS) = true := by kernel_rfl
theorem mapN_low {n : Nat} (h : n ≤ 122) : mapN n = Txt.lower ⟨#[n]⟩ := by
  unfold mapN; rw [high_none _ n b3_high h]; rfl
noncomputable def goodL (c : Nat) (m : Str) : Bool := (decide (m.length ≤ 3) && decide ((Txt.lower ⟨#[c]⟩).length ≤ 3)) && (if tbl0.contains (c : Int) = true then m.cps.toList == [] else (Txt.lower ⟨#[c]⟩).cps.toList == m.cps.toList)
theorem low_good {c : Nat} {m : Str} (h : c ≤ 122) (hg : goodL c m = true) : goodN c m = true := by
  unfold goodN; rw [mapN_low h]; exact hg
theorem low1 : ((List.range 26).all fun (i : Nat) => goodL (97 + i) ⟨#[97 + i]⟩) = true := by decide +kernel
theorem low2 : ((List.range 26).all fun (i : Nat) => goodL (65 + i) ⟨#[97 + i]⟩) = true := by decide +kernel
theorem good1 : ∀ i, i < 26 → goodN (97 + i) ⟨#[97 + i]⟩ = true := fun i h => low_good (by lia) (List.all_eq_true.mp low1 i (List.mem_range.mpr h))
theorem good2 : ∀ i, i < 26 → goodN (65 + i) ⟨#[97 + i]⟩ = true := fun i h => low_good (by lia) (List.all_eq_true.mp low2 i (List.mem_range.mpr h))
theorem good4 : ((List.range 14).all fun i => goodN (sev.getD i (0, Str.ofString "")).1.toNat (sev.getD i (0, Str.ofString "")).2) = true := by decide +kernel
theorem chrS_add (a : Nat) (i : Int) (h : 0 ≤ i) : chrS ((a : Int) + i) = ⟨#[a + i.toNat]⟩ := by
  obtain ⟨n, rfl⟩ := Int.eq_ofNat_of_zero_le h
  rfl
theorem tbl_pos : ∀ i, i < 27 → 0 ≤ tbl0.getD i 0 := by decide +kernel
theorem alph_pos : ∀ j, j < 10 → 0 ≤ alph.getD j 0 := by decide +kernel
theorem ar_m (x r : Int) (hx : 0 ≤ x) (hr : 0 ≤ r) : (119808 + 52 * x + r).toNat = 119808 + 52 * x.toNat + r.toNat := by
  obtain ⟨a, rfl⟩ := Int.eq_ofNat_of_zero_le hx
  obtain ⟨b, rfl⟩ := Int.eq_ofNat_of_zero_le hr
  rfl
theorem sgn_good (x : Int) : good (sgn x) := by
  have b27 := fmod_b (x.fdiv 5) 27 (by decide)
  have b26 := fmod_b (x.fdiv 5) 26 (by decide)
  have b10 := fmod_b ((x.fdiv 5).fdiv 26) 10 (by decide)
  have b14 := fmod_b (x.fdiv 5) 14 (by decide)
  unfold sgn
  dsimp only
  split
  · exact ⟨_, rfl, List.all_eq_true.mp good0 _ (List.mem_range.mpr (by lia))⟩
  · split
    · have := good1 ((x.fdiv 5).fmod 26).toNat (by lia)
      rw [show (97 : Int) + (x.fdiv 5).fmod 26 = ((97 : Nat) : Int) + (x.fdiv 5).fmod 26 from rfl, chrS_add _ _ b26.1]
      exact ⟨_, rfl, this⟩
    · split
      · have := good2 ((x.fdiv 5).fmod 26).toNat (by lia)
        rw [show (97 : Int) + (x.fdiv 5).fmod 26 = ((97 : Nat) : Int) + (x.fdiv 5).fmod 26 from rfl, chrS_add _ _ b26.1, show (65 : Int) + (x.fdiv 5).fmod 26 = ((65 : Nat) : Int) + (x.fdiv 5).fmod 26 from rfl, chrS_add _ _ b26.1]
        exact ⟨_, rfl, this⟩
      · split
        · have := good3 ((x.fdiv 5).fdiv 26 |>.fmod 10).toNat ((x.fdiv 5).fmod 26).toNat (by lia) (by lia)
          have ha := alph_pos ((x.fdiv 5).fdiv 26 |>.fmod 10).toNat (by lia)
          rw [show (97 : Int) + (x.fdiv 5).fmod 26 = ((97 : Nat) : Int) + (x.fdiv 5).fmod 26 from rfl, chrS_add _ _ b26.1]
          refine ⟨119808 + 52 * (alph.getD ((x.fdiv 5).fdiv 26 |>.fmod 10).toNat 0).toNat + ((x.fdiv 5).fmod 26).toNat, ?_, this⟩
          show chrS _ = _
          unfold chrS
          rw [ar_m _ _ ha b26.1]
        · exact ⟨_, rfl, List.all_eq_true.mp good4 _ (List.mem_range.mpr (by lia))⟩
theorem good_len {p : Str × Str} (h : good p) : p.1.length = 1 ∧ p.2.length ≤ 3 := by
  obtain ⟨c, h1, h2⟩ := h
  unfold goodN at h2
  rw [Bool.and_eq_true] at h2
  exact ⟨by rw [h1]; rfl, of_decide_eq_true (Bool.and_eq_true_iff.mp h2.1).1⟩
theorem good_step {p : Str × Str} (h : good p) (acc : Str) : (readStep acc p.1).cps.toList = acc.cps.toList ++ p.2.cps.toList := by
  obtain ⟨c, h1, h2⟩ := h
  unfold goodN at h2
  rw [Bool.and_eq_true] at h2
  have h3 := h2.2
  unfold readStep
  rw [h1, show ordS ⟨#[c]⟩ = (c : Int) from rfl]
  split
  · rename_i ht
    rw [if_pos ht] at h3
    rw [eq_of_beq h3, List.append_nil]
  · rename_i ht
    rw [if_neg ht] at h3
    rw [Str.cps_append, Array.toList_append, mapS_N, eq_of_beq h3]
theorem read_good : ∀ (ps : List (Str × Str)) (acc : Str), (∀ p ∈ ps, good p) → ((ps.map (·.1)).foldl readStep acc).cps.toList = acc.cps.toList ++ (ps.map fun p => p.2.cps.toList).flatten
  | [], acc, _ => by simp
  | p :: ps, acc, h => by
    rw [List.map_cons, List.foldl_cons, read_good ps _ fun q hq => h q (List.mem_cons_of_mem _ hq), good_step (h p (by simp))]
    simp
theorem mapS_len {p : Str × Str} (h : good p) : (mapS p.1).length ≤ 3 := by
  obtain ⟨c, h1, h2⟩ := h
  unfold goodN at h2
  rw [Bool.and_eq_true] at h2
  rw [h1, mapS_N]
  exact of_decide_eq_true (Bool.and_eq_true_iff.mp h2.1).2
theorem joinL_nil : ∀ (l : List (List Nat)), joinL [] l = l.flatten
  | [] => rfl
  | [r] => by simp [joinL]
  | r :: s :: t => by
    show r ++ [] ++ joinL [] (s :: t) = _
    rw [joinL_nil (s :: t)]; simp
theorem empty_cps : (Str.ofString "").cps.toList = [] := by decide +kernel
theorem join_flat (ys : List Str) : (Txt.join (Str.ofString "") ys).cps.toList = (ys.map (·.cps.toList)).flatten := by
  rw [join_joinL, empty_cps, joinL_nil]
theorem char_join : ∀ (ps : List (Str × Str)), (∀ p ∈ ps, good p) → ((ps.map fun p => p.1.cps.toList).flatten.map fun c => (⟨#[c]⟩ : Str)) = ps.map (·.1)
  | [], _ => rfl
  | p :: ps, h => by
    obtain ⟨c, h1, _⟩ := h p (by simp)
    simp only [List.map_cons, List.flatten_cons, List.map_append, char_join ps fun q hq => h q (List.mem_cons_of_mem _ hq), h1, List.map_nil]
    rfl
theorem charS_signs (xs : List Int) : charS (signsS xs) = xs.map fun x => (sgn x).1 := by
  unfold charS signsS
  rw [join_flat, List.map_map]
  have := char_join (xs.map sgn) (fun p hp => by obtain ⟨x, _, rfl⟩ := List.mem_map.mp hp; exact sgn_good x)
  simp only [List.map_map] at this
  exact this
theorem meant_len (xs : List Int) : (meantS xs).length = (xs.map fun x => (sgn x).2.length).sum := by
  have : (meantS xs).length = (meantS xs).cps.toList.length := by simp [Str.length]
  rw [this]
  unfold meantS
  rw [join_flat, List.length_flatten, List.map_map, List.map_map]
  congr 1
theorem last_four : (([55, 24, 32, 838] : List Int).map fun x => (sgn x).2.length).sum = 5 := by decide +kernel
theorem letters_ok : LettersOk where
  len := fun x => by have := good_len (sgn_good x); lia
  sm := fun xs hx => by
    unfold smallR
    rw [charS_signs, List.map_map]
    have := sum_le (l := xs.map ((fun c => (mapS c).length) ∘ fun x => (sgn x).1)) (B := 3) (by
      intro k hk
      obtain ⟨x, _, rfl⟩ := List.mem_map.mp hk
      exact mapS_len (sgn_good x))
    rw [List.length_map] at this
    rw [show (Str.ofString "").length = 0 by decide +kernel]
    unfold sizeLine
    lia
  read := fun xs => by
    unfold readS
    rw [charS_signs]
    apply Str.ext'
    apply Array.toList_inj.mp
    have := read_good (xs.map sgn) (Str.ofString "") (fun p hp => by obtain ⟨x, _, rfl⟩ := List.mem_map.mp hp; exact sgn_good x)
    rw [List.map_map, List.map_map, empty_cps, List.nil_append] at this
    rw [show (xs.map fun x => (sgn x).1) = xs.map ((·.1) ∘ sgn) from rfl, this]
    unfold meantS
    rw [join_flat, List.map_map]
    rfl
  long := fun ns => by
    rw [meant_len]
    have h1 : ((numsL ns).map fun x => (sgn x).2.length).sum = (((ns.take 4).map (·.fmod 1000000)).map fun x => (sgn x).2.length).sum + 5 := by
      unfold numsL
      rw [List.map_append, List.sum_append, last_four]
    have h2 := sum_le (l := ((ns.take 4).map (·.fmod 1000000)).map fun x => (sgn x).2.length) (B := 3) (by
      intro k hk
      obtain ⟨x, _, rfl⟩ := List.mem_map.mp hk
      have := (good_len (sgn_good x)).2
      exact this)
    rw [List.length_map, List.length_map, List.length_take] at h2
    lia
end
section
theorem escF_app : ∀ (a b : List Nat) (e : Bool), escF e (a ++ b) = escF (escF e a) b
  | [], _, _ => by simp [escF]
  | c :: a, b, true => by simp only [List.cons_append, escF]; exact escF_app a b false
  | c :: a, b, false => by
    simp only [List.cons_append, escF]
    exact escF_app a b _
theorem escN_app : ∀ (a b : List Nat) (e : Bool) (p : Nat), escN e p (a ++ b) = escN e p a ++ escN (escF e a) (p + a.length) b
  | [], _, e, _ => by cases e <;> simp [escN, escF]
  | c :: a, b, true, p => by
    simp only [List.cons_append, escN, escF, List.length_cons, escN_app a b]
    rw [show p + 1 + a.length = p + (a.length + 1) by lia]
  | c :: a, b, false, p => by
    simp only [List.cons_append, escN, escF, List.length_cons]
    split
    · rename_i h
      rw [escN_app a b, show p + 1 + a.length = p + (a.length + 1) by lia, decide_eq_true h]
    · rename_i h
      rw [escN_app a b, show p + 1 + a.length = p + (a.length + 1) by lia, decide_eq_false h]; rfl
noncomputable def parL : Nat → List Nat
  | 0 => [41]
  | c + 1 => 40 :: parL c
theorem parL_rep : ∀ c, List.replicate c 40 ++ [41] = parL c
  | 0 => rfl
  | c + 1 => by rw [List.replicate_succ, List.cons_append, parL_rep c]; rfl
theorem parL_len : ∀ c, (parL c).length = c + 1
  | 0 => rfl
  | c + 1 => by simp only [parL, List.length_cons, parL_len c]
theorem parL_34 : ∀ c, 34 ∉ parL c
  | 0 => by decide
  | c + 1 => by simp only [parL, List.mem_cons, not_or]; exact ⟨by decide, parL_34 c⟩
theorem escF_par : ∀ c, escF false (parL c) = false
  | 0 => by decide
  | c + 1 => escF_par c
theorem escN_par (p c : Nat) : escN false p (parL (c + 1)) = (p, ⟨#[40]⟩) :: escN false (p + 1) (parL c) := rfl
theorem step_no {X : Str} {st : SS} {p : Nat} {ch : Str} (h : (ch.cps.toList == [34]) = false) : stripStep X st (p, ch) = st := by
  unfold stripStep
  rw [if_neg (by rw [h]; exact Bool.false_ne_true)]
theorem strip_par (X : Str) : ∀ (c p : Nat) (st : SS), (escN false p (parL c)).foldl (stripStep X) st = st
  | 0, p, st => by
    show stripStep X st (p, ⟨#[41]⟩) = st
    exact step_no (by decide)
  | c + 1, p, st => by
    rw [escN_par, List.foldl_cons, step_no (ch := ⟨#[40]⟩) (by decide)]
    exact strip_par X c (p + 1) st
theorem chk_app : ∀ (a b : List (Nat × Str)) (o : Int), chkRun (a ++ b) o = (chkRun a o).bind (chkRun b)
  | [], _, _ => rfl
  | (p, c) :: a, b, o => by
    simp only [List.cons_append, chkRun]
    split
    · exact chk_app a b _
    · split
      · split
        · rfl
        · exact chk_app a b _
      · exact chk_app a b _
theorem chk_par : ∀ (c p : Nat) (o : Int), chkRun (escN false p (parL c)) o = if o + c - 1 < 0 then none else some (o + c - 1)
  | 0, p, o => by
    show (if o - 1 < 0 then none else some (o - 1)) = _
    simp
  | c + 1, p, o => by
    rw [escN_par]
    show chkRun (escN false (p + 1) (parL c)) (o + 1) = _
    rw [chk_par c (p + 1) (o + 1), show o + 1 + (c : Int) - 1 = o + ((c + 1 : Nat) : Int) - 1 by lia]
noncomputable def hidL : Nat → List Nat
  | 0 => []
  | 1 => [92, 40]
  | 2 => [34, 41, 34]
  | _ => [34, 92, 34, 40, 34]
noncomputable def hidK : Nat → List Nat
  | 1 => [92, 40]
  | _ => []
noncomputable def pcL (q : Nat × Nat) : List Nat := hidL q.1 ++ parL q.2
noncomputable def pcK (q : Nat × Nat) : List Nat := hidK q.1 ++ parL q.2
theorem escF_hid (h : Nat) : escF false (hidL h) = false := by
  unfold hidL; split <;> decide
theorem escF_hidK (h : Nat) : escF false (hidK h) = false := by
  unfold hidK; split <;> decide
theorem escF_pc (q : Nat × Nat) : escF false (pcL q) = false := by
  unfold pcL; rw [escF_app, escF_hid, escF_par]
theorem escF_pcK (q : Nat × Nat) : escF false (pcK q) = false := by
  unfold pcK; rw [escF_app, escF_hidK, escF_par]
theorem escF_all : ∀ qs : List (Nat × Nat), escF false (qs.map pcL).flatten = false
  | [] => rfl
  | q :: qs => by rw [List.map_cons, List.flatten_cons, escF_app, escF_pc, escF_all qs]
theorem escF_allK : ∀ qs : List (Nat × Nat), escF false (qs.map pcK).flatten = false
  | [] => rfl
  | q :: qs => by rw [List.map_cons, List.flatten_cons, escF_app, escF_pcK, escF_allK qs]
noncomputable def keptL (st : SS) (u : List Nat) : List Nat := (st.res.map (·.cps.toList)).flatten ++ u.drop st.start
theorem hid_fold (X : Str) (h p : Nat) (st : SS) (hs : st.start ≤ p) (ho : st.op = none) :
    (escN false p (hidL h)).foldl (stripStep X) st = match h with
      | 0 => st
      | 1 => st
      | 2 => ⟨p + 3, none, if st.start = p then st.res else st.res ++ [slS X st.start p]⟩
      | _ => ⟨p + 5, none, if st.start = p then st.res else st.res ++ [slS X st.start p]⟩ := by
  obtain ⟨s0, o0, r0⟩ := st
  cases ho
  unfold hidL
  split
  · rfl
  · show stripStep X ⟨s0, none, r0⟩ (p + 1, ⟨#[92, 40]⟩) = _
    exact step_no (by decide)
  · rfl
  · rfl
theorem piece_fold (X : Str) (q : Nat × Nat) (u v : List Nat) (st : SS) (hX : X.cps.toList = u ++ (pcL q ++ v)) (hs : st.start ≤ u.length) (ho : st.op = none) :
    ∃ st', (escN false u.length (pcL q)).foldl (stripStep X) st = st' ∧ st'.op = none ∧ st'.start ≤ (u ++ pcL q).length ∧ keptL st' (u ++ pcL q) = keptL st u ++ pcK q := by
  obtain ⟨h, c⟩ := q
  refine ⟨_, rfl, ?_⟩
  unfold pcL
  rw [escN_app, List.foldl_append, escF_hid, strip_par, hid_fold X h _ st hs ho]
  have hq : st.start = u.length ∨ st.start ≠ u.length := by lia
  have cut : ((if st.start = u.length then st.res else st.res ++ [slS X st.start u.length]).map (·.cps.toList)).flatten = (st.res.map (·.cps.toList)).flatten ++ u.drop st.start := by
    rcases hq with h1 | h1
    · rw [if_pos h1, h1, List.drop_length, List.append_nil]
    · rw [if_neg h1, List.map_append, List.flatten_append]
      congr 1
      have hb : u.length ≤ X.length := by
        have := congrArg List.length hX
        rw [List.length_append] at this
        rw [show X.length = X.cps.toList.length by simp [Str.length]]
        lia
      have := slice_two X hs hb
      simp only [List.map_cons, List.map_nil, List.flatten_cons, List.flatten_nil, List.append_nil]
      unfold slS
      rw [this, hX, List.drop_append_of_le_length hs, List.take_append_of_le_length (by rw [List.length_drop]; lia), List.take_of_length_le (by rw [List.length_drop]; lia)]
  match h with
  | 0 =>
    refine ⟨ho, by show st.start ≤ _; rw [List.length_append]; lia, ?_⟩
    show keptL st (u ++ (hidL 0 ++ parL c)) = _
    unfold keptL pcK
    rw [List.drop_append_of_le_length hs, List.append_assoc]
    rfl
  | 1 =>
    refine ⟨ho, by show st.start ≤ _; rw [List.length_append]; lia, ?_⟩
    show keptL st (u ++ (hidL 1 ++ parL c)) = _
    unfold keptL pcK
    rw [List.drop_append_of_le_length hs, List.append_assoc]
    rfl
  | 2 =>
    refine ⟨rfl, by rw [List.length_append, List.length_append]; show u.length + 3 ≤ u.length + (3 + _); lia, ?_⟩
    show keptL ⟨u.length + 3, none, if st.start = u.length then st.res else st.res ++ [slS X st.start u.length]⟩ (u ++ (hidL (2) ++ parL c)) = _
    unfold keptL pcK
    dsimp only
    rw [cut, List.drop_append, show List.drop (u.length + 3) u = [] from List.drop_of_length_le (by lia), show u.length + 3 - u.length = 3 by lia]
    rfl
  | h + 3 =>
    refine ⟨rfl, by rw [List.length_append, List.length_append]; show u.length + 5 ≤ u.length + (5 + _); lia, ?_⟩
    show keptL ⟨u.length + 5, none, if st.start = u.length then st.res else st.res ++ [slS X st.start u.length]⟩ (u ++ (hidL (h + 3) ++ parL c)) = _
    unfold keptL pcK
    dsimp only
    rw [cut, List.drop_append, show List.drop (u.length + 5) u = [] from List.drop_of_length_le (by lia), show u.length + 5 - u.length = 5 by lia]
    rfl
theorem all_fold (X : Str) : ∀ (qs : List (Nat × Nat)) (u : List Nat) (st : SS), X.cps.toList = u ++ (qs.map pcL).flatten → st.start ≤ u.length → st.op = none →
    ∃ st', (escN false u.length (qs.map pcL).flatten).foldl (stripStep X) st = st' ∧ st'.start ≤ X.length ∧ keptL st' X.cps.toList = keptL st u ++ (qs.map pcK).flatten
  | [], u, st, hX, hs, ho => by
    simp only [List.map_nil, List.flatten_nil, List.append_nil] at hX ⊢
    refine ⟨st, rfl, ?_, by rw [hX]⟩
    rw [show X.length = X.cps.toList.length by simp [Str.length], hX]; exact hs
  | q :: qs, u, st, hX, hs, ho => by
    rw [List.map_cons, List.flatten_cons] at hX
    obtain ⟨st1, e1, o1, s1, k1⟩ := piece_fold X q u _ st hX hs ho
    obtain ⟨st2, e2, s2, k2⟩ := all_fold X qs (u ++ pcL q) st1 (by rw [hX, List.append_assoc]) s1 o1
    refine ⟨st2, ?_, s2, ?_⟩
    · rw [List.map_cons, List.flatten_cons, escN_app, List.foldl_append, e1, escF_pc, ← e2, List.length_append]
    · rw [k2, k1, List.map_cons, List.flatten_cons, List.append_assoc]
theorem same_no : ∀ qs : List (Nat × Nat), 34 ∉ (qs.map pcL).flatten → (qs.map pcL).flatten = (qs.map pcK).flatten
  | [], _ => rfl
  | q :: qs, h => by
    rw [List.map_cons, List.flatten_cons, List.mem_append, not_or] at h
    rw [List.map_cons, List.flatten_cons, List.map_cons, List.flatten_cons, same_no qs h.2]
    congr 1
    obtain ⟨c, d⟩ := q
    have h1 := h.1
    unfold pcL at h1 ⊢
    unfold pcK
    match c with
    | 0 => rfl
    | 1 => rfl
    | 2 => exact absurd (List.mem_append_left _ (by show 34 ∈ [34, 41, 34]; decide)) h1
    | c + 3 => exact absurd (List.mem_append_left _ (by show 34 ∈ [34, 92, 34, 40, 34]; decide)) h1
theorem strip_all (qs : List (Nat × Nat)) : (stripS (mkS (qs.map pcL).flatten)).cps.toList = (qs.map pcK).flatten := by
  have hX : (mkS (qs.map pcL).flatten).cps.toList = (qs.map pcL).flatten := by simp [mkS]
  unfold stripS
  split
  · rename_i h
    obtain ⟨st, e1, e2, e3⟩ := all_fold (mkS (qs.map pcL).flatten) qs [] ⟨0, none, []⟩ (by rw [hX]; rfl) (Nat.le_refl _) rfl
    rw [hX, show (escN false 0 (qs.map pcL).flatten).foldl (stripStep (mkS (qs.map pcL).flatten)) ⟨0, none, []⟩ = st from e1]
    have e4 : keptL ⟨0, none, []⟩ [] = [] := rfl
    rw [e4, List.nil_append, hX] at e3
    rw [← e3]
    dsimp only
    rw [join_flat]
    unfold keptL
    split
    · rename_i hl
      rw [List.map_append, List.flatten_append]
      congr 1
      have := slice_from (mkS (qs.map pcL).flatten) e2
      simp only [List.map_cons, List.map_nil, List.flatten_cons, List.flatten_nil, List.append_nil]
      unfold slE
      rw [this, hX]
    · rename_i hl
      rw [List.drop_of_length_le, List.append_nil]
      have : (mkS (qs.map pcL).flatten).length = (qs.map pcL).flatten.length := by simp [mkS, Str.length]
      lia
  · rename_i h
    rw [hX] at h ⊢
    exact same_no qs h
noncomputable def dyck : List Nat → Int → Option Int
  | [], o => some o
  | c :: r, o => if o + c - 1 < 0 then none else dyck r (o + c - 1)
noncomputable def dyckB (cs : List Nat) : Bool := match dyck cs 0 with
  | none => false
  | some o => o == 0
theorem chk_hidK (h p : Nat) (o : Int) : chkRun (escN false p (hidK h)) o = some o := by
  unfold hidK; split
  · show (if ((⟨#[92, 40]⟩ : Str).cps.toList == [40]) = true then _ else if ((⟨#[92, 40]⟩ : Str).cps.toList == [41]) = true then _ else chkRun [] o) = _
    rw [if_neg (by decide), if_neg (by decide)]
    rfl
  · rfl
theorem chk_all : ∀ (qs : List (Nat × Nat)) (p : Nat) (o : Int), chkRun (escN false p (qs.map pcK).flatten) o = dyck (qs.map (·.2)) o
  | [], _, _ => rfl
  | q :: qs, p, o => by
    rw [List.map_cons, List.flatten_cons, escN_app, chk_app, escF_pcK]
    have e : chkRun (escN false p (pcK q)) o = if o + q.2 - 1 < 0 then none else some (o + q.2 - 1) := by
      unfold pcK
      rw [escN_app, chk_app, chk_hidK, escF_hidK]
      exact chk_par _ _ _
    rw [e, List.map_cons]
    unfold dyck
    split
    · rfl
    · exact chk_all qs _ _
theorem check_all (qs : List (Nat × Nat)) : checkS (mkS (qs.map pcL).flatten) = dyckB (qs.map (·.2)) := by
  unfold checkS dyckB
  rw [strip_all, chk_all]
  all_goals (cases dyck (qs.map (·.2)) 0 <;> rfl)
end
section
theorem hid_at : ∀ h, h < 4 → (hid.getD h (Str.ofString "")).cps.toList = hidL h := by decide +kernel
theorem piece_is (m p : Int) (c : Nat) : (pieceS m p c).cps.toList = pcL (hidAt m p, c) := by
  have hb := fmod_b (m.fdiv (4 ^ (p + 1).toNat)) 4 (by decide)
  have hh : hidAt m p < 4 := by unfold hidAt; lia
  unfold pieceS pcL
  rw [Str.cps_append, Array.toList_append, Str.cps_append, Array.toList_append, hid_at _ hh, List.append_assoc]
  congr 1
  rw [show (Str.ofString ")").cps.toList = [41] by decide +kernel]
  show (List.replicate c 40).toArray.toList ++ [41] = _
  rw [List.toList_toArray]
  exact parL_rep c
theorem text_is (m : Int) (ws st : List Int) (k : Nat) (hst : ∀ p ∈ st, 0 ≤ p ∧ p < k) : textN (piecesN m ws k) st = mkS ((st.map fun p => (hidAt m p, ws.count p)).map pcL).flatten := by
  apply Str.ext'
  apply Array.toList_inj.mp
  unfold textN
  rw [join_flat, List.map_map, List.map_map]
  show _ = (mkS _).cps.toList
  rw [show ∀ l, (mkS l).cps.toList = l from fun l => by simp [mkS]]
  congr 1
  apply List.map_congr_left
  intro p hp
  obtain ⟨h0, h1⟩ := hst p hp
  have hlt : p.toNat < k := by lia
  have hp' : ((p.toNat : Nat) : Int) = p := by lia
  simp only [Function.comp_def]
  rw [List.getD_eq_getElem?_getD, List.getElem?_map, List.getElem?_range hlt, Option.map_some, Option.getD_some, hp']
  exact piece_is m p _
theorem pcL_len (q : Nat × Nat) : (pcL q).length ≤ q.2 + 6 := by
  have : (hidL q.1).length ≤ 5 := by unfold hidL; split <;> decide
  unfold pcL
  rw [List.length_append, parL_len]; lia
theorem pcK_len (q : Nat × Nat) : (pcK q).length ≤ q.2 + 6 := by
  have : (hidK q.1).length ≤ 5 := by unfold hidK; split <;> decide
  unfold pcK
  rw [List.length_append, parL_len]; lia
theorem flat_len (f : Nat × Nat → List Nat) (qs : List (Nat × Nat)) (hf : ∀ q ∈ qs, (f q).length ≤ 16) (hl : qs.length ≤ 10) : (qs.map f).flatten.length ≤ 160 := by
  rw [List.length_flatten, List.map_map]
  have := sum_le (l := qs.map (List.length ∘ f)) (B := 16) (by intro k hk; obtain ⟨q, hq, rfl⟩ := List.mem_map.mp hk; exact hf q hq)
  rw [List.length_map] at this
  lia
theorem fit_of (m : Int) (ws st : List Int) (k : Nat) (c : Bool) (hst : ∀ p ∈ st, 0 ≤ p ∧ p < k) (hl : st.length ≤ 10) (hw : ws.length ≤ 10) (hd : dyckB (st.map fun p => ws.count p) = c) : FitX (textN (piecesN m ws k) st) c := by
  rw [text_is m ws st k hst]
  have hq : ∀ q ∈ st.map fun p => (hidAt m p, ws.count p), q.2 ≤ 10 := by
    intro q hq
    obtain ⟨p, _, rfl⟩ := List.mem_map.mp hq
    exact Nat.le_trans List.count_le_length hw
  have hql : (st.map fun p => (hidAt m p, ws.count p)).length ≤ 10 := by rw [List.length_map]; exact hl
  have hd' : dyckB ((st.map fun p => (hidAt m p, ws.count p)).map (·.2)) = c := by rw [List.map_map]; exact hd
  generalize (st.map fun p => (hidAt m p, ws.count p)) = qs at hq hql hd' ⊢
  have e1 : (mkS (qs.map pcL).flatten).cps.toList = (qs.map pcL).flatten := by simp [mkS]
  refine ⟨?_, ?_, ?_, ?_, ?_⟩
  · rw [show ∀ x : Str, x.length = x.cps.toList.length from fun x => by simp [Str.length], e1]
    have := flat_len pcL qs (fun q h => by have := pcL_len q; have := hq q h; lia) hql
    lia
  · rw [e1]; exact escF_all qs
  · rw [show ∀ x : Str, x.length = x.cps.toList.length from fun x => by simp [Str.length], strip_all]
    have := flat_len pcK qs (fun q h => by have := pcK_len q; have := hq q h; lia) hql
    lia
  · rw [strip_all]; exact escF_allK qs
  · rw [check_all]; exact hd'
theorem pieces_len (m : Int) (ws : List Int) (k : Nat) (hw : ws.length ≤ 10) : ∀ p ∈ piecesN m ws k, p.length ≤ 200 := fun p hp => by
  obtain ⟨i, _, rfl⟩ := List.mem_map.mp hp
  rw [show ∀ x : Str, x.length = x.cps.toList.length from fun x => by simp [Str.length], piece_is]
  have := pcL_len (hidAt m i, ws.count (i : Int))
  have := List.count_le_length (a := (i : Int)) (l := ws)
  dsimp only at *
  lia
end
section
noncomputable def vecs : Nat → Nat → List (List Nat)
  | 0, _ => [[]]
  | k + 1, s => (List.range (s + 1)).flatMap fun a => (vecs k (s - a)).map (a :: ·)
theorem vecs_mem : ∀ (cs : List Nat) (s : Nat), cs.sum ≤ s → cs ∈ vecs cs.length s
  | [], _, _ => by simp [vecs]
  | c :: cs, s, h => by
    rw [List.sum_cons] at h
    refine List.mem_flatMap.mpr ⟨c, List.mem_range.mpr (by lia), List.mem_map.mpr ⟨cs, vecs_mem cs (s - c) (by lia), rfl⟩⟩
noncomputable def rot (cs : List Nat) (k i : Nat) : List Nat := (List.range k).map fun j => cs.getD ((i + k - j) % k) 0
noncomputable def foldRow : List Nat → Nat → Nat → Nat → Nat
  | [], _, _, most => most
  | c :: r, j, many, most => foldRow r (j + 1) (many + c) (bif Nat.ble (many + c - j) most then most else many + c - j)
noncomputable def toldF (cs : List Nat) (k : Nat) : List Nat := (List.range k).map fun i => foldRow (rot cs k i) 0 0 0
noncomputable def foldRowN : Nat → List Nat → Nat → Nat → Nat → Nat
  | 0, _, _, _, most => most
  | _ + 1, [], _, _, most => most
  | n + 1, c :: r, j, many, most => foldRowN n r (j + 1) (many + c) (bif Nat.ble (many + c - j) most then most else many + c - j)
noncomputable def toldG (k : Nat) : Nat → List Nat → List Nat → List Nat
  | 0, _, acc => acc
  | n + 1, L, acc => toldG k n L.tail (foldRowN k L 0 0 0 :: acc)
noncomputable def toldH (cs : List Nat) (k : Nat) : List Nat := toldG k k (cs.reverse ++ cs.reverse) []
theorem foldRowN_is : ∀ (n : Nat) (l : List Nat) (j many most : Nat), foldRowN n l j many most = foldRow (l.take n) j many most
  | 0, _, _, _, _ => rfl
  | _ + 1, [], _, _, _ => rfl
  | n + 1, c :: r, _, _, _ => foldRowN_is n r _ _ _
theorem toldG_is (k : Nat) : ∀ (n : Nat) (L acc : List Nat), toldG k n L acc = ((List.range n).map fun i => foldRowN k (L.drop (n - 1 - i)) 0 0 0) ++ acc
  | 0, _, _ => rfl
  | n + 1, L, acc => by
    unfold toldG
    rw [toldG_is k n, List.range_succ, List.map_append, List.append_assoc]
    congr 1
    · apply List.map_congr_left
      intro i hi
      have h1 : n + 1 - 1 - i = n - 1 - i + 1 := by
        obtain ⟨d, rfl⟩ := Nat.exists_eq_add_of_lt (List.mem_range.mp hi)
        rw [Nat.add_sub_cancel, Nat.add_sub_cancel, Nat.add_sub_cancel_left, Nat.add_assoc, Nat.add_sub_cancel_left]
      rw [h1, List.drop_tail]
    · rw [List.map_singleton, Nat.add_sub_cancel, Nat.sub_self]; rfl
theorem modA {k i j : Nat} (hj : j ≤ i) (hi : i < k) : (i + k - j) % k = i - j := by
  rw [Nat.add_comm, Nat.add_sub_assoc hj, Nat.add_mod_left, Nat.mod_eq_of_lt (Nat.lt_of_le_of_lt (Nat.sub_le _ _) hi)]
theorem modB {k i j : Nat} (hj : i < j) : (i + k - j) % k = i + k - j ∨ k = 0 := by
  cases k with
  | zero => exact .inr rfl
  | succ k => exact .inl (Nat.mod_eq_of_lt (by lia))
theorem ixA {k i j : Nat} (hj : j ≤ i) (hi : i < k) : k - 1 - i + j < k ∧ k - 1 - (k - 1 - i + j) = i - j := by
  obtain ⟨d, rfl⟩ := Nat.exists_eq_add_of_lt hi
  obtain ⟨e, rfl⟩ := Nat.exists_eq_add_of_le hj
  have h : j + e + d + 1 - 1 - (j + e) + j = d + j := by rw [Nat.add_sub_cancel, Nat.add_sub_cancel_left]
  have h2 : j + e + d = e + (d + j) := by ac_rfl
  rw [h, Nat.add_sub_cancel, Nat.add_sub_cancel_left, h2, Nat.add_sub_cancel]
  exact ⟨Nat.lt_succ_of_le (Nat.le_add_left _ _), rfl⟩
theorem ixB {k i j : Nat} (hj : i < j) (hk : j < k) : k ≤ k - 1 - i + j ∧ k - 1 - i + j - k < k ∧ k - 1 - (k - 1 - i + j - k) = i + k - j := by
  obtain ⟨d, rfl⟩ := Nat.exists_eq_add_of_lt hj
  obtain ⟨e, rfl⟩ := Nat.exists_eq_add_of_lt hk
  have h0 : i + d + 1 + e = i + (d + 1 + e) := by ac_rfl
  have h1 : i + d + 1 + e + 1 - 1 - i + (i + d + 1) = i + d + 1 + e + 1 + d := by
    rw [Nat.add_sub_cancel, h0, Nat.add_sub_cancel_left]; ac_rfl
  have h2 : i + d + 1 + e = i + 1 + e + d := by ac_rfl
  have h3 : i + (i + d + 1 + e + 1) = i + d + 1 + (i + 1 + e) := by ac_rfl
  rw [h1, Nat.add_sub_cancel_left, Nat.add_sub_cancel, h3, Nat.add_sub_cancel_left]
  refine ⟨Nat.le_add_right _ _, ?_, by rw [h2, Nat.add_sub_cancel]⟩
  rw [h2]
  exact Nat.lt_succ_of_le (Nat.le_add_left _ _)
theorem rot_is {cs : List Nat} {k i : Nat} (hl : cs.length = k) (hi : i < k) : rot cs k i = ((cs.reverse ++ cs.reverse).drop (k - 1 - i)).take k := by
  apply List.ext_getElem?
  intro j
  unfold rot
  rcases Nat.lt_or_ge j k with hj | hj
  · have hm : (i + k - j) % k < cs.length := hl.symm ▸ Nat.mod_lt _ (Nat.lt_of_le_of_lt (Nat.zero_le _) hi)
    have e : cs[(i + k - j) % k]? = some (cs.getD ((i + k - j) % k) 0) := by
      rw [List.getD_eq_getElem?_getD, List.getElem?_eq_getElem hm]; rfl
    rw [List.getElem?_map, List.getElem?_range hj, List.getElem?_take_of_lt hj, List.getElem?_drop, Option.map_some, ← e]
    rcases Nat.lt_or_ge i j with hc | hc
    · obtain ⟨a1, a2, a3⟩ := ixB hc hj
      rw [List.getElem?_append_right (by rw [List.length_reverse, hl]; exact a1), List.length_reverse, hl, List.getElem?_reverse (hl.symm ▸ a2), hl, a3]
      rcases modB (k := k) hc with h | h
      · rw [h]
      · exact absurd h (Nat.ne_of_gt (Nat.lt_of_le_of_lt (Nat.zero_le _) hi))
    · obtain ⟨a1, a2⟩ := ixA hc hi
      rw [List.getElem?_append_left (by rw [List.length_reverse, hl]; exact a1), List.getElem?_reverse (hl.symm ▸ a1), hl, a2, modA hc hi]
  · rw [List.getElem?_eq_none (by rw [List.length_map, List.length_range]; exact hj), List.getElem?_eq_none (Nat.le_trans (by rw [List.length_take]; exact Nat.min_le_left _ _) hj)]
theorem told_H {cs : List Nat} {k : Nat} (hl : cs.length = k) : toldH cs k = toldF cs k := by
  unfold toldH toldF
  rw [toldG_is, List.append_nil]
  apply List.map_congr_left
  intro i hi
  rw [foldRowN_is, ← rot_is hl (List.mem_range.mp hi)]
noncomputable def freeG : List Nat → Nat → List Nat
  | [], _ => []
  | d :: r, i => bif Nat.beq d 0 then i :: freeG r (i + 1) else freeG r (i + 1)
noncomputable def castL (l : List Nat) : List Int := l.map fun (i : Nat) => (i : Int)
noncomputable def freeF (ds : List Nat) (i : Nat) : List Int := castL (freeG ds i)
noncomputable def incN : List Nat → Nat → List Nat
  | [], _ => []
  | c :: r, 0 => (c + 1) :: r
  | c :: r, x + 1 => c :: incN r x
noncomputable def eqN : List Nat → List Nat → Bool
  | [], [] => true
  | a :: r, b :: s => Nat.beq a b && eqN r s
  | _, _ => false
noncomputable def bisF (a : List Nat) (x : Nat) : Nat → Nat → Nat → Nat
  | 0, lo, _ => lo
  | f + 1, lo, hi => bif Nat.blt lo hi then (bif Nat.blt (a.getD ((lo + hi) / 2) 0) x then bisF a x f ((lo + hi) / 2 + 1) hi else bisF a x f lo ((lo + hi) / 2)) else lo
noncomputable def ifreeF (fr : List Nat) (x : Nat) : Nat := let j := bisF fr x fr.length 0 fr.length; bif Nat.blt j fr.length then j else 0
noncomputable def upF (d : Nat) : Nat := bif Nat.beq d 0 then 0 else d + 1
noncomputable def wayG (k x place : Nat) : List Nat := (List.range ((place + k - x) % k + 1)).map fun s => (x + s) % k
noncomputable def setsF (ds : List Nat) (way : List Nat) : List Nat := way.foldl (fun r o => r.set o (upF (ds.getD o 0))) ds
noncomputable def stepOk (k : Nat) (cs : List Nat) (x : Nat) : Bool :=
  let ds := toldH cs k
  let fr := freeG ds 0
  let i := ifreeF fr x
  let place := fr.getD i 0
  let ds1 := setsF ds (wayG k x place)
  let ds2 := ds1.set place (ds1.getD place 0 + 1)
  !fr.isEmpty && Nat.ble fr.length 100 && Nat.blt place k && ds.all (fun d => Nat.ble d 50) && eqN ds2 (toldH (incN cs x) k) && eqN (fr.eraseIdx i) (freeG ds2 0)
theorem step4 : ((vecs 4 2).all fun cs => (List.range 4).all fun x => stepOk 4 cs x) = true := by decide +kernel
theorem step5 : ((vecs 5 3).all fun cs => (List.range 5).all fun x => stepOk 5 cs x) = true := by decide +kernel
noncomputable def vecsE : Nat → Nat → List (List Nat)
  | 0, 0 => [[]]
  | 0, _ + 1 => []
  | k + 1, s => (List.range (s + 1)).flatMap fun a => (vecsE k (s - a)).map (a :: ·)
theorem vecsE_mem : ∀ (cs : List Nat) (s : Nat), cs.sum = s → cs ∈ vecsE cs.length s
  | [], s, h => by cases h; exact List.mem_singleton.mpr rfl
  | c :: cs, s, h => by
    rw [List.sum_cons] at h
    refine List.mem_flatMap.mpr ⟨c, List.mem_range.mpr (by lia), List.mem_map.mpr ⟨cs, vecsE_mem cs (s - c) (by lia), rfl⟩⟩
noncomputable def stF (k first len : Nat) : List Nat := (List.range len).map fun s => (first + s) % k
noncomputable def dueF (ds : List Nat) (over : Nat) (st : List Nat) : Bool := Nat.beq (ds.getD (st.getD (st.length - 1) 0) 0) (over + 1) && st.all fun p => Nat.blt over (ds.getD p 0)
noncomputable def overF (ds : List Nat) (k first : Nat) : Nat := ds.getD (bif Nat.beq first 0 then k - 1 else first - 1) 0 - 1
noncomputable def dyckF : List Nat → Nat → Bool
  | [], o => Nat.beq o 0
  | c :: r, o => bif Nat.beq (o + c) 0 then false else dyckF r (o + c - 1)
noncomputable def finalOk (k : Nat) (cs : List Nat) : Bool :=
  let ds := toldH cs k
  ds.all (fun d => Nat.ble d 100) && (List.range k).all fun first => (List.range (k - 1)).all fun l => dyckF ((stF k first (l + 1)).map fun p => cs.getD p 0) 0 == dueF ds (overF ds k first) (stF k first (l + 1))
theorem final4 : ((vecsE 4 3).all fun cs => finalOk 4 cs) = true := by decide +kernel
theorem final5 : ((vecsE 5 4).all fun cs => finalOk 5 cs) = true := by decide +kernel
theorem final6 : ((vecsE 6 5).all fun cs => finalOk 6 cs) = true := by decide +kernel
noncomputable def stepA (a : Nat) : Bool := (vecs 5 (4 - a)).all fun cs => (List.range 6).all fun x => stepOk 6 (a :: cs) x
theorem step60 : stepA 0 = true := by decide +kernel
theorem step61 : stepA 1 = true := by decide +kernel
theorem step62 : stepA 2 = true := by decide +kernel
theorem step63 : stepA 3 = true := by decide +kernel
theorem step64 : stepA 4 = true := by decide +kernel
theorem step6 : ((vecs 6 4).all fun cs => (List.range 6).all fun x => stepOk 6 cs x) = true := by
  refine List.all_eq_true.mpr fun cs hcs => ?_
  obtain ⟨a, ha, hb⟩ := List.mem_flatMap.mp (show cs ∈ (List.range 5).flatMap fun a => (vecs 5 (4 - a)).map (a :: ·) from hcs)
  obtain ⟨r, hr, rfl⟩ := List.mem_map.mp hb
  have all5 : ∀ a ∈ List.range 5, stepA a = true := by
    intro a ha
    have h5 := List.mem_range.mp ha
    rcases Nat.lt_succ_iff_lt_or_eq.mp h5 with h5 | rfl
    · rcases Nat.lt_succ_iff_lt_or_eq.mp h5 with h5 | rfl
      · rcases Nat.lt_succ_iff_lt_or_eq.mp h5 with h5 | rfl
        · rcases Nat.lt_succ_iff_lt_or_eq.mp h5 with h5 | rfl
          · rw [Nat.lt_one_iff.mp h5]; exact step60
          · exact step61
        · exact step62
      · exact step63
    · exact step64
  exact List.all_eq_true.mp (all5 a ha) r hr
end
section
noncomputable def cntN (ns : List Int) (k : Nat) : List Nat := (List.range k).map fun (i : Nat) => ns.count (i : Int)
theorem cntN_len (ns : List Int) (k : Nat) : (cntN ns k).length = k := by simp [cntN]
theorem cntN_at (ns : List Int) {k i : Nat} (h : i < k) : (cntN ns k).getD i 0 = ns.count (i : Int) := by
  simp [cntN, List.getD_eq_getElem?_getD, h]
theorem cnts_N (ns : List Int) (k : Nat) : cntsI ns k = (cntN ns k).map fun (c : Nat) => (c : Int) := by
  simp [cntsI, cntN, Function.comp_def]
theorem cast_at (cs : List Nat) (i : Nat) : (cs.map fun (c : Nat) => (c : Int)).getD i 0 = ((cs.getD i 0 : Nat) : Int) := by
  simp only [List.getD_eq_getElem?_getD, List.getElem?_map]
  cases cs[i]? <;> rfl
theorem cast_mod (a k : Nat) : ((a : Nat) : Int).fmod (k : Nat) = ((a % k : Nat) : Int) := by
  rw [Int.fmod_eq_emod_of_nonneg _ (by lia)]; rfl
theorem back_mod {k i j : Nat} (hj : j < k) : ((i : Int) - ((1 : Int) + (j : Nat)) + 1).fmod k = (((i + k - j) % k : Nat) : Int) := by
  rw [← cast_mod, show ((i : Int) - (1 + (j : Nat)) + 1) = ((i + k - j : Nat) : Int) + (k : Int) * (-1) by lia, Int.fmod_eq_emod_of_nonneg _ (by lia), Int.fmod_eq_emod_of_nonneg _ (by lia), Int.add_mul_emod_self_left]
theorem fold_row (cs : List Nat) (k i : Nat) : ∀ (js : List Nat) (j0 many most : Nat), (∀ m, m < js.length → js[m]? = some (j0 + m)) → j0 + js.length ≤ k →
    ((js.map fun (j : Nat) => (1 : Int) + (j : Nat)).foldl (toldStep (cs.map fun (c : Nat) => (c : Int)) k i) ((most : Int), (many : Int))).1 = ((foldRow (js.map fun j => cs.getD ((i + k - j) % k) 0) j0 many most : Nat) : Int)
  | [], _, _, _, _, _ => rfl
  | j :: js, j0, many, most, hj, hk => by
    have e : j = j0 := by have := hj 0 (by simp); simpa using this
    subst e
    simp only [List.length_cons] at hk
    rw [List.map_cons, List.foldl_cons, List.map_cons]
    unfold foldRow
    have hs : toldStep (cs.map fun (c : Nat) => (c : Int)) k i ((most : Int), (many : Int)) (1 + (j : Nat)) = (((bif Nat.ble (many + cs.getD ((i + k - j) % k) 0 - j) most then most else many + cs.getD ((i + k - j) % k) 0 - j : Nat) : Int), ((many + cs.getD ((i + k - j) % k) 0 : Nat) : Int)) := by
      unfold toldStep
      dsimp only
      rw [back_mod (by lia), Int.toNat_natCast, cast_at]
      refine Prod.ext ?_ (by dsimp only; lia)
      dsimp only
      cases hb : Nat.ble (many + cs.getD ((i + k - j) % k) 0 - j) most
      · have : ¬ (many + cs.getD ((i + k - j) % k) 0 - j ≤ most) := fun h => by rw [Nat.ble_eq_true_of_le h] at hb; cases hb
        rw [cond_false, if_pos (by lia)]; lia
      · have := Nat.le_of_ble_eq_true hb
        rw [cond_true, if_neg (by lia)]
    rw [hs]
    exact fold_row cs k i js (j + 1) _ _ (fun m hm => by have := hj (m + 1) (by simpa using hm); rw [List.getElem?_cons_succ] at this; rw [this]; congr 1; lia) (by lia)
theorem most_F (cs : List Nat) (k i : Nat) : mostAt (cs.map fun (c : Nat) => (c : Int)) k i = ((foldRow (rot cs k i) 0 0 0 : Nat) : Int) := by
  unfold mostAt rot spanI
  rw [Int.toNat_natCast]
  exact fold_row cs k i (List.range k) 0 0 0 (fun m hm => by rw [List.length_range] at hm; simp [hm]) (by simp)
theorem told_F (ns : List Int) (k : Nat) : toldS ns k = rowsS (toldF (cntN ns k) k) := by
  unfold toldS rowsS toldF
  rw [List.map_map]
  congr 1
  apply List.map_congr_left
  intro i _
  unfold rowT
  rw [cnts_N, most_F]
  rfl
theorem eqN_is : ∀ {a b : List Nat}, eqN a b = true → a = b
  | [], [], _ => rfl
  | [], _ :: _, h => by cases h
  | _ :: _, [], h => by cases h
  | a :: r, b :: s, h => by
    unfold eqN at h
    rw [Bool.and_eq_true] at h
    rw [Nat.eq_of_beq_eq_true h.1, eqN_is h.2]
theorem inc_len : ∀ (l : List Nat) (x : Nat), (incN l x).length = l.length
  | [], _ => rfl
  | _ :: _, 0 => rfl
  | _ :: r, x + 1 => by simp only [incN, List.length_cons, inc_len r x]
theorem inc_at : ∀ (l : List Nat) (x i : Nat), (incN l x)[i]? = if i = x then (l[i]?).map (· + 1) else l[i]?
  | [], x, i => by simp [incN]
  | c :: r, 0, 0 => by simp [incN]
  | c :: r, 0, i + 1 => by simp [incN]
  | c :: r, x + 1, 0 => by simp [incN]
  | c :: r, x + 1, i + 1 => by
    simp only [incN, List.getElem?_cons_succ, inc_at r x i]
    by_cases h : i = x <;> simp [h]
theorem inc_sum : ∀ (l : List Nat) (x : Nat), x < l.length → (incN l x).sum = l.sum + 1
  | [], _, h => by cases h
  | c :: r, 0, _ => by simp only [incN, List.sum_cons]; lia
  | c :: r, x + 1, h => by
    have := inc_sum r x (by simpa using h)
    simp only [incN, List.sum_cons, this]; lia
theorem cnt_cons (p : List Int) (x : Int) (k : Nat) (h0 : 0 ≤ x) : cntN (x :: p) k = incN (cntN p k) x.toNat := by
  apply List.ext_getElem?
  intro i
  rw [inc_at]
  unfold cntN
  by_cases hi : i < k
  · simp only [List.getElem?_map, List.getElem?_range hi, Option.map_some, List.count_cons]
    by_cases hx : i = x.toNat
    · have : (x == (i : Int)) = true := by rw [beq_iff_eq]; lia
      rw [if_pos hx, this]; simp
    · have : (x == (i : Int)) = false := by rw [beq_eq_false_iff_ne]; lia
      rw [if_neg hx, this]; simp
  · have e : (List.range k)[i]? = none := by simp; lia
    simp [List.getElem?_map, e]
theorem cnt_perm {p q : List Int} (h : p.Perm q) (k : Nat) : cntN p k = cntN q k := by
  unfold cntN
  apply List.map_congr_left
  intro i _
  exact h.count_eq _
theorem cnt_sum (k : Nat) : ∀ (p : List Int), (∀ x ∈ p, 0 ≤ x ∧ x < k) → (cntN p k).sum = p.length
  | [], _ => by
    have : ∀ l : List Nat, (l.map fun (i : Nat) => ([] : List Int).count (i : Int)).sum = 0 := by
      intro l
      induction l with
      | nil => rfl
      | cons a l ih => rw [List.map_cons, List.sum_cons, ih]; simp
    exact this _
  | x :: p, h => by
    have hx := h x (by simp)
    rw [cnt_cons p x k hx.1, inc_sum _ _ (by rw [cntN_len]; lia), cnt_sum k p fun y hy => h y (List.mem_cons_of_mem _ hy)]
    simp
noncomputable def StepK (k : Nat) : Prop := ((vecs k (k - 2)).all fun cs => (List.range k).all fun x => stepOk k cs x) = true
noncomputable def FinalK (k : Nat) : Prop := ((vecsE k (k - 1)).all fun cs => finalOk k cs) = true
theorem bis_F (a : List Nat) (x : Nat) : ∀ f lo hi, bis (castL a) (x : Int) f lo hi = bisF a x f lo hi
  | 0, _, _ => rfl
  | f + 1, lo, hi => by
    unfold bis bisF
    rw [show (castL a).getD ((lo + hi) / 2) 0 = ((a.getD ((lo + hi) / 2) 0 : Nat) : Int) from cast_at a _]
    cases h : Nat.blt lo hi
    · rw [if_neg (fun q => by rw [Nat.blt_eq.mpr q] at h; cases h), cond_false]
    · rw [if_pos (Nat.blt_eq.mp h), cond_true]
      cases h' : Nat.blt (a.getD ((lo + hi) / 2) 0) x
      · rw [if_neg (fun q => by rw [Nat.blt_eq.mpr (Int.ofNat_lt.mp q)] at h'; cases h'), cond_false]
        exact bis_F a x f _ _
      · rw [if_pos (Int.ofNat_lt.mpr (Nat.blt_eq.mp h')), cond_true]
        exact bis_F a x f _ _
theorem ifree_F (fr : List Nat) (x : Nat) : ifree (castL fr) (x : Int) = ifreeF fr x := by
  unfold ifree ifreeF
  dsimp only
  rw [bis_F, show (castL fr).length = fr.length by simp [castL]]
  cases h : Nat.blt (bisF fr x fr.length 0 fr.length) fr.length
  · rw [if_neg (fun q => by rw [Nat.blt_eq.mpr q] at h; cases h), cond_false]
  · rw [if_pos (Nat.blt_eq.mp h), cond_true]
theorem way_F {k x place : Nat} (hx : x < k) : wayN k (x : Int) (place : Int) = castL (wayG k x place) := by
  unfold wayN wayG castL
  have e : ((place : Int) - (x : Int)).fmod k = (((place + k - x) % k : Nat) : Int) := by
    rw [← cast_mod, show ((place : Int) - (x : Int)) = ((place + k - x : Nat) : Int) + (k : Int) * (-1) by lia, Int.fmod_eq_emod_of_nonneg _ (by lia), Int.fmod_eq_emod_of_nonneg _ (by lia), Int.add_mul_emod_self_left]
  rw [e, show ((((place + k - x) % k : Nat) : Int) + 1).toNat = (place + k - x) % k + 1 from rfl, List.map_map]
  apply List.map_congr_left
  intro s _
  show ((x : Int) + (s : Nat)).fmod k = _
  rw [← Int.natCast_add, cast_mod]
  rfl
theorem up_F (d : Nat) : up d = upF d := by cases d <;> rfl
theorem sets_F (ds way : List Nat) : setsN ds (sentN ds (castL way)) = setsF ds way := by
  unfold setsN sentN setsF castL
  rw [List.map_map, List.foldl_map]
  congr 1
  funext r o
  show r.set ((o : Int).toNat) (up (ds.getD ((o : Int).toNat) 0)) = _
  rw [Int.toNat_natCast, up_F]
theorem erase_F : ∀ (l : List Nat) (i : Nat), (castL l).eraseIdx i = castL (l.eraseIdx i)
  | [], _ => rfl
  | _ :: _, 0 => rfl
  | a :: l, i + 1 => by
    show (a : Int) :: (castL l).eraseIdx i = _
    rw [erase_F l i]; rfl
theorem step_at {k : Nat} (H : StepK k) (hk : 2 ≤ k) (hk10 : k ≤ 10) {p : List Int} (hp : ∀ x ∈ p, 0 ≤ x ∧ x < k) (hl : p.length + 2 ≤ k) {x : Int} (h0 : 0 ≤ x) (h1 : x < k) :
    okTurn k (freeF (toldF (cntN p k) k) 0) (toldF (cntN p k) k) x = true ∧ parkN k (freeF (toldF (cntN p k) k) 0) (toldF (cntN p k) k) x = (freeF (toldF (cntN (p ++ [x]) k) k) 0, toldF (cntN (p ++ [x]) k) k) := by
  obtain ⟨y, rfl⟩ := Int.eq_ofNat_of_zero_le h0
  have hy : y < k := Int.ofNat_lt.mp h1
  have hm := vecs_mem (cntN p k) (k - 2) (by rw [cnt_sum k p hp]; lia)
  rw [cntN_len] at hm
  have h := List.all_eq_true.mp (List.all_eq_true.mp H _ hm) y (List.mem_range.mpr hy)
  have e : incN (cntN p k) y = cntN (p ++ [(y : Int)]) k := by
    rw [← show cntN ((y : Int) :: p) k = incN (cntN p k) y from cnt_cons p y k h0]
    exact cnt_perm (by simpa using (List.perm_append_comm (l₁ := [(y : Int)]) (l₂ := p))) k
  unfold stepOk at h
  rw [e, told_H (cntN_len _ _), told_H (cntN_len _ _)] at h
  dsimp only at h
  simp only [Bool.and_eq_true] at h
  obtain ⟨⟨⟨⟨⟨q1, q2⟩, q3⟩, q4⟩, q5⟩, q6⟩ := h
  have hds : (toldF (cntN p k) k).length = k := by simp [toldF]
  generalize toldF (cntN p k) k = ds at *
  have hat : (freeF ds 0).getD (ifree (freeF ds 0) (y : Int)) 0 = (((freeG ds 0).getD (ifreeF (freeG ds 0) y) 0 : Nat) : Int) := by
    rw [show ifree (freeF ds 0) (y : Int) = ifreeF (freeG ds 0) y from ifree_F _ _]; exact cast_at _ _
  refine ⟨?_, ?_⟩
  · unfold okTurn
    rw [hat, hds]
    simp only [Bool.and_eq_true, decide_eq_true_eq, beq_self_eq_true, and_true]
    refine ⟨⟨⟨⟨?_, ?_⟩, ?_⟩, ?_⟩, ?_⟩
    · rw [show (freeF ds 0).isEmpty = (freeG ds 0).isEmpty by unfold freeF castL; cases freeG ds 0 <;> rfl]; exact q1
    · rw [show (freeF ds 0).length = (freeG ds 0).length by simp [freeF, castL]]; exact Nat.le_of_ble_eq_true q2
    · exact ⟨Int.natCast_nonneg _, Int.ofNat_lt.mpr (Nat.blt_eq.mp q3)⟩
    · exact List.all_eq_true.mpr fun d hd => decide_eq_true (Nat.le_of_ble_eq_true (List.all_eq_true.mp q4 d hd))
    · lia
  · unfold parkN
    rw [hat]
    dsimp only
    rw [way_F hy, sets_F, show ifree (freeF ds 0) (y : Int) = ifreeF (freeG ds 0) y from ifree_F _ _, Int.toNat_natCast, eqN_is q5]
    refine Prod.ext ?_ rfl
    show (castL (freeG ds 0)).eraseIdx _ = _
    rw [erase_F, eqN_is q6, eqN_is q5]; rfl
theorem park_told {k : Nat} (H : StepK k) (hk : 2 ≤ k) (hk10 : k ≤ 10) : ∀ (ws p : List Int), (∀ x ∈ p, 0 ≤ x ∧ x < k) → (∀ x ∈ ws, 0 ≤ x ∧ x < k) → p.length + ws.length + 1 ≤ k →
    parkAll k ws (freeF (toldF (cntN p k) k) 0) (toldF (cntN p k) k) = some ((List.range ws.length).map fun i => toldF (cntN (p ++ ws.take (i + 1)) k) k)
  | [], _, _, _, _ => rfl
  | x :: ws, p, hp, hw, hl => by
    simp only [List.length_cons] at hl
    have hx := hw x (by simp)
    obtain ⟨h1, h2⟩ := step_at H hk hk10 hp (by lia) hx.1 hx.2
    have ih := park_told H hk hk10 ws (p ++ [x]) (fun y hy => by
      rcases List.mem_append.mp hy with h | h
      · exact hp y h
      · rw [List.mem_singleton.mp h]; exact hx) (fun y hy => hw y (List.mem_cons_of_mem _ hy)) (by rw [List.length_append]; simp only [List.length_cons, List.length_nil]; lia)
    unfold parkAll
    rw [if_pos h1, h2]
    dsimp only
    rw [ih, Option.map_some, List.length_cons, List.range_succ_eq_map, List.map_cons, List.map_map]
    congr 2
    apply List.map_congr_left
    intro i _
    simp
theorem dAt_cast (ds : List Nat) (p : Nat) : dAt (ds.map fun (d : Nat) => (d : Int)) ((p : Nat) : Int) = ((ds.getD p 0 : Nat) : Int) := by
  unfold dAt; rw [Int.toNat_natCast, cast_at]
theorem st_cast (k first len : Nat) : stN k first len = (stF k first len).map fun (p : Nat) => (p : Int) := by
  unfold stN stF
  rw [List.map_map]
  apply List.map_congr_left
  intro s _
  show ((first : Int) + (s : Nat)).fmod k = _
  rw [← Int.natCast_add, cast_mod]
  rfl
theorem blt_iff (a b : Nat) : Nat.blt a b = decide ((a : Int) < (b : Int)) := by
  rw [Bool.eq_iff_iff, decide_eq_true_eq, Nat.blt_eq]; lia
theorem beq_int (a b : Nat) : Nat.beq a b = ((a : Int) == (b : Int)) := by
  rw [Bool.eq_iff_iff, beq_iff_eq, beq_iff]; lia
theorem due_cast (ds : List Nat) (over : Nat) (st : List Nat) : dueN (ds.map fun (d : Nat) => (d : Int)) (over : Int) (st.map fun (p : Nat) => (p : Int)) = dueF ds over st := by
  unfold dueN dueF
  rw [List.length_map, cast_at, dAt_cast, beq_int, List.all_map]
  congr 1
  refine List.all_congr rfl fun p => ?_
  show decide ((over : Int) < dAt _ (p : Int)) = _
  rw [dAt_cast, blt_iff]
theorem over_cast (ds : List Nat) (k first : Nat) : overN (ds.map fun (d : Nat) => (d : Int)) k first = ((overF ds k first : Nat) : Int) := by
  unfold overN overF
  have e : (if first = 0 then k - 1 else first - 1) = (bif Nat.beq first 0 then k - 1 else first - 1) := by
    cases first <;> rfl
  rw [e, cast_at]
  generalize ds.getD (bif Nat.beq first 0 then k - 1 else first - 1) 0 = d
  split <;> lia
theorem dyck_F : ∀ (cs : List Nat) (o : Nat), (match dyck cs (o : Int) with | none => false | some o => o == 0) = dyckF cs o
  | [], o => by
    show ((o : Int) == 0) = Nat.beq o 0
    rw [beq_int]; rfl
  | c :: r, o => by
    unfold dyck dyckF
    cases h : Nat.beq (o + c) 0
    · have h' : o + c ≠ 0 := beq_ff.mp h
      rw [if_neg (by lia), show ((o : Int) + (c : Int) - 1) = ((o + c - 1 : Nat) : Int) by lia]
      exact dyck_F r _
    · have h' := Nat.eq_of_beq_eq_true h
      rw [if_pos (by lia)]; rfl
theorem dyckB_F (cs : List Nat) : dyckB cs = dyckF cs 0 := dyck_F cs 0
theorem toldF_len (cs : List Nat) (k : Nat) : (toldF cs k).length = k := by simp [toldF]
theorem final_at {k : Nat} (H : FinalK k) {p : List Int} (hp : ∀ x ∈ p, 0 ≤ x ∧ x < k) (hl : p.length + 1 = k) :
    (∀ d ∈ toldF (cntN p k) k, d ≤ 100) ∧ ∀ first len, first < k → 1 ≤ len → len < k → dyckB ((stN k first len).map fun x => p.count x) = dueN ((toldF (cntN p k) k).map fun (d : Nat) => (d : Int)) (overN ((toldF (cntN p k) k).map fun (d : Nat) => (d : Int)) k first) (stN k first len) := by
  have hm := vecsE_mem (cntN p k) (k - 1) (by rw [cnt_sum k p hp]; lia)
  rw [cntN_len] at hm
  have h := List.all_eq_true.mp H _ hm
  unfold finalOk at h
  rw [told_H (cntN_len _ _)] at h
  dsimp only at h
  rw [Bool.and_eq_true] at h
  refine ⟨fun d hd => Nat.le_of_ble_eq_true (List.all_eq_true.mp h.1 d hd), fun first len h1 h2 h3 => ?_⟩
  have h4 := List.all_eq_true.mp (List.all_eq_true.mp h.2 first (List.mem_range.mpr h1)) (len - 1) (List.mem_range.mpr (by lia))
  rw [show len - 1 + 1 = len by lia] at h4
  rw [over_cast, st_cast, due_cast, dyckB_F, ← eq_of_beq h4, List.map_map]
  congr 1
  apply List.map_congr_left
  intro q hq
  have hq' : q < k := by
    obtain ⟨s, _, rfl⟩ := List.mem_map.mp hq
    exact Nat.mod_lt _ (by lia)
  show p.count (q : Int) = _
  rw [cntN_at p hq']
theorem start_k {k : Nat} (h4 : 4 ≤ k) (h6 : k ≤ 6) : freeN k = freeF (toldF (cntN [] k) k) 0 ∧ List.replicate k 0 = toldF (cntN [] k) k ∧ StepK k ∧ FinalK k := by
  have : k = 4 ∨ k = 5 ∨ k = 6 := by lia
  rcases this with rfl | rfl | rfl
  · exact ⟨by decide +kernel, by decide +kernel, step4, final4⟩
  · exact ⟨by decide +kernel, by decide +kernel, step5, final5⟩
  · exact ⟨by decide +kernel, by decide +kernel, step6, final6⟩
theorem runs_ok : RunsOk := by
  intro m k ws h4 h6 hl hw
  obtain ⟨e1, e2, H, HF⟩ := start_k h4 h6
  have P : ∀ us : List Int, us.length + 1 = k → (∀ x ∈ us, 0 ≤ x ∧ x < k) → parkAll k us (freeN k) (List.replicate k 0) = some ((List.range us.length).map fun i => toldF (cntN (us.take (i + 1)) k) k) := by
    intro us hu hx
    have := park_told H (by lia) (by lia) us [] (fun _ h => nomatch h) hx (by simp; lia)
    rw [← e1, ← e2] at this
    exact this
  have L : ∀ us : List Int, us.length + 1 = k → dotsN ((List.range us.length).map fun i => toldF (cntN (us.take (i + 1)) k) k) = toldF (cntN us k) k := by
    intro us hu
    unfold dotsN
    rw [List.length_map, List.length_range, List.getD_eq_getElem?_getD, List.getElem?_map, List.getElem?_range (by lia), Option.map_some, Option.getD_some, show us.length - 1 + 1 = us.length by lia, List.take_length]
  have hr : ws.reverse.length + 1 = k := by rw [List.length_reverse]; exact hl
  obtain ⟨f1, f2⟩ := final_at HF hw hl
  refine ⟨_, _, P ws hl hw, ?_, ?_, P ws.reverse hr (fun x hx => hw x (List.mem_reverse.mp hx)), ?_, ?_, ?_, ?_, ?_, ?_⟩
  · simp; exact hl
  · intro i hi
    rw [List.length_map, List.length_range] at hi
    rw [told_F, List.getD_eq_getElem?_getD, List.getElem?_map, List.getElem?_range hi, Option.map_some, Option.getD_some]
  · simp
  · rw [L _ hr, L _ hl, cnt_perm (List.reverse_perm ws)]
  · rw [L _ hl, toldF_len]
  · rw [L _ hl]; exact f1
  · exact pieces_len m ws k (by lia)
  · intro first len h1 h2 h3
    refine fit_of m ws _ k _ (stN_b (by lia)) (by rw [stN_len]; lia) (by lia) ?_
    unfold dotsI
    rw [L _ hl]
    exact f2 first len h1 h2 h3
end
section
theorem bb {a b : Bool} (h : a = true) (h' : b = true) : (a && b) = true := by rw [h, h']; rfl
noncomputable abbrev rO : OpenRow := OpenLaw.row PySem.Challenge.rw_us0015_01
noncomputable abbrev pO : Program := rO.prog
theorem said1 : sreFenced pO.main = true := by kernel_rfl
theorem said2 : ((moduleNames pO.main.body).isEmpty || lookedIntoSs (moduleNames pO.main.body) pO.main.body) = true := by kernel_rfl
theorem said3 : namesResolve pO = true := by kernel_rfl
theorem said4 : pO.boundNames.all (fun n => !worldNames.contains n) = true := by kernel_rfl
theorem said5 : noRoadLSs { strict := !(importedModules pO.main.body).all cThrough.contains, foot := none, bare := (["vars", "dir", "locals"] : List Str).filter (readsOut pO pO.main.body) } pO.main.body = true := by kernel_rfl
theorem said6 : (namesMeet pO pO.main.body fun _ n => attrL n) = true := by kernel_rfl
theorem said_a : looksOpen rO.prog = true := bb (bb (bb (bb (bb said1 said2) said3) said4) said5) said6
theorem said_b : OpenRow.partSaid rO = true := by
  delta OpenRow.partSaid
  repeat' (with_reducible refine bb ?_ ?_)
  exact said_a
  all_goals kernel_rfl
theorem said_c : OpenRow.wellSaid rO = true := by
  delta OpenRow.wellSaid
  repeat' (with_reducible refine bb ?_ ?_)
  exact said_b
  all_goals kernel_rfl
theorem said_d : OpenLaw.wellSaid PySem.Challenge.rw_us0015_01 = true := by
  delta OpenLaw.wellSaid
  repeat' (with_reducible refine bb ?_ ?_)
  exact said_c
  all_goals kernel_rfl
theorem promised : rr.promised := ⟨[.list []], by decide +kernel, by decide +kernel⟩
theorem final (H : LawCall) : PySem.Challenge.rw_us0015_01.Holds := by
  refine holds_law said_d fun said => ?_
  have hw := promised
  refine ⟨said, hw, ?_⟩
  obtain ⟨k5, k6⟩ := Bool.and_eq_true_iff.mp k_frees
  obtain ⟨hsame, hu, ha, hap, hm⟩ := frees_parts k5
  refine ⟨⟨k_bare, k_opens, rfl⟩, hw.witness, fun w => ⟨(head w).1, fun s hs => ?_⟩⟩
  obtain ⟨os, hf⟩ := (head w).2 s hs
  refine ⟨_, hf, rfl, (Xe w os).abs, top_ran w os, ?_, ?_, ?_, ?_⟩
  · intro n hn
    have : n = S "law" := by
      have e : (if PySem.Challenge.rw_us0015_01.row.pinned = true then [PySem.Challenge.rw_us0015_01.row.name] else []) = [S "law"] := rfl
      rw [e] at hn
      simpa using hn
    subst this
    exact law_pinned w os
  · intro x hx; exact nomatch hx
  · intro x hx; exact nomatch hx
  · refine ClaimW.callFrom_of_specG (c := rr.claim) (Xe_asleep w os) rfl fun args hpre hlay ord hord => ?_
    have keepsNs := main_ns w os
    obtain ⟨⟨vs, s₁⟩, hlaid⟩ := Option.isSome_iff_exists.mp (layAllW_isSome (cl := classAt (Xe w os).abs.heap) (P := w.params) (ord := ord) (fun c hc => nomatch (show (WRecords.fields? [] c).isSome = true from hc)) args rr.args (Xe w os).abs (pre_splitW hpre).1)
    have keeps := layAllW_keeps _ _ _ hlaid
    have hal := layAllW_rest _ _ _ hlaid
    obtain ⟨as, hrd, hin, hold⟩ := reads_layAllW hord _ _ _ hlaid hlay s₁.heap (fun _ _ e => e)
    have L : Laid rr.records w (Xe w os).abs s₁ args vs as := ⟨⟨ord, hord, hlaid⟩, hrd, hin, hold, keeps, hal.1, hal.2.2.1⟩
    have hi := ident_freeW hu ha hap
    have hwi : rr.claim.within = [] := List.isEmpty_iff.mp k6
    obtain ⟨l, items, ns, rfl, hl, hints, hlen⟩ := script_of hpre hrd
    refine ⟨[.ref l], s₁, hlaid, ?_⟩
    have hg : (Xe w os).abs.heap.nsMap mainGlobals (S "law") = some (.ref 178) := (Pin.globalOf_eq (k_main w os) _).symm.trans (k_law_glob w os)
    have X := H w os s₁ l items ns keeps hal.1 hl hints hlen
    refine wpAny_bind (wpAny_nsGet (keepsNs.keeps keeps) ?_)
    show wpAny (model pw w) callerA (match (Xe w os).abs.heap.nsMap mainGlobals (S "law") with | some f => (do let v ← call f [Value.ref l]; ret v) | none => unsupported "claim.caller:no-such-global") _ _ s₁
    rw [hg]
    refine wpAny_bind (wpAny_mono X (fun v s' hv => ?_) fun _ _ x => x.elim)
    obtain ⟨rfl, hk, hos, hb⟩ := hv
    refine wpAny_pure ⟨_, rfl, ?_⟩
    have g : GoodWG rr.claim (classAt (Xe w os).abs.heap) (ExcName.means (Xe w os).abs.heap) args s₁ (.ok (.ret (.bool true))) s' :=
      ⟨.inl ⟨.bool true, .bool true, [], rfl, fun _ => rfl, .bool true, ?_, fun _ => ⟨.nil, fun _ h => nomatch h⟩⟩, .of_keep hk, hos, hb⟩
    · have z := g.laid (c := rr.claim) hsame hwi hi L
      exact ⟨z.1, z.2.1, z.2.2, fun q => nomatch q⟩
    · kernel_rfl
end
end Mine
theorem PySem.Challenge.cw_us0015_01_holds : PySem.Challenge.rw_us0015_01.Holds :=
  Mine.final (Mine.law_call Mine.letters_ok Mine.runs_ok)
